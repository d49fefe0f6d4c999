import JvmDerived
import JvmDerived.Pilot.@@N@@Statement
import JvmDerived.Pilot.@@N@@Code
set_option linter.unusedVariables false
set_option linter.unusedSimpArgs false
namespace Jvm.RoadKit
open Sem ClassFile Op Lib Jvm.Stand Jvm.Free Jvm.LawKit
section New
variable {p : Program} {l : Launch} {e : Env} {R : Room} {s : State} {m : MethodId} {args : Array Value} {below : List Frame} {meth : Method} {c : Code} {T : State} {locs : List Loc} {cells slots : Nat}
theorem retI (X : Stand p l e R s m args below meth c T locs cells slots) (hx : p.tables.exec = Jvm.exec) {pc : Nat} {Ls : Array Slot} {z : Int32} {rest : List Value} (hret : meth.sig.returnType = some .int) (hd : decode c.code pc = .ok (.ireturn, 1)) {fs : List Frame}
    (hl : ∀ (f : JFrame) (acts : List Action), f.method = m → f.locked = none → f.entered = [] → (doReturn e (T.setTop f) acts (some (.int z))).1 = T.setFrames fs) : Steps p.tables e below (T.setTop (mkF m pc Ls (.int z :: rest))) (T.setFrames fs) := by
  have hm' : T.vm.method? m = some meth := X.method'
  have hn : narrow .int (.int z) = .int z := rfl
  show Steps p.tables e below (T.setTop { method := m, pc := pc, locals := Ls, stack := _ :: rest, locked := none }) _
  jvm_step X.here [X.here.top, hx, hd, hm', hret, hn]
  first | (intro acts; rw [hl _ acts rfl rfl rfl]) | rw [hl _ _ rfl rfl rfl]
  exact Steps.refl _
end New
end Jvm.RoadKit
namespace Jvm.Pilot.@@N@@
open Jvm Jvm.ClassFile Sem Op Lib Jvm.Free Jvm.Stand Jvm.LawKit Jvm.RoadKit Bundle Jvm.Pilot.@@N@@.Jvm.D
theorem own_retJ {p : Program} {l : Launch} {e : Env} {R : Room} {s : State} {m : MethodId} {args : Array Value} {below : List Frame} {meth : Method} {c : Code} {T : State} {locs : List Loc} {cells slots : Nat} (X : Stand p l e R s m args below meth c T locs cells slots) (hx : p.tables.exec = Jvm.exec) {pc : Nat} {Ls : Array Slot} {z : Int64} {rest : List Value} (hret : meth.sig.returnType = some .long) (hd : decode c.code pc = .ok (.lreturn, 1)) {fs : List Frame}
    (hl : ∀ (f : JFrame) (acts : List Action), f.method = m → f.locked = none → f.entered = [] → (doReturn e (T.setTop f) acts (some (.long z))).1 = T.setFrames fs) : Steps p.tables e below (T.setTop (mkF m pc Ls (.long z :: rest))) (T.setFrames fs) := by
  have hm' : T.vm.method? m = some meth := X.method'
  have hn : narrow .long (.long z) = .long z := rfl
  show Steps p.tables e below (T.setTop { method := m, pc := pc, locals := Ls, stack := _ :: rest, locked := none }) _
  jvm_step X.here [X.here.top, hx, hd, hm', hret, hn]
  first | (intro acts; rw [hl _ acts rfl rfl rfl]) | rw [hl _ _ rfl rfl rfl]
  exact Steps.refl _
/-! plain facts on a table of 16 places: keys ks, counts cs (0: free), probed from a key's place on -/
def own_upd (f : Nat → Int64) (q : Nat) (v : Int64) : Nat → Int64 := fun j => if j = q then v else f j
theorem own_upd_at (f : Nat → Int64) (q : Nat) (v : Int64) : own_upd f q v q = v := if_pos rfl
theorem own_upd_ne (f : Nat → Int64) {q j : Nat} (v : Int64) (h : j ≠ q) : own_upd f q v j = f j := if_neg h
def own_hash (x : Int64) : Int32 := (((x * (-7046029254386353131 : Int64)).toUInt64 >>> ((60 : Int32) &&& 0x3f).toInt64.toUInt64).toInt64).toInt32
def own_H (x : Int64) : Nat := (own_hash x).toNatClampNeg
theorem own_hash_b (x : Int64) : 0 ≤ (own_hash x).toInt ∧ (own_hash x).toInt < 16 := by
  have h1 := c_lushr (x * (-7046029254386353131 : Int64)) 60 60 (by decide) (by decide)
  have h2 := c_l2i (((x * (-7046029254386353131 : Int64)).toUInt64 >>> ((60 : Int32) &&& 0x3f).toInt64.toUInt64).toInt64)
  have h3 := rng32 (own_hash x)
  unfold own_hash at *
  have h4 : ((2 : Nat) ^ 60 : Nat) = 1152921504606846976 := by decide
  rw [h4] at h1
  omega
theorem own_H_lt (x : Int64) : own_H x < 16 := by
  have h := own_hash_b x
  have e : own_H x = (own_hash x).toInt.toNat := rfl
  omega
theorem own_H_eq (x : Int64) : own_hash x = Int32.ofNat (own_H x) := by
  have h := own_hash_b x
  have e : own_H x = (own_hash x).toInt.toNat := rfl
  apply Int32.toInt_inj.mp
  rw [Int32.toInt_ofNat_of_lt (by have := own_H_lt x; omega)]
  omega
def own_p (x : Int64) (i : Nat) : Nat := (own_H x + i) % 16
theorem own_p_lt (x : Int64) (i : Nat) : own_p x i < 16 := Nat.mod_lt _ (by decide)
theorem own_p0 (x : Int64) : own_p x 0 = own_H x := by
  unfold own_p
  rw [Nat.add_zero, Nat.mod_eq_of_lt (own_H_lt x)]
theorem own_p_surj (x : Int64) {j : Nat} (hj : j < 16) : ∃ d, d < 16 ∧ j = own_p x d := by
  have h := own_H_lt x
  refine ⟨(j + 16 - own_H x) % 16, Nat.mod_lt _ (by decide), ?_⟩
  unfold own_p
  omega
theorem own_p_inj (x : Int64) {d e : Nat} (hd : d < 16) (he : e < 16) (h : own_p x d = own_p x e) : d = e := by
  have h0 := own_H_lt x
  unfold own_p at h
  omega
theorem own_next16 {n : Nat} (h : n < 16) : (Int32.ofNat n + (1 : Int32)) &&& (15 : Int32) = Int32.ofNat ((n + 1) % 16) := by
  have : ∀ m : Fin 16, (Int32.ofNat m.1 + (1 : Int32)) &&& (15 : Int32) = Int32.ofNat ((m.1 + 1) % 16) := by decide
  exact this ⟨n, h⟩
theorem own_p_next (x : Int64) (i : Nat) : (Int32.ofNat (own_p x i) + (1 : Int32)) &&& (15 : Int32) = Int32.ofNat (own_p x (i + 1)) := by
  rw [own_next16 (own_p_lt x i)]
  have e : (own_p x i + 1) % 16 = own_p x (i + 1) := by unfold own_p; omega
  rw [e]
def own_cnt (f : Nat → Bool) : Nat → Nat
  | 0 => 0
  | n + 1 => own_cnt f n + (if f n = true then 1 else 0)
theorem own_cnt_free (f : Nat → Bool) : ∀ n, own_cnt f n < n → ∃ j, j < n ∧ f j = false
  | 0, h => absurd h (Nat.not_lt_zero _)
  | n + 1, h => by
    cases hf : f n with
    | false => exact ⟨n, Nat.lt_succ_self n, hf⟩
    | true =>
      simp only [own_cnt, hf, if_true] at h
      obtain ⟨j, h1, h2⟩ := own_cnt_free f n (by omega)
      exact ⟨j, by omega, h2⟩
theorem own_cnt_le (f : Nat → Bool) : ∀ n m, n ≤ m → own_cnt f n ≤ own_cnt f m := by
  intro n m h
  induction h with
  | refl => exact Nat.le_refl _
  | step _ ih => exact Nat.le_trans ih (Nat.le_add_right _ _)
theorem own_cnt_congr {f g : Nat → Bool} : ∀ n, (∀ j, j < n → f j = g j) → own_cnt f n = own_cnt g n
  | 0, _ => rfl
  | n + 1, h => by
    rw [own_cnt, own_cnt, own_cnt_congr n (fun j hj => h j (by omega)), h n (by omega)]
theorem own_cnt_set {f g : Nat → Bool} {q : Nat} (hq : f q = false) (hg : g q = true) (hne : ∀ j, j ≠ q → g j = f j) : ∀ n, own_cnt g n = own_cnt f n + (if q < n then 1 else 0)
  | 0 => by simp [own_cnt]
  | n + 1 => by
    rw [own_cnt, own_cnt, own_cnt_set hq hg hne n]
    by_cases h : n = q
    · subst h
      rw [hq, hg]
      simp
    · rw [hne n h]
      by_cases h1 : q < n
      · have h2 : q < n + 1 := by omega
        rw [if_pos h1, if_pos h2]; omega
      · have h2 : ¬ q < n + 1 := by omega
        rw [if_neg h1, if_neg h2, Nat.add_zero, Nat.add_zero]
theorem own_least (P : Nat → Prop) [DecidablePred P] : ∀ n, P n → ∃ d, d ≤ n ∧ P d ∧ ∀ i, i < d → ¬ P i := by
  intro n
  induction n using Nat.strongRecOn with
  | ind n ih =>
    intro hn
    by_cases h : ∃ i, i < n ∧ P i
    · obtain ⟨i, h1, h2⟩ := h
      obtain ⟨d, h3, h4⟩ := ih i h1 h2
      exact ⟨d, by omega, h4⟩
    · exact ⟨n, Nat.le_refl _, hn, fun i hi q => h ⟨i, hi, q⟩⟩
def own_occ (cs : Nat → Int64) : Nat → Bool := fun j => decide (cs j ≠ 0)
theorem own_occ_t {cs : Nat → Int64} {j : Nat} (h : cs j ≠ 0) : own_occ cs j = true := decide_eq_true h
theorem own_occ_f {cs : Nat → Int64} {j : Nat} (h : cs j = 0) : own_occ cs j = false := decide_eq_false (fun q => q h)
def own_Inv (ks cs : Nat → Int64) (sz : Nat) (xs : List Int64) : Prop :=
  (∀ j, j < 16 → cs j ≠ 0 → ks j ∈ xs) ∧ (∀ x ∈ xs, ∃ j, j < 16 ∧ cs j ≠ 0 ∧ ks j = x) ∧
  (∀ j, j < 16 → cs j ≠ 0 → ∃ d, d < 16 ∧ j = own_p (ks j) d ∧ ∀ i, i < d → cs (own_p (ks j) i) ≠ 0 ∧ ks (own_p (ks j) i) ≠ ks j) ∧
  own_cnt (own_occ cs) 16 = sz ∧ sz ≤ xs.length ∧ (∀ j, j < 16 → 0 ≤ (cs j).toInt ∧ (cs j).toInt ≤ xs.length)
theorem own_Inv_nil (ks : Nat → Int64) : own_Inv ks (fun _ => 0) 0 [] :=
  ⟨fun j _ h => absurd rfl h, fun x h => by simp at h, fun j _ h => absurd rfl h, by decide, by decide, fun _ _ => (by decide : 0 ≤ (0 : Int64).toInt ∧ (0 : Int64).toInt ≤ (([] : List Int64).length : Int))⟩
theorem own_place {ks cs : Nat → Int64} {sz : Nat} {xs : List Int64} (I : own_Inv ks cs sz xs) (hl : xs.length ≤ 3) (x : Int64) :
    ∃ d, d < 16 ∧ (∀ i, i < d → cs (own_p x i) ≠ 0 ∧ ks (own_p x i) ≠ x) ∧ (cs (own_p x d) = 0 ∨ ks (own_p x d) = x) := by
  obtain ⟨-, -, -, i4, i5, -⟩ := I
  obtain ⟨j, hj, hf⟩ := own_cnt_free (own_occ cs) 16 (by omega)
  have hc : cs j = 0 := by
    have := of_decide_eq_false hf
    exact Classical.not_not.mp this
  obtain ⟨e, he, rfl⟩ := own_p_surj x hj
  obtain ⟨d, h1, h2, h3⟩ := own_least (fun i => cs (own_p x i) = 0 ∨ ks (own_p x i) = x) e (Or.inl hc)
  exact ⟨d, by omega, fun i hi => ⟨fun q => h3 i hi (Or.inl q), fun q => h3 i hi (Or.inr q)⟩, h2⟩
theorem own_Inv_inj {ks cs : Nat → Int64} {sz : Nat} {xs : List Int64} (I : own_Inv ks cs sz xs) {i j : Nat} (hi : i < 16) (hj : j < 16) (oi : cs i ≠ 0) (oj : cs j ≠ 0) (e : ks i = ks j) : i = j := by
  obtain ⟨-, -, i3, -⟩ := I
  obtain ⟨d, d1, d2, d3⟩ := i3 i hi oi
  obtain ⟨f, f1, f2, f3⟩ := i3 j hj oj
  rw [e] at d2 d3
  rcases Nat.lt_trichotomy d f with h | h | h
  · exfalso
    have q := (f3 d h).2
    rw [← d2] at q
    exact q e
  · exact d2.trans ((congrArg (own_p (ks j)) h).trans f2.symm)
  · exfalso
    have q := (d3 f h).2
    rw [← f2] at q
    exact q rfl
theorem own_Inv_hit {ks cs : Nat → Int64} {sz : Nat} {xs : List Int64} (I : own_Inv ks cs sz xs) (hl : xs.length ≤ 2) {q : Nat} (hq : q < 16) (oq : cs q ≠ 0) : own_Inv ks (own_upd cs q (cs q + 1)) sz (xs ++ [ks q]) := by
  obtain ⟨i1, i2, i3, i4, i5, i6⟩ := I
  have b := i6 q hq
  have e1 := c_ladd (cs q) 1
  have e2 := rng64 (cs q + 1)
  have e3 : (1 : Int64).toInt = 1 := by decide
  have e4 : (cs q + 1).toInt = (cs q).toInt + 1 := by omega
  have nz : cs q + 1 ≠ 0 := fun z => by
    have := congrArg Int64.toInt z
    rw [e4, show (0 : Int64).toInt = 0 by decide] at this
    omega
  have oc : ∀ j, own_upd cs q (cs q + 1) j ≠ 0 ↔ cs j ≠ 0 := fun j => by
    by_cases h : j = q
    · subst h; rw [own_upd_at]; exact ⟨fun _ => oq, fun _ => nz⟩
    · rw [own_upd_ne _ _ h]
  refine ⟨fun j hj h => List.mem_append_left _ (i1 j hj ((oc j).mp h)), fun x hx => ?_, fun j hj h => ?_, ?_, ?_, fun j hj => ?_⟩
  · rcases List.mem_append.mp hx with hx | hx
    · obtain ⟨j, h1, h2, h3⟩ := i2 x hx
      exact ⟨j, h1, (oc j).mpr h2, h3⟩
    · cases List.mem_singleton.mp hx
      exact ⟨q, hq, (oc q).mpr oq, rfl⟩
  · obtain ⟨d, d1, d2, d3⟩ := i3 j hj ((oc j).mp h)
    exact ⟨d, d1, d2, fun i hi => ⟨(oc _).mpr (d3 i hi).1, (d3 i hi).2⟩⟩
  · rw [← i4]
    refine own_cnt_congr 16 (fun j _ => ?_)
    unfold own_occ
    exact decide_eq_decide.mpr (oc j)
  · rw [List.length_append]; exact Nat.le_trans i5 (Nat.le_add_right _ _)
  · rw [List.length_append, List.length_singleton]
    by_cases h : j = q
    · subst h; rw [own_upd_at, e4]; omega
    · rw [own_upd_ne _ _ h]; have := i6 j hj; omega
theorem own_Inv_new {ks cs : Nat → Int64} {sz : Nat} {xs : List Int64} (I : own_Inv ks cs sz xs) {x : Int64} {d : Nat} (hd : d < 16) (hp : ∀ i, i < d → cs (own_p x i) ≠ 0 ∧ ks (own_p x i) ≠ x) (hz : cs (own_p x d) = 0) :
    own_Inv (own_upd ks (own_p x d) x) (own_upd cs (own_p x d) 1) (sz + 1) (xs ++ [x]) := by
  obtain ⟨i1, i2, i3, i4, i5, i6⟩ := I
  generalize hq : own_p x d = q at *
  have q16 : q < 16 := by rw [← hq]; exact own_p_lt x d
  have on : ∀ j, cs j ≠ 0 → j ≠ q := fun j h e => h (e ▸ hz)
  have one : (1 : Int64) ≠ 0 := by decide
  refine ⟨fun j hj h => ?_, fun y hy => ?_, fun j hj h => ?_, ?_, ?_, fun j hj => ?_⟩
  · by_cases e : j = q
    · subst e; rw [own_upd_at]; exact List.mem_append_right _ (List.mem_singleton.mpr rfl)
    · rw [own_upd_ne _ _ e] at h ⊢; exact List.mem_append_left _ (i1 j hj h)
  · rcases List.mem_append.mp hy with hy | hy
    · obtain ⟨j, h1, h2, h3⟩ := i2 y hy
      exact ⟨j, h1, by rw [own_upd_ne _ _ (on j h2)]; exact h2, by rw [own_upd_ne _ _ (on j h2)]; exact h3⟩
    · cases List.mem_singleton.mp hy
      exact ⟨q, q16, by rw [own_upd_at]; exact one, own_upd_at _ _ _⟩
  · by_cases e : j = q
    · subst e
      rw [own_upd_at]
      refine ⟨d, hd, hq.symm, fun i hi => ?_⟩
      have a := hp i hi
      rw [own_upd_ne _ _ (on _ a.1), own_upd_ne _ _ (on _ a.1)]
      exact a
    · rw [own_upd_ne _ _ e] at h
      obtain ⟨f, f1, f2, f3⟩ := i3 j hj h
      rw [own_upd_ne _ _ e]
      refine ⟨f, f1, f2, fun i hi => ?_⟩
      have a := f3 i hi
      rw [own_upd_ne _ _ (on _ a.1), own_upd_ne _ _ (on _ a.1)]
      exact a
  · have := own_cnt_set (f := own_occ cs) (g := own_occ (own_upd cs q 1)) (q := q) (own_occ_f hz) (own_occ_t (by rw [own_upd_at]; exact one)) (fun j hj => by unfold own_occ; rw [own_upd_ne _ _ hj]) 16
    rw [this, if_pos q16, i4]
  · rw [List.length_append, List.length_singleton]; omega
  · rw [List.length_append, List.length_singleton]
    by_cases e : j = q
    · subst e; rw [own_upd_at, show (1 : Int64).toInt = 1 by decide]; omega
    · rw [own_upd_ne _ _ e]; have := i6 j hj; omega
def own_lst (ks : Nat → Int64) (f : Nat → Bool) : Nat → List Int64
  | 0 => []
  | n + 1 => own_lst ks f n ++ (if f n = true then [ks n] else [])
theorem own_lst_len (ks : Nat → Int64) (f : Nat → Bool) : ∀ n, (own_lst ks f n).length = own_cnt f n
  | 0 => rfl
  | n + 1 => by
    rw [own_lst, own_cnt, List.length_append, own_lst_len ks f n]
    by_cases h : f n = true
    · rw [if_pos h, if_pos h]; rfl
    · rw [if_neg h, if_neg h]; rfl
theorem own_lst_mem (ks : Nat → Int64) (f : Nat → Bool) (y : Int64) : ∀ n, y ∈ own_lst ks f n ↔ ∃ j, j < n ∧ f j = true ∧ ks j = y
  | 0 => by simp [own_lst]
  | n + 1 => by
    rw [own_lst, List.mem_append, own_lst_mem ks f y n]
    constructor
    · rintro (⟨j, h1, h2⟩ | h)
      · exact ⟨j, by omega, h2⟩
      · by_cases hf : f n = true
        · rw [if_pos hf] at h
          exact ⟨n, by omega, hf, (List.mem_singleton.mp h).symm⟩
        · rw [if_neg hf] at h; simp at h
    · rintro ⟨j, h1, h2, h3⟩
      by_cases e : j = n
      · subst e
        right; rw [if_pos h2]; exact List.mem_singleton.mpr h3.symm
      · exact Or.inl ⟨j, by omega, h2, h3⟩
theorem own_lst_nodup (ks : Nat → Int64) (f : Nat → Bool) : ∀ n, (∀ i j, i < n → j < n → f i = true → f j = true → ks i = ks j → i = j) → (own_lst ks f n).Nodup
  | 0, _ => by simp [own_lst]
  | n + 1, h => by
    rw [own_lst]
    by_cases hf : f n = true
    · rw [if_pos hf, List.nodup_append]
      refine ⟨own_lst_nodup ks f n (fun i j hi hj => h i j (by omega) (by omega)), by simp, ?_⟩
      intro a ha b hb e
      cases List.mem_singleton.mp hb
      obtain ⟨j, h1, h2, h3⟩ := (own_lst_mem ks f a n).mp ha
      have := h j n (by omega) (by omega) h2 hf (h3.trans e)
      omega
    · rw [if_neg hf, List.append_nil]
      exact own_lst_nodup ks f n (fun i j hi hj => h i j (by omega) (by omega))
theorem own_Inv_lst {ks cs : Nat → Int64} {sz : Nat} {xs : List Int64} (I : own_Inv ks cs sz xs) :
    (own_lst ks (own_occ cs) 16).length = sz ∧ (own_lst ks (own_occ cs) 16).Nodup ∧ ∀ y, y ∈ own_lst ks (own_occ cs) 16 ↔ y ∈ xs := by
  refine ⟨(own_lst_len _ _ 16).trans I.2.2.2.1, own_lst_nodup _ _ 16 (fun i j hi hj fi fj e => own_Inv_inj I hi hj (of_decide_eq_true fi) (of_decide_eq_true fj) e), fun y => ?_⟩
  rw [own_lst_mem]
  constructor
  · rintro ⟨j, h1, h2, rfl⟩
    exact I.1 j h1 (of_decide_eq_true h2)
  · intro h
    obtain ⟨j, h1, h2, h3⟩ := I.2.1 y h
    exact ⟨j, h1, decide_eq_true h2, h3⟩
theorem own_sub_len : ∀ (l k : List Int64), l.Nodup → (∀ y ∈ l, y ∈ k) → l.length ≤ k.length
  | [], k, _, _ => Nat.zero_le _
  | a :: l, k, hn, hs => by
    have ha : a ∈ k := hs a (List.mem_cons_self ..)
    have hn' := List.nodup_cons.mp hn
    have := own_sub_len l (k.erase a) hn'.2 (fun y hy => (List.mem_erase_of_ne (fun e : y = a => hn'.1 (e ▸ hy))).mpr (hs y (List.mem_cons_of_mem _ hy)))
    rw [List.length_erase_of_mem ha] at this
    have h1 : 0 < k.length := List.length_pos_of_mem ha
    rw [List.length_cons]
    omega
def own_d : List Int64 → Nat
  | [] => 0
  | [_] => 1
  | [a, b] => if b = a then 1 else 2
  | a :: b :: c :: _ => (if b = a then 1 else 2) + (if c = a then 0 else if c = b then 0 else 1)
theorem own_d_eq {xs rs : List Int64} (hx : xs.length ≤ 3) (hn : rs.Nodup) (hm : ∀ y, y ∈ rs ↔ y ∈ xs) : rs.length = own_d xs := by
  have key : ∀ ds : List Int64, ds.Nodup → (∀ y, y ∈ ds ↔ y ∈ xs) → rs.length = ds.length := fun ds h1 h2 =>
    Nat.le_antisymm (own_sub_len rs ds hn (fun y hy => (h2 y).mpr ((hm y).mp hy))) (own_sub_len ds rs h1 (fun y hy => (hm y).mpr ((h2 y).mp hy)))
  match xs, hx with
  | [], _ => exact key [] (by simp) (by simp)
  | [a], _ => exact key [a] (by simp) (by simp)
  | [a, b], _ =>
    show rs.length = (if b = a then 1 else 2)
    by_cases h : b = a
    · rw [if_pos h]; exact key [a] (by simp) (by simp [h])
    · rw [if_neg h]; exact key [a, b] (by simp [Ne.symm h]) (by simp)
  | [a, b, c], _ =>
    show rs.length = (if b = a then 1 else 2) + (if c = a then 0 else if c = b then 0 else 1)
    by_cases h : b = a
    · rw [if_pos h]
      by_cases h1 : c = a
      · rw [if_pos h1]; exact key [a] (by simp) (by simp [h, h1])
      · rw [if_neg h1, if_neg (by rw [h]; exact h1)]; exact key [a, c] (by simp [Ne.symm h1]) (by simp [h])
    · rw [if_neg h]
      by_cases h1 : c = a
      · rw [if_pos h1]; exact key [a, b] (by simp [Ne.symm h]) (by intro y; rw [h1]; simp only [List.mem_cons, List.not_mem_nil, or_false]; exact ⟨fun z => z.elim Or.inl (fun z => Or.inr (Or.inl z)), fun z => z.elim Or.inl (fun z => z.elim Or.inr Or.inl)⟩)
      · rw [if_neg h1]
        by_cases h2 : c = b
        · rw [if_pos h2]; exact key [a, b] (by simp [Ne.symm h]) (by intro y; simp [h2])
        · rw [if_neg h2]; exact key [a, b, c] (by simp [Ne.symm h, Ne.symm h1, Ne.symm h2]) (by simp)
theorem own_sel {y : MethodName} {Z : State} {a0 : Array Value} {n : Nat} (hins : (Jvm.Cond.instantiable y.cls n).before a0 Z = true) (hpriv : (Jvm.Cond.privateMethod y).before a0 Z = true) (hinst : (Jvm.Cond.instanceMethod y).before a0 Z = true) (hy : y.cls ≠ "java/lang/invoke/MethodHandle" ∧ y.cls ≠ "java/lang/invoke/VarHandle") : (Jvm.Cond.selects y.cls y y).before a0 Z = true := by
  obtain ⟨c, k, hc, hk, -, hn, -, -⟩ := Cond.instantiable_spec hins
  exact selects_self_of_private hc hk (Bool.or_eq_false_iff.mp hn).1 (Cond.privateMethod_at hpriv) hinst hy
def own_La (Z : State) (h : Heap) (t : Addr) (n : Nat) (f : Nat → Int64) : Prop := ∃ c : Cell, Arr Z h t c .long ∧ c.slots.size = n ∧ ∀ j, j < n → c.slots[j]? = some (.long (f j))
theorem own_La_ext {Z : State} {h h' : Heap} {t : Addr} {n : Nat} {f : Nat → Int64} (F : own_La Z h t n f) (E : Ext h h') : own_La Z h' t n f := by
  obtain ⟨c, A, S, H⟩ := F
  exact ⟨c, A.ext E, S, H⟩
theorem own_La_other {Z : State} {h h' : Heap} {t a : Addr} {n sl : Nat} {v : Value} {f : Nat → Int64} (F : own_La Z h t n f) (W : Wr h h' a sl v) (q : t ≠ a) : own_La Z h' t n f := by
  obtain ⟨c, A, S, H⟩ := F
  exact ⟨c, A.other W q, S, H⟩
theorem own_La_keep {Z : State} {h h' : Heap} {t : Addr} {n : Nat} {ws : List Addr} {f : Nat → Int64} (F : own_La Z h t n f) (K : Keep h h' ws) (q : t ∉ ws) : own_La Z h' t n f := by
  obtain ⟨c, A, S, H⟩ := F
  exact ⟨c, ⟨K.2.1 t c A.1 q, A.2⟩, S, H⟩
theorem own_La_same {Z : State} {h h' : Heap} {t : Addr} {n q : Nat} {v : Int64} {f : Nat → Int64} (F : own_La Z h t n f) (W : Wr h h' t q (.long v)) : own_La Z h' t n (own_upd f q v) := by
  obtain ⟨c, A, S, H⟩ := F
  refine ⟨_, A.same W, by rw [sz_set]; exact S, fun j hj => ?_⟩
  have hs : (c.setSlot q (.long v)).slots = c.slots.setIfInBounds q (.long v) := rfl
  rw [hs, Array.getElem?_setIfInBounds]
  by_cases e : q = j
  · subst e
    rw [if_pos rfl, if_pos (by rw [S]; exact hj), own_upd_at]
  · rw [if_neg e, own_upd_ne _ _ (fun z => e z.symm)]
    exact H j hj
theorem own_La_new {Z : State} {h : Heap} {t : Addr} {k : ClassId} {z : Int32} {n : Nat} (A : Arr Z h t (newA k .long z) .long) (hz : z.toNatClampNeg = n) : own_La Z h t n (fun _ => 0) := by
  refine ⟨_, A, (sz_new _ _ _).trans hz, fun j hj => ?_⟩
  have hs : (newA k .long z).slots = Array.replicate z.toNatClampNeg (defaultValue .long) := rfl
  rw [hs, Array.getElem?_replicate, if_pos (by omega)]
  rfl
theorem own_La_lt {Z : State} {h : Heap} {t : Addr} {n : Nat} {f : Nat → Int64} (F : own_La Z h t n f) : t < h.size := by obtain ⟨c, A, -⟩ := F; exact A.lt
def own_AC (Z : State) (h : Heap) (a t u : Addr) (ks cs : Nat → Int64) (sz : Nat) : Prop :=
  Exa Z h a "com/example/tideshift/tideshift/partition/AccessCounts" ∧ Fld Z h a "com/example/tideshift/tideshift/partition/AccessCounts" "keys" "[J" (.ref t) ∧ Fld Z h a "com/example/tideshift/tideshift/partition/AccessCounts" "counts" "[J" (.ref u) ∧ Fld Z h a "com/example/tideshift/tideshift/partition/AccessCounts" "shift" "I" (.int (60 : Int32)) ∧ Fld Z h a "com/example/tideshift/tideshift/partition/AccessCounts" "size" "I" (.int (Int32.ofNat sz)) ∧ (∃ r : Value, Fld Z h a "com/example/tideshift/tideshift/partition/AccessCounts" "reset" "Ljava/util/Optional;" r) ∧ own_La Z h t 16 ks ∧ own_La Z h u 16 cs ∧ t ≠ u ∧ a ≠ t ∧ a ≠ u
theorem own_i16 {n : Nat} (hn : n < 16) : ¬ (Int32.ofNat n < 0) ∧ (Int32.ofNat n).toNatClampNeg = n := by
  have e : (Int32.ofNat n).toInt = (n : Int) := Int32.toInt_ofNat_of_lt (by omega)
  refine ⟨by rw [Int32.lt_iff_toInt_lt, e, Int32.toInt_zero]; omega, ?_⟩
  rw [Int32.toNatClampNeg, e]; rfl
theorem own_one (i : Nat) : Int32.ofNat i + (1 : Int32) = Int32.ofNat (i + 1) := (Int32.ofNat_add i 1).symm
theorem own_lt {i n : Nat} (h : i < n) (hn : n ≤ 255) : Int32.ofNat i < Int32.ofNat n := by
  rw [Int32.lt_iff_toInt_lt, Int32.toInt_ofNat_of_lt (by omega), Int32.toInt_ofNat_of_lt (by omega)]
  omega
theorem d4_0 : decode jdk_33_method_48_code 0 = .ok (.iload_n 0, 1) := by decide +kernel
theorem d4_1 : decode jdk_33_method_48_code 1 = .ok (.iconst (-1), 1) := by decide +kernel
theorem d4_2 : decode jdk_33_method_48_code 2 = .ok (.ixor, 1) := by decide +kernel
theorem d4_3 : decode jdk_33_method_48_code 3 = .ok (.iload_n 0, 1) := by decide +kernel
theorem d4_4 : decode jdk_33_method_48_code 4 = .ok (.iconst 1, 1) := by decide +kernel
theorem d4_5 : decode jdk_33_method_48_code 5 = .ok (.isub, 1) := by decide +kernel
theorem d4_6 : decode jdk_33_method_48_code 6 = .ok (.iand, 1) := by decide +kernel
theorem d4_7 : decode jdk_33_method_48_code 7 = .ok (.istore_n 0, 1) := by decide +kernel
theorem d4_8 : decode jdk_33_method_48_code 8 = .ok (.iload_n 0, 1) := by decide +kernel
theorem d4_9 : decode jdk_33_method_48_code 9 = .ok (.ifCond .gt 8, 3) := by decide +kernel
theorem d4_17 : decode jdk_33_method_48_code 17 = .ok (.iconst 1, 1) := by decide +kernel
theorem d4_18 : decode jdk_33_method_48_code 18 = .ok (.istore_n 1, 1) := by decide +kernel
theorem d4_19 : decode jdk_33_method_48_code 19 = .ok (.iload_n 0, 1) := by decide +kernel
theorem d4_20 : decode jdk_33_method_48_code 20 = .ok (.ldc_w 264, 3) := by decide +kernel
theorem d4_23 : decode jdk_33_method_48_code 23 = .ok (.if_icmp .le 11, 3) := by decide +kernel
theorem d4_34 : decode jdk_33_method_48_code 34 = .ok (.iload_n 0, 1) := by decide +kernel
theorem d4_35 : decode jdk_33_method_48_code 35 = .ok (.sipush 256, 3) := by decide +kernel
theorem d4_38 : decode jdk_33_method_48_code 38 = .ok (.if_icmp .le 11, 3) := by decide +kernel
theorem d4_49 : decode jdk_33_method_48_code 49 = .ok (.iload_n 0, 1) := by decide +kernel
theorem d4_50 : decode jdk_33_method_48_code 50 = .ok (.bipush 16, 2) := by decide +kernel
theorem d4_52 : decode jdk_33_method_48_code 52 = .ok (.if_icmp .le 10, 3) := by decide +kernel
theorem d4_62 : decode jdk_33_method_48_code 62 = .ok (.iload_n 0, 1) := by decide +kernel
theorem d4_63 : decode jdk_33_method_48_code 63 = .ok (.iconst 4, 1) := by decide +kernel
theorem d4_64 : decode jdk_33_method_48_code 64 = .ok (.if_icmp .le 10, 3) := by decide +kernel
theorem d4_67 : decode jdk_33_method_48_code 67 = .ok (.iinc 1 2, 3) := by decide +kernel
theorem d4_70 : decode jdk_33_method_48_code 70 = .ok (.iload_n 0, 1) := by decide +kernel
theorem d4_71 : decode jdk_33_method_48_code 71 = .ok (.iconst 2, 1) := by decide +kernel
theorem d4_72 : decode jdk_33_method_48_code 72 = .ok (.iushr, 1) := by decide +kernel
theorem d4_73 : decode jdk_33_method_48_code 73 = .ok (.istore_n 0, 1) := by decide +kernel
theorem d4_74 : decode jdk_33_method_48_code 74 = .ok (.iload_n 1, 1) := by decide +kernel
theorem d4_75 : decode jdk_33_method_48_code 75 = .ok (.iload_n 0, 1) := by decide +kernel
theorem d4_76 : decode jdk_33_method_48_code 76 = .ok (.iconst 1, 1) := by decide +kernel
theorem d4_77 : decode jdk_33_method_48_code 77 = .ok (.iushr, 1) := by decide +kernel
theorem d4_78 : decode jdk_33_method_48_code 78 = .ok (.iadd, 1) := by decide +kernel
theorem d4_79 : decode jdk_33_method_48_code 79 = .ok (.ireturn, 1) := by decide +kernel
theorem pn_4 : plainName "java/lang/Integer" = true := by first | (simp [plainName, overriddenIn]; done) | decide +kernel
theorem ef_4 (m : MethodId) (x0 : Int32) : entryFrame m #[(.int x0)] 2 = mkF m 0 #[.val (.int x0), .unset] [] := by first | (simp [entryFrame, mkF, argsToLocals, Value.category]; done) | rfl
def Q4 (Z : State) (p1 : Int32) (h0 : Heap) (n0 : Nat) (v : Option Value) (h : Heap) (L : List Loc) : Prop := v = some (.int (4 : Int32)) ∧ Fr n0 L ∧ h = h0
set_option maxRecDepth 65536 in
set_option maxHeartbeats 40000000 in
theorem rm4 (l : Launch) (Z : State) (a0 : Array Value) (hw : ∀ d ∈ tables_1, d.before a0 Z = true) (ws : List Jvm.Cond) (p1 : Int32) (h0 : Heap) (n0 : Nat) (Z0 : n0 ≤ h0.size) (hc9 : (0 : Int32) < ((p1 ^^^ (-1 : Int32)) &&& (p1 - (1 : Int32)))) (hc23 : ¬ ((65536 : Int32) < ((p1 ^^^ (-1 : Int32)) &&& (p1 - (1 : Int32))))) (hc38 : ¬ ((256 : Int32) < ((p1 ^^^ (-1 : Int32)) &&& (p1 - (1 : Int32))))) (hc52 : ¬ ((16 : Int32) < ((p1 ^^^ (-1 : Int32)) &&& (p1 - (1 : Int32))))) (hc64 : (4 : Int32) < ((p1 ^^^ (-1 : Int32)) &&& (p1 - (1 : Int32)))) (h16 : p1 = (16 : Int32)) :
    MetFree l (⟨"java/lang/Integer", "numberOfTrailingZeros", "(I)I"⟩ : MethodName) (head1 (Jvm.Cond.code (⟨"java/lang/Integer", "numberOfTrailingZeros", "(I)I"⟩ : MethodName) jdk_33_method_48_code 2 (some .int) :: ws) ({ frames := 0, cells := 0, slots := 0, locals := 0 } : Room)) (fun a U => a = #[(.int p1)] ∧ Z.Warmed39 U.vm ∧ U.heap = h0) (fun _ _ _ _ _ => True) (fun _ U o U' => ∃ v L, o = .returned v ∧ Q4 Z p1 h0 n0 v U'.heap L ∧ FrameEnd U o U' L ({ frames := 0, cells := 0, slots := 0, locals := 0 } : Room).cells ({ frames := 0, cells := 0, slots := 0, locals := 0 } : Room).slots) := by
  refine MetFree.of_bodySF (plainFor_of_name pn_4) hisR ?_
  intro p e s m args below meth c s₁ Bd hml0 hP hK
  obtain ⟨rfl, hZ, hh⟩ := hP
  have hx := Bd.exec
  have hby := Bd.bytes
  have hml : c.maxLocals = 2 := hml0
  have hown : s.vm.findClass "java/lang/Integer" = some m.cls := findClass_of_methodNamed Bd.named
  have hnm := (name_of_methodNamed Bd.named Bd.method).1
  have X0 : Stand p l e ({ frames := 0, cells := 0, slots := 0, locals := 0 } : Room) s m #[(.int p1)] below meth c s₁ [] 0 0 := Stand.of_body Bd
  have e0 : s₁.heap = h0 := by rw [← hh, Bd.state]; rfl
  have N0 := Fr.nil n0
  have pre0 : ∀ t, Steps p.tables e below (s₁.setTop (mkF m 0 #[.val (.int p1), .unset] [])) t → Steps p.tables e below (s₁.setTop (entryFrame m #[(.int p1)] 2)) t := fun t k => castTop (ef_4 m p1) k
  -- 3. LAWS

  obtain ⟨fs, hr, hrun, hended, hW, hsame⟩ := X0.leave (v := some (.int (((1 : Int32) + (2 : Int32)) + ((((((p1 ^^^ (-1 : Int32)) &&& (p1 - (1 : Int32))).toUInt32 >>> ((2 : Int32) &&& 31).toUInt32).toInt32).toUInt32 >>> ((1 : Int32) &&& 31).toUInt32).toInt32)))) (fun h => by rw [Bd.returns] at h; cases h)
  refine ⟨_, _, pre0 _ ?_, hrun, hended, _, _, rfl, ?_, ⟨_, rfl⟩, hW, hsame.mono (by decide) (by decide)⟩
  -- 4. STEPS
  · show Steps p.tables e below (s₁.setTop (mkF m 0 #[.val (.int p1), .unset] [])) _
    refine XS.iloadN X0.here hx rfl (hb hby d4_0) rfl ?_
    show Steps p.tables e below (s₁.setTop (mkF m 1 #[.val (.int p1), .unset] [(.int p1)])) _
    refine XS.iconst X0.here hx rfl (hb hby d4_1) ?_
    show Steps p.tables e below (s₁.setTop (mkF m 2 #[.val (.int p1), .unset] [(.int (-1 : Int32)), (.int p1)])) _
    refine XS.ixor X0.here hx rfl (hb hby d4_2) rfl ?_
    show Steps p.tables e below (s₁.setTop (mkF m 3 #[.val (.int p1), .unset] [(.int (p1 ^^^ (-1 : Int32)))])) _
    refine XS.iloadN X0.here hx rfl (hb hby d4_3) rfl ?_
    show Steps p.tables e below (s₁.setTop (mkF m 4 #[.val (.int p1), .unset] [(.int p1), (.int (p1 ^^^ (-1 : Int32)))])) _
    refine XS.iconst X0.here hx rfl (hb hby d4_4) ?_
    show Steps p.tables e below (s₁.setTop (mkF m 5 #[.val (.int p1), .unset] [(.int (1 : Int32)), (.int p1), (.int (p1 ^^^ (-1 : Int32)))])) _
    refine XS.isub X0.here hx rfl (hb hby d4_5) rfl ?_
    show Steps p.tables e below (s₁.setTop (mkF m 6 #[.val (.int p1), .unset] [(.int (p1 - (1 : Int32))), (.int (p1 ^^^ (-1 : Int32)))])) _
    refine XS.iand X0.here hx rfl (hb hby d4_6) rfl ?_
    show Steps p.tables e below (s₁.setTop (mkF m 7 #[.val (.int p1), .unset] [(.int ((p1 ^^^ (-1 : Int32)) &&& (p1 - (1 : Int32))))])) _
    refine XS.istoreN X0.here hx rfl (hb hby d4_7) rfl (l' := #[.val (.int ((p1 ^^^ (-1 : Int32)) &&& (p1 - (1 : Int32)))), .unset]) rfl ?_
    show Steps p.tables e below (s₁.setTop (mkF m 8 #[.val (.int ((p1 ^^^ (-1 : Int32)) &&& (p1 - (1 : Int32)))), .unset] [])) _
    refine XS.iloadN X0.here hx rfl (hb hby d4_8) rfl ?_
    show Steps p.tables e below (s₁.setTop (mkF m 9 #[.val (.int ((p1 ^^^ (-1 : Int32)) &&& (p1 - (1 : Int32)))), .unset] [(.int ((p1 ^^^ (-1 : Int32)) &&& (p1 - (1 : Int32))))])) _
    refine XS.ifYes X0.here hx rfl (pc0 := 9) (pc' := 17) rfl (hb hby d4_9) rfl ((if0 _ _).trans (tlt hc9).2.2.1) (by decide) (by decide) ?_
    show Steps p.tables e below (s₁.setTop (mkF m 17 #[.val (.int ((p1 ^^^ (-1 : Int32)) &&& (p1 - (1 : Int32)))), .unset] [])) _
    refine XS.iconst X0.here hx rfl (hb hby d4_17) ?_
    show Steps p.tables e below (s₁.setTop (mkF m 18 #[.val (.int ((p1 ^^^ (-1 : Int32)) &&& (p1 - (1 : Int32)))), .unset] [(.int (1 : Int32))])) _
    refine XS.istoreN X0.here hx rfl (hb hby d4_18) rfl (l' := #[.val (.int ((p1 ^^^ (-1 : Int32)) &&& (p1 - (1 : Int32)))), .val (.int (1 : Int32))]) rfl ?_
    show Steps p.tables e below (s₁.setTop (mkF m 19 #[.val (.int ((p1 ^^^ (-1 : Int32)) &&& (p1 - (1 : Int32)))), .val (.int (1 : Int32))] [])) _
    refine XS.iloadN X0.here hx rfl (hb hby d4_19) rfl ?_
    show Steps p.tables e below (s₁.setTop (mkF m 20 #[.val (.int ((p1 ^^^ (-1 : Int32)) &&& (p1 - (1 : Int32)))), .val (.int (1 : Int32))] [(.int ((p1 ^^^ (-1 : Int32)) &&& (p1 - (1 : Int32))))])) _
    refine X0.ldcwInt hx hown (mvT hZ (hw _ (List.mem_of_getElem? (i := 22) rfl))) (g := (mkF m 20 #[.val (.int ((p1 ^^^ (-1 : Int32)) &&& (p1 - (1 : Int32)))), .val (.int (1 : Int32))] [(.int ((p1 ^^^ (-1 : Int32)) &&& (p1 - (1 : Int32))))])) rfl (hb hby d4_20) _ ?_
    show Steps p.tables e below (s₁.setTop (mkF m 23 #[.val (.int ((p1 ^^^ (-1 : Int32)) &&& (p1 - (1 : Int32)))), .val (.int (1 : Int32))] [(.int (65536 : Int32)), (.int ((p1 ^^^ (-1 : Int32)) &&& (p1 - (1 : Int32))))])) _
    refine XS.icmpYes X0.here hx rfl (pc0 := 23) (pc' := 34) rfl (hb hby d4_23) rfl (flt hc23).2.2.2 (by decide) (by decide) ?_
    show Steps p.tables e below (s₁.setTop (mkF m 34 #[.val (.int ((p1 ^^^ (-1 : Int32)) &&& (p1 - (1 : Int32)))), .val (.int (1 : Int32))] [])) _
    refine XS.iloadN X0.here hx rfl (hb hby d4_34) rfl ?_
    show Steps p.tables e below (s₁.setTop (mkF m 35 #[.val (.int ((p1 ^^^ (-1 : Int32)) &&& (p1 - (1 : Int32)))), .val (.int (1 : Int32))] [(.int ((p1 ^^^ (-1 : Int32)) &&& (p1 - (1 : Int32))))])) _
    refine XS.sipush X0.here hx rfl (hb hby d4_35) ?_
    show Steps p.tables e below (s₁.setTop (mkF m 38 #[.val (.int ((p1 ^^^ (-1 : Int32)) &&& (p1 - (1 : Int32)))), .val (.int (1 : Int32))] [(.int (256 : Int32)), (.int ((p1 ^^^ (-1 : Int32)) &&& (p1 - (1 : Int32))))])) _
    refine XS.icmpYes X0.here hx rfl (pc0 := 38) (pc' := 49) rfl (hb hby d4_38) rfl (flt hc38).2.2.2 (by decide) (by decide) ?_
    show Steps p.tables e below (s₁.setTop (mkF m 49 #[.val (.int ((p1 ^^^ (-1 : Int32)) &&& (p1 - (1 : Int32)))), .val (.int (1 : Int32))] [])) _
    refine XS.iloadN X0.here hx rfl (hb hby d4_49) rfl ?_
    show Steps p.tables e below (s₁.setTop (mkF m 50 #[.val (.int ((p1 ^^^ (-1 : Int32)) &&& (p1 - (1 : Int32)))), .val (.int (1 : Int32))] [(.int ((p1 ^^^ (-1 : Int32)) &&& (p1 - (1 : Int32))))])) _
    refine XS.bipush X0.here hx rfl (hb hby d4_50) ?_
    show Steps p.tables e below (s₁.setTop (mkF m 52 #[.val (.int ((p1 ^^^ (-1 : Int32)) &&& (p1 - (1 : Int32)))), .val (.int (1 : Int32))] [(.int (16 : Int32)), (.int ((p1 ^^^ (-1 : Int32)) &&& (p1 - (1 : Int32))))])) _
    refine XS.icmpYes X0.here hx rfl (pc0 := 52) (pc' := 62) rfl (hb hby d4_52) rfl (flt hc52).2.2.2 (by decide) (by decide) ?_
    show Steps p.tables e below (s₁.setTop (mkF m 62 #[.val (.int ((p1 ^^^ (-1 : Int32)) &&& (p1 - (1 : Int32)))), .val (.int (1 : Int32))] [])) _
    refine XS.iloadN X0.here hx rfl (hb hby d4_62) rfl ?_
    show Steps p.tables e below (s₁.setTop (mkF m 63 #[.val (.int ((p1 ^^^ (-1 : Int32)) &&& (p1 - (1 : Int32)))), .val (.int (1 : Int32))] [(.int ((p1 ^^^ (-1 : Int32)) &&& (p1 - (1 : Int32))))])) _
    refine XS.iconst X0.here hx rfl (hb hby d4_63) ?_
    show Steps p.tables e below (s₁.setTop (mkF m 64 #[.val (.int ((p1 ^^^ (-1 : Int32)) &&& (p1 - (1 : Int32)))), .val (.int (1 : Int32))] [(.int (4 : Int32)), (.int ((p1 ^^^ (-1 : Int32)) &&& (p1 - (1 : Int32))))])) _
    refine XS.icmpNo X0.here hx rfl (hb hby d4_64) rfl (tlt hc64).2.2.2 ?_
    show Steps p.tables e below (s₁.setTop (mkF m 67 #[.val (.int ((p1 ^^^ (-1 : Int32)) &&& (p1 - (1 : Int32)))), .val (.int (1 : Int32))] [])) _
    refine XS.iinc X0.here hx rfl (hb hby d4_67) rfl (l' := #[.val (.int ((p1 ^^^ (-1 : Int32)) &&& (p1 - (1 : Int32)))), .val (.int ((1 : Int32) + (2 : Int32)))]) rfl ?_
    show Steps p.tables e below (s₁.setTop (mkF m 70 #[.val (.int ((p1 ^^^ (-1 : Int32)) &&& (p1 - (1 : Int32)))), .val (.int ((1 : Int32) + (2 : Int32)))] [])) _
    refine XS.iloadN X0.here hx rfl (hb hby d4_70) rfl ?_
    show Steps p.tables e below (s₁.setTop (mkF m 71 #[.val (.int ((p1 ^^^ (-1 : Int32)) &&& (p1 - (1 : Int32)))), .val (.int ((1 : Int32) + (2 : Int32)))] [(.int ((p1 ^^^ (-1 : Int32)) &&& (p1 - (1 : Int32))))])) _
    refine XS.iconst X0.here hx rfl (hb hby d4_71) ?_
    show Steps p.tables e below (s₁.setTop (mkF m 72 #[.val (.int ((p1 ^^^ (-1 : Int32)) &&& (p1 - (1 : Int32)))), .val (.int ((1 : Int32) + (2 : Int32)))] [(.int (2 : Int32)), (.int ((p1 ^^^ (-1 : Int32)) &&& (p1 - (1 : Int32))))])) _
    refine XS.iushr X0.here hx rfl (hb hby d4_72) rfl ?_
    show Steps p.tables e below (s₁.setTop (mkF m 73 #[.val (.int ((p1 ^^^ (-1 : Int32)) &&& (p1 - (1 : Int32)))), .val (.int ((1 : Int32) + (2 : Int32)))] [(.int ((((p1 ^^^ (-1 : Int32)) &&& (p1 - (1 : Int32))).toUInt32 >>> ((2 : Int32) &&& 31).toUInt32).toInt32))])) _
    refine XS.istoreN X0.here hx rfl (hb hby d4_73) rfl (l' := #[.val (.int ((((p1 ^^^ (-1 : Int32)) &&& (p1 - (1 : Int32))).toUInt32 >>> ((2 : Int32) &&& 31).toUInt32).toInt32)), .val (.int ((1 : Int32) + (2 : Int32)))]) rfl ?_
    show Steps p.tables e below (s₁.setTop (mkF m 74 #[.val (.int ((((p1 ^^^ (-1 : Int32)) &&& (p1 - (1 : Int32))).toUInt32 >>> ((2 : Int32) &&& 31).toUInt32).toInt32)), .val (.int ((1 : Int32) + (2 : Int32)))] [])) _
    refine XS.iloadN X0.here hx rfl (hb hby d4_74) rfl ?_
    show Steps p.tables e below (s₁.setTop (mkF m 75 #[.val (.int ((((p1 ^^^ (-1 : Int32)) &&& (p1 - (1 : Int32))).toUInt32 >>> ((2 : Int32) &&& 31).toUInt32).toInt32)), .val (.int ((1 : Int32) + (2 : Int32)))] [(.int ((1 : Int32) + (2 : Int32)))])) _
    refine XS.iloadN X0.here hx rfl (hb hby d4_75) rfl ?_
    show Steps p.tables e below (s₁.setTop (mkF m 76 #[.val (.int ((((p1 ^^^ (-1 : Int32)) &&& (p1 - (1 : Int32))).toUInt32 >>> ((2 : Int32) &&& 31).toUInt32).toInt32)), .val (.int ((1 : Int32) + (2 : Int32)))] [(.int ((((p1 ^^^ (-1 : Int32)) &&& (p1 - (1 : Int32))).toUInt32 >>> ((2 : Int32) &&& 31).toUInt32).toInt32)), (.int ((1 : Int32) + (2 : Int32)))])) _
    refine XS.iconst X0.here hx rfl (hb hby d4_76) ?_
    show Steps p.tables e below (s₁.setTop (mkF m 77 #[.val (.int ((((p1 ^^^ (-1 : Int32)) &&& (p1 - (1 : Int32))).toUInt32 >>> ((2 : Int32) &&& 31).toUInt32).toInt32)), .val (.int ((1 : Int32) + (2 : Int32)))] [(.int (1 : Int32)), (.int ((((p1 ^^^ (-1 : Int32)) &&& (p1 - (1 : Int32))).toUInt32 >>> ((2 : Int32) &&& 31).toUInt32).toInt32)), (.int ((1 : Int32) + (2 : Int32)))])) _
    refine XS.iushr X0.here hx rfl (hb hby d4_77) rfl ?_
    show Steps p.tables e below (s₁.setTop (mkF m 78 #[.val (.int ((((p1 ^^^ (-1 : Int32)) &&& (p1 - (1 : Int32))).toUInt32 >>> ((2 : Int32) &&& 31).toUInt32).toInt32)), .val (.int ((1 : Int32) + (2 : Int32)))] [(.int ((((((p1 ^^^ (-1 : Int32)) &&& (p1 - (1 : Int32))).toUInt32 >>> ((2 : Int32) &&& 31).toUInt32).toInt32).toUInt32 >>> ((1 : Int32) &&& 31).toUInt32).toInt32)), (.int ((1 : Int32) + (2 : Int32)))])) _
    refine XS.iadd X0.here hx rfl (hb hby d4_78) rfl ?_
    show Steps p.tables e below (s₁.setTop (mkF m 79 #[.val (.int ((((p1 ^^^ (-1 : Int32)) &&& (p1 - (1 : Int32))).toUInt32 >>> ((2 : Int32) &&& 31).toUInt32).toInt32)), .val (.int ((1 : Int32) + (2 : Int32)))] [(.int (((1 : Int32) + (2 : Int32)) + ((((((p1 ^^^ (-1 : Int32)) &&& (p1 - (1 : Int32))).toUInt32 >>> ((2 : Int32) &&& 31).toUInt32).toInt32).toUInt32 >>> ((1 : Int32) &&& 31).toUInt32).toInt32)))])) _
    exact retI X0 hx Bd.returns (hb hby d4_79) hr      -- retI stands in the head ('lawwalk <made dir>' prints it)
  · show Q4 Z p1 h0 n0 _ s₁.heap _
    rw [e0]
    exact ⟨congrArg (fun z => some (Value.int z)) (by rw [h16]; decide), N0, rfl⟩
theorem d3_0 : decode prog_58_method_10_code 0 = .ok (.aload_n 0, 1) := by decide +kernel
theorem d3_1 : decode prog_58_method_10_code 1 = .ok (.bipush 16, 2) := by decide +kernel
theorem d3_3 : decode prog_58_method_10_code 3 = .ok (.newarray .long, 2) := by decide +kernel
theorem d3_5 : decode prog_58_method_10_code 5 = .ok (.putfield 21, 3) := by decide +kernel
theorem d3_8 : decode prog_58_method_10_code 8 = .ok (.aload_n 0, 1) := by decide +kernel
theorem d3_9 : decode prog_58_method_10_code 9 = .ok (.bipush 16, 2) := by decide +kernel
theorem d3_11 : decode prog_58_method_10_code 11 = .ok (.newarray .long, 2) := by decide +kernel
theorem d3_13 : decode prog_58_method_10_code 13 = .ok (.putfield 25, 3) := by decide +kernel
theorem d3_16 : decode prog_58_method_10_code 16 = .ok (.aload_n 0, 1) := by decide +kernel
theorem d3_17 : decode prog_58_method_10_code 17 = .ok (.bipush 64, 2) := by decide +kernel
theorem d3_19 : decode prog_58_method_10_code 19 = .ok (.bipush 16, 2) := by decide +kernel
theorem d3_21 : decode prog_58_method_10_code 21 = .ok (.invokestatic 60, 3) := by decide +kernel
theorem d3_24 : decode prog_58_method_10_code 24 = .ok (.isub, 1) := by decide +kernel
theorem d3_25 : decode prog_58_method_10_code 25 = .ok (.putfield 28, 3) := by decide +kernel
theorem d3_28 : decode prog_58_method_10_code 28 = .ok (.aload_n 0, 1) := by decide +kernel
theorem d3_29 : decode prog_58_method_10_code 29 = .ok (.iconst 0, 1) := by decide +kernel
theorem d3_30 : decode prog_58_method_10_code 30 = .ok (.putfield 32, 3) := by decide +kernel
theorem d3_33 : decode prog_58_method_10_code 33 = .ok (.return_, 1) := by decide +kernel
theorem pn_3 : plainName "com/example/tideshift/tideshift/partition/AccessCounts" = true := by first | (simp [plainName, overriddenIn]; done) | decide +kernel
theorem pd_3_1 : parseMethodDescriptor "(I)I" = some ⟨[.int], some .int⟩ := by decide +kernel
theorem ef_3 (m : MethodId) (x0 : Addr) : entryFrame m #[(.ref x0)] 1 = mkF m 0 #[.val (.ref x0)] [] := by first | (simp [entryFrame, mkF, argsToLocals, Value.category]; done) | rfl
def Q3 (Z : State) (a1 : Addr) (u_keys_a1 : Value) (u_counts_a1 : Value) (u_shift_a1 : Value) (u_size_a1 : Value) (h0 : Heap) (n0 : Nat) (v : Option Value) (h : Heap) (L : List Loc) : Prop := v = none ∧ Fr n0 L ∧ Keep h0 h [a1] ∧ ∃ t u : Addr, own_AC Z h a1 t u (fun _ => 0) (fun _ => 0) 0 ∧ h0.size ≤ t ∧ h0.size ≤ u
set_option maxRecDepth 65536 in
set_option maxHeartbeats 40000000 in
theorem rm3 (l : Launch) (Z : State) (a0 : Array Value) (hw : ∀ d ∈ tables_1, d.before a0 Z = true) (ws : List Jvm.Cond) (a1 : Addr) (u_keys_a1 : Value) (u_counts_a1 : Value) (u_shift_a1 : Value) (u_size_a1 : Value) (h0 : Heap) (n0 : Nat) (Z0 : n0 ≤ h0.size) (E_a1 : Exa Z h0 a1 "com/example/tideshift/tideshift/partition/AccessCounts") (F_keys_a1 : Fld Z h0 a1 "com/example/tideshift/tideshift/partition/AccessCounts" "keys" "[J" u_keys_a1) (g_a1 : n0 ≤ a1) (F_counts_a1 : Fld Z h0 a1 "com/example/tideshift/tideshift/partition/AccessCounts" "counts" "[J" u_counts_a1) (F_shift_a1 : Fld Z h0 a1 "com/example/tideshift/tideshift/partition/AccessCounts" "shift" "I" u_shift_a1) (F_size_a1 : Fld Z h0 a1 "com/example/tideshift/tideshift/partition/AccessCounts" "size" "I" u_size_a1) (u_reset_a1 : Value) (F_reset_a1 : Fld Z h0 a1 "com/example/tideshift/tideshift/partition/AccessCounts" "reset" "Ljava/util/Optional;" u_reset_a1) :
    MetFree l (⟨"com/example/tideshift/tideshift/partition/AccessCounts", "empty", "()V"⟩ : MethodName) (head1 (Jvm.Cond.code (⟨"com/example/tideshift/tideshift/partition/AccessCounts", "empty", "()V"⟩ : MethodName) prog_58_method_10_code 1 none :: ws) ({ frames := 1, cells := 2, slots := 32, locals := 15 } : Room)) (fun a U => a = #[(.ref a1)] ∧ Z.Warmed39 U.vm ∧ U.heap = h0) (fun _ _ _ _ _ => True) (fun _ U o U' => ∃ v L, o = .returned v ∧ Q3 Z a1 u_keys_a1 u_counts_a1 u_shift_a1 u_size_a1 h0 n0 v U'.heap L ∧ FrameEnd U o U' L ({ frames := 1, cells := 2, slots := 32, locals := 15 } : Room).cells ({ frames := 1, cells := 2, slots := 32, locals := 15 } : Room).slots) := by
  refine MetFree.of_bodySF (plainFor_of_name pn_3) hisR ?_
  intro p e s m args below meth c s₁ Bd hml0 hP hK
  obtain ⟨rfl, hZ, hh⟩ := hP
  have hx := Bd.exec
  have hby := Bd.bytes
  have hml : c.maxLocals = 1 := hml0
  have hown : s.vm.findClass "com/example/tideshift/tideshift/partition/AccessCounts" = some m.cls := findClass_of_methodNamed Bd.named
  have hnm := (name_of_methodNamed Bd.named Bd.method).1
  have X0 : Stand p l e ({ frames := 1, cells := 2, slots := 32, locals := 15 } : Room) s m #[(.ref a1)] below meth c s₁ [] 0 0 := Stand.of_body Bd
  have e0 : s₁.heap = h0 := by rw [← hh, Bd.state]; rfl
  have N0 := Fr.nil n0
  have pre0 : ∀ t, Steps p.tables e below (s₁.setTop (mkF m 0 #[.val (.ref a1)] [])) t → Steps p.tables e below (s₁.setTop (entryFrame m #[(.ref a1)] 1)) t := fun t k => castTop (ef_3 m a1) k
  -- 3. LAWS
  obtain ⟨T2, h2, k2, X2, e2, E2, A2, st2⟩ := newP X0 hx hZ (hw _ (List.mem_of_getElem? (i := 0) rfl)) e0 (g := (mkF m 3 #[.val (.ref a1)] [(.int (16 : Int32)), (.ref a1)])) rfl (hb hby d3_3) rfl (by decide) (cap := 16) (by decide) (by decide) (by decide) (by decide)
  obtain ⟨b2, g2⟩ : ∃ z, z = h0.size := ⟨_, rfl⟩      -- the fresh array's address
  have Z2 : n0 ≤ h2.size := Nat.le_trans Z0 E2.1
  rw [← g2] at A2 st2
  have V_b2 : Arv Z h2 b2 k2 .long (16 : Int32) [(.long (0 : Int64)), (.long (0 : Int64)), (.long (0 : Int64)), (.long (0 : Int64)), (.long (0 : Int64)), (.long (0 : Int64)), (.long (0 : Int64)), (.long (0 : Int64)), (.long (0 : Int64)), (.long (0 : Int64)), (.long (0 : Int64)), (.long (0 : Int64)), (.long (0 : Int64)), (.long (0 : Int64)), (.long (0 : Int64)), (.long (0 : Int64))] (.long (0 : Int64)) := (Arv.new A2 (by decide)).pad (pad_rep [] (.long (0 : Int64)) 16)
  have g_b2 : n0 ≤ b2 := Nat.le_trans Z0 (Nat.le_of_eq g2.symm)
  have sz_b2 : h0.size ≤ b2 := (Nat.le_trans (Keep.refl h0 [a1]).1 (Nat.le_of_eq g2.symm))
  have K2 : Keep h0 h2 [a1] := (Keep.refl h0 [a1]).ext E2
  obtain ⟨T3, h3, X3, e3, W3, st3⟩ := putF X2 hx hZ hown (host := "") (Or.inl (hw _ (List.mem_of_getElem? (i := 14) rfl))) Via.refl e2 (F_keys_a1.ext E2) (E_a1.ext E2) (Or.inl (hw _ (List.mem_of_getElem? (i := 15) rfl))) (hw _ (List.mem_of_getElem? (i := 2) rfl)) (ty := (.array .long)) (by decide) rfl rfl (g := (mkF m 5 #[.val (.ref a1)] [(.ref b2), (.ref a1)])) rfl rfl (hb hby d3_5)
  have Z3 : n0 ≤ h3.size := Nat.le_trans Z2 (Keep.of_wr W3).1
  have Fw3 := (F_keys_a1.ext E2).same W3      -- the field now holds (.ref b2)
  have K3 : Keep h0 h3 [a1] := K2.wr W3 (Or.inl (List.mem_of_getElem? (i := 0) rfl))
  have N3 := Fr.snoc X3 N0 g_a1
  obtain ⟨T4, h4, k4, X4, e4, E4, A4, st4⟩ := newP X3 hx hZ (hw _ (List.mem_of_getElem? (i := 0) rfl)) e3 (g := (mkF m 11 #[.val (.ref a1)] [(.int (16 : Int32)), (.ref a1)])) rfl (hb hby d3_11) rfl (by decide) (cap := 16) (by decide) (by decide) (by decide) (by decide)
  obtain ⟨b4, g4⟩ : ∃ z, z = h3.size := ⟨_, rfl⟩      -- the fresh array's address
  have Z4 : n0 ≤ h4.size := Nat.le_trans Z3 E4.1
  rw [← g4] at A4 st4
  have V_b4 : Arv Z h4 b4 k4 .long (16 : Int32) [(.long (0 : Int64)), (.long (0 : Int64)), (.long (0 : Int64)), (.long (0 : Int64)), (.long (0 : Int64)), (.long (0 : Int64)), (.long (0 : Int64)), (.long (0 : Int64)), (.long (0 : Int64)), (.long (0 : Int64)), (.long (0 : Int64)), (.long (0 : Int64)), (.long (0 : Int64)), (.long (0 : Int64)), (.long (0 : Int64)), (.long (0 : Int64))] (.long (0 : Int64)) := (Arv.new A4 (by decide)).pad (pad_rep [] (.long (0 : Int64)) 16)
  have g_b4 : n0 ≤ b4 := Nat.le_trans (Nat.le_trans (Nat.le_trans Z0 E2.1) (Keep.of_wr W3).1) (Nat.le_of_eq g4.symm)
  have sz_b4 : h0.size ≤ b4 := (Nat.le_trans K3.1 (Nat.le_of_eq g4.symm))
  have K4 : Keep h0 h4 [a1] := K3.ext E4
  obtain ⟨T5, h5, X5, e5, W5, st5⟩ := putF X4 hx hZ hown (host := "") (Or.inl (hw _ (List.mem_of_getElem? (i := 16) rfl))) Via.refl e4 (((F_counts_a1.ext E2).other W3 (Or.inr (slot_ne (Or.inl (hw _ (List.mem_of_getElem? (i := 17) rfl))) (Or.inl (hw _ (List.mem_of_getElem? (i := 15) rfl))) (by decide) (t := (.array .long)) (t' := (.array .long)) (by decide) (by decide)))).ext E4) (((E_a1.ext E2).wr W3).ext E4) (Or.inl (hw _ (List.mem_of_getElem? (i := 17) rfl))) (hw _ (List.mem_of_getElem? (i := 2) rfl)) (ty := (.array .long)) (by decide) rfl rfl (g := (mkF m 13 #[.val (.ref a1)] [(.ref b4), (.ref a1)])) rfl rfl (hb hby d3_13)
  have Z5 : n0 ≤ h5.size := Nat.le_trans Z4 (Keep.of_wr W5).1
  have Fw5 := (((F_counts_a1.ext E2).other W3 (Or.inr (slot_ne (Or.inl (hw _ (List.mem_of_getElem? (i := 17) rfl))) (Or.inl (hw _ (List.mem_of_getElem? (i := 15) rfl))) (by decide) (t := (.array .long)) (t' := (.array .long)) (by decide) (by decide)))).ext E4).same W5      -- the field now holds (.ref b4)
  have K5 : Keep h0 h5 [a1] := K4.wr W5 (Or.inl (List.mem_of_getElem? (i := 0) rfl))
  have N5 := Fr.snoc X5 N3 g_a1
  have CV1_b2 := (((V_b2.other W3 (Ne.symm (Nat.ne_of_lt (Nat.lt_of_lt_of_le E_a1.lt (Nat.le_of_eq g2.symm))))).ext E4).other W5 (Ne.symm (Nat.ne_of_lt (Nat.lt_of_lt_of_le E_a1.lt (Nat.le_of_eq g2.symm)))))
  have CE1_a1 := ((((E_a1.ext E2).wr W3).ext E4).wr W5)
  have CV1_b4 := (V_b4.other W5 (Ne.symm (Nat.ne_of_lt (Nat.lt_of_lt_of_le ((E_a1.ext E2).wr W3).lt (Nat.le_of_eq g4.symm)))))
  -- pc 21: java/lang/Integer.numberOfTrailingZeros by its contract rm4
  obtain ⟨_, _, ⟨T6, L6, k6, n6⟩, -, X6, ⟨Lc6, hQ6, l6, y6, z6⟩, st6⟩ := Jvm.LawKit.callS X5 hx (y := (⟨"java/lang/Integer", "numberOfTrailingZeros", "(I)I"⟩ : MethodName)) hown (mvT hZ (hw _ (List.mem_of_getElem? (i := 18) rfl))) (mvT hZ (hw _ (List.mem_of_getElem? (i := 19) rfl))) (mvT hZ (hw _ (List.mem_of_getElem? (i := 20) rfl))) (mvT hZ (hw _ (List.mem_of_getElem? (i := 21) rfl))) (by decide) (backOf (W := 2) (rm4 l Z a0 hw [] (16 : Int32) h5 n0 Z5 (by decide) (by decide) (by decide) (by decide) (by decide) rfl) hZ (hw _ (List.mem_of_getElem? (i := 21) rfl)) (hw _ (List.mem_of_getElem? (i := 20) rfl)) (by decide) (by decide)) (g := (mkF m 21 #[.val (.ref a1)] [(.int (16 : Int32)), (.int (64 : Int32)), (.ref a1)])) rfl (by rw [hml]; rfl) (argsL := [(.int (16 : Int32))]) (rest := [(.int (64 : Int32)), (.ref a1)]) (lenOf pd_3_1 rfl) rfl (by show 2 * 0 + _ ≤ _; exact Nat.le_of_eq rfl) (hb hby d3_21) (fun _ _ => ⟨rfl, e5, (by decide : 2 + 0 ≤ _), (by decide : 32 + 0 ≤ _)⟩)
  dsimp only [Pt.U, Pt.locs, Pt.cells, Pt.slots] at X6 l6 y6 z6 st6 hQ6
  subst l6 y6 z6
  obtain ⟨rfl, N6q, E6q⟩ := hQ6
  have K6q : Keep h5 T6.heap [] := by rw [E6q]; exact Keep.refl _ _
  have KK6 : Keep h0 T6.heap [a1] := (K5).trans K6q all0
  have Z6 : n0 ≤ T6.heap.size := Nat.le_trans Z5 K6q.1
  have N6 := Fr.app N5 N6q
  obtain ⟨T7, h7, X7, e7, W7, st7⟩ := putF X6 hx hZ hown (host := "") (Or.inl (hw _ (List.mem_of_getElem? (i := 23) rfl))) Via.refl rfl (((((F_shift_a1.ext E2).other W3 (Or.inr (slot_ne (Or.inl (hw _ (List.mem_of_getElem? (i := 24) rfl))) (Or.inl (hw _ (List.mem_of_getElem? (i := 15) rfl))) (by decide) (t := .int) (t' := (.array .long)) (by decide) (by decide)))).ext E4).other W5 (Or.inr (slot_ne (Or.inl (hw _ (List.mem_of_getElem? (i := 24) rfl))) (Or.inl (hw _ (List.mem_of_getElem? (i := 17) rfl))) (by decide) (t := .int) (t' := (.array .long)) (by decide) (by decide)))).keep K6q nin0) (((((E_a1.ext E2).wr W3).ext E4).wr W5).keep K6q) (Or.inl (hw _ (List.mem_of_getElem? (i := 24) rfl))) (hw _ (List.mem_of_getElem? (i := 2) rfl)) (ty := .int) (by decide) rfl rfl (g := (mkF m 25 #[.val (.ref a1)] [(.int ((64 : Int32) - (4 : Int32))), (.ref a1)])) rfl rfl (hb hby d3_25)
  have Z7 : n0 ≤ h7.size := Nat.le_trans Z6 (Keep.of_wr W7).1
  have Fw7 := (((((F_shift_a1.ext E2).other W3 (Or.inr (slot_ne (Or.inl (hw _ (List.mem_of_getElem? (i := 24) rfl))) (Or.inl (hw _ (List.mem_of_getElem? (i := 15) rfl))) (by decide) (t := .int) (t' := (.array .long)) (by decide) (by decide)))).ext E4).other W5 (Or.inr (slot_ne (Or.inl (hw _ (List.mem_of_getElem? (i := 24) rfl))) (Or.inl (hw _ (List.mem_of_getElem? (i := 17) rfl))) (by decide) (t := .int) (t' := (.array .long)) (by decide) (by decide)))).keep K6q nin0).same W7      -- the field now holds (.int ((64 : Int32) - (4 : Int32)))
  have K7 : Keep h0 h7 [a1] := (KK6).wr W7 (Or.inl (List.mem_of_getElem? (i := 0) rfl))
  have N7 := Fr.snoc X7 N6 g_a1
  obtain ⟨T8, h8, X8, e8, W8, st8⟩ := putF X7 hx hZ hown (host := "") (Or.inl (hw _ (List.mem_of_getElem? (i := 25) rfl))) Via.refl e7 ((((((F_size_a1.ext E2).other W3 (Or.inr (slot_ne (Or.inl (hw _ (List.mem_of_getElem? (i := 26) rfl))) (Or.inl (hw _ (List.mem_of_getElem? (i := 15) rfl))) (by decide) (t := .int) (t' := (.array .long)) (by decide) (by decide)))).ext E4).other W5 (Or.inr (slot_ne (Or.inl (hw _ (List.mem_of_getElem? (i := 26) rfl))) (Or.inl (hw _ (List.mem_of_getElem? (i := 17) rfl))) (by decide) (t := .int) (t' := (.array .long)) (by decide) (by decide)))).keep K6q nin0).other W7 (Or.inr (slot_ne (Or.inl (hw _ (List.mem_of_getElem? (i := 26) rfl))) (Or.inl (hw _ (List.mem_of_getElem? (i := 24) rfl))) (by decide) (t := .int) (t' := .int) (by decide) (by decide)))) ((((((E_a1.ext E2).wr W3).ext E4).wr W5).keep K6q).wr W7) (Or.inl (hw _ (List.mem_of_getElem? (i := 26) rfl))) (hw _ (List.mem_of_getElem? (i := 2) rfl)) (ty := .int) (by decide) rfl rfl (g := (mkF m 30 #[.val (.ref a1)] [(.int (0 : Int32)), (.ref a1)])) rfl rfl (hb hby d3_30)
  have Z8 : n0 ≤ h8.size := Nat.le_trans Z7 (Keep.of_wr W8).1
  have Fw8 := ((((((F_size_a1.ext E2).other W3 (Or.inr (slot_ne (Or.inl (hw _ (List.mem_of_getElem? (i := 26) rfl))) (Or.inl (hw _ (List.mem_of_getElem? (i := 15) rfl))) (by decide) (t := .int) (t' := (.array .long)) (by decide) (by decide)))).ext E4).other W5 (Or.inr (slot_ne (Or.inl (hw _ (List.mem_of_getElem? (i := 26) rfl))) (Or.inl (hw _ (List.mem_of_getElem? (i := 17) rfl))) (by decide) (t := .int) (t' := (.array .long)) (by decide) (by decide)))).keep K6q nin0).other W7 (Or.inr (slot_ne (Or.inl (hw _ (List.mem_of_getElem? (i := 26) rfl))) (Or.inl (hw _ (List.mem_of_getElem? (i := 24) rfl))) (by decide) (t := .int) (t' := .int) (by decide) (by decide)))).same W8      -- the field now holds (.int (0 : Int32))
  have K8 : Keep h0 h8 [a1] := K7.wr W8 (Or.inl (List.mem_of_getElem? (i := 0) rfl))
  have N8 := Fr.snoc X8 N7 g_a1
  have own_ne2 : b2 ≠ a1 := Ne.symm (Nat.ne_of_lt (Nat.lt_of_lt_of_le E_a1.lt (Nat.le_of_eq g2.symm)))
  have own_ne4 : b4 ≠ a1 := Ne.symm (Nat.ne_of_lt (Nat.lt_of_lt_of_le ((E_a1.ext E2).wr W3).lt (Nat.le_of_eq g4.symm)))
  have own_ne24 : b2 ≠ b4 := Nat.ne_of_lt (Nat.lt_of_lt_of_le (own_La_lt (own_La_other (own_La_new A2 rfl) W3 own_ne2)) (Nat.le_of_eq g4.symm))
  have own_60 : Fld Z h8 a1 "com/example/tideshift/tideshift/partition/AccessCounts" "shift" "I" (.int (60 : Int32)) := by
    have q : ((64 : Int32) - (4 : Int32)) = (60 : Int32) := by decide
    have z := (Fw7.other W8 (Or.inr (slot_ne (Or.inl (hw _ (List.mem_of_getElem? (i := 24) rfl))) (Or.inl (hw _ (List.mem_of_getElem? (i := 26) rfl))) (by decide) (t := .int) (t' := .int) (by decide) (by decide))))
    rw [q] at z
    exact z
  obtain ⟨fs, hr, hrun, hended, hW, hsame⟩ := X8.leave (v := none) (fun _ => rfl)
  refine ⟨_, _, pre0 _ ?_, hrun, hended, _, _, rfl, ?_, ⟨_, rfl⟩, hW, hsame.mono (by decide) (by decide)⟩
  -- 4. STEPS
  · show Steps p.tables e below (s₁.setTop (mkF m 0 #[.val (.ref a1)] [])) _
    refine XS.aloadN X0.here hx rfl (hb hby d3_0) rfl rfl ?_
    show Steps p.tables e below (s₁.setTop (mkF m 1 #[.val (.ref a1)] [(.ref a1)])) _
    refine XS.bipush X0.here hx rfl (hb hby d3_1) ?_
    show Steps p.tables e below (s₁.setTop (mkF m 3 #[.val (.ref a1)] [(.int (16 : Int32)), (.ref a1)])) _
    refine st2 _ ?_
    show Steps p.tables e below (T2.setTop (mkF m 5 #[.val (.ref a1)] [(.ref b2), (.ref a1)])) _
    refine st3 _ ?_
    show Steps p.tables e below (T3.setTop (mkF m 8 #[.val (.ref a1)] [])) _
    refine XS.aloadN X3.here hx rfl (hb hby d3_8) rfl rfl ?_
    show Steps p.tables e below (T3.setTop (mkF m 9 #[.val (.ref a1)] [(.ref a1)])) _
    refine XS.bipush X3.here hx rfl (hb hby d3_9) ?_
    show Steps p.tables e below (T3.setTop (mkF m 11 #[.val (.ref a1)] [(.int (16 : Int32)), (.ref a1)])) _
    refine st4 _ ?_
    show Steps p.tables e below (T4.setTop (mkF m 13 #[.val (.ref a1)] [(.ref b4), (.ref a1)])) _
    refine st5 _ ?_
    show Steps p.tables e below (T5.setTop (mkF m 16 #[.val (.ref a1)] [])) _
    refine XS.aloadN X5.here hx rfl (hb hby d3_16) rfl rfl ?_
    show Steps p.tables e below (T5.setTop (mkF m 17 #[.val (.ref a1)] [(.ref a1)])) _
    refine XS.bipush X5.here hx rfl (hb hby d3_17) ?_
    show Steps p.tables e below (T5.setTop (mkF m 19 #[.val (.ref a1)] [(.int (64 : Int32)), (.ref a1)])) _
    refine XS.bipush X5.here hx rfl (hb hby d3_19) ?_
    show Steps p.tables e below (T5.setTop (mkF m 21 #[.val (.ref a1)] [(.int (16 : Int32)), (.int (64 : Int32)), (.ref a1)])) _
    refine st6 _ ?_
    show Steps p.tables e below (T6.setTop (mkF m 24 #[.val (.ref a1)] [(.int (4 : Int32)), (.int (64 : Int32)), (.ref a1)])) _
    refine XS.isub X6.here hx rfl (hb hby d3_24) rfl ?_
    show Steps p.tables e below (T6.setTop (mkF m 25 #[.val (.ref a1)] [(.int ((64 : Int32) - (4 : Int32))), (.ref a1)])) _
    refine st7 _ ?_
    show Steps p.tables e below (T7.setTop (mkF m 28 #[.val (.ref a1)] [])) _
    refine XS.aloadN X7.here hx rfl (hb hby d3_28) rfl rfl ?_
    show Steps p.tables e below (T7.setTop (mkF m 29 #[.val (.ref a1)] [(.ref a1)])) _
    refine XS.iconst X7.here hx rfl (hb hby d3_29) ?_
    show Steps p.tables e below (T7.setTop (mkF m 30 #[.val (.ref a1)] [(.int (0 : Int32)), (.ref a1)])) _
    refine st8 _ ?_
    show Steps p.tables e below (T8.setTop (mkF m 33 #[.val (.ref a1)] [])) _
    exact X8.returnOut hx Bd.returns (hb hby d3_33) hr
  · show Q3 Z a1 u_keys_a1 u_counts_a1 u_shift_a1 u_size_a1 h0 n0 _ T8.heap _
    rw [e8]
    exact ⟨rfl, N8, K8, b2, b4, ⟨((((((E_a1.ext E2).wr W3).ext E4).wr W5).keep K6q).wr W7).wr W8, (((((Fw3.ext E4).other W5 (Or.inr (slot_ne (Or.inl (hw _ (List.mem_of_getElem? (i := 15) rfl))) (Or.inl (hw _ (List.mem_of_getElem? (i := 17) rfl))) (by decide) (t := (.array .long)) (t' := (.array .long)) (by decide) (by decide)))).keep K6q nin0).other W7 (Or.inr (slot_ne (Or.inl (hw _ (List.mem_of_getElem? (i := 15) rfl))) (Or.inl (hw _ (List.mem_of_getElem? (i := 24) rfl))) (by decide) (t := (.array .long)) (t' := .int) (by decide) (by decide)))).other W8 (Or.inr (slot_ne (Or.inl (hw _ (List.mem_of_getElem? (i := 15) rfl))) (Or.inl (hw _ (List.mem_of_getElem? (i := 26) rfl))) (by decide) (t := (.array .long)) (t' := .int) (by decide) (by decide)))), (((Fw5.keep K6q nin0).other W7 (Or.inr (slot_ne (Or.inl (hw _ (List.mem_of_getElem? (i := 17) rfl))) (Or.inl (hw _ (List.mem_of_getElem? (i := 24) rfl))) (by decide) (t := (.array .long)) (t' := .int) (by decide) (by decide)))).other W8 (Or.inr (slot_ne (Or.inl (hw _ (List.mem_of_getElem? (i := 17) rfl))) (Or.inl (hw _ (List.mem_of_getElem? (i := 26) rfl))) (by decide) (t := (.array .long)) (t' := .int) (by decide) (by decide)))), own_60, Fw8, ⟨_, (((((((F_reset_a1.ext E2).other W3 (Or.inr (slot_ne (Or.inl (hw _ (List.mem_of_getElem? (i := 33) rfl))) (Or.inl (hw _ (List.mem_of_getElem? (i := 15) rfl))) (by decide) (t := (.object "java/util/Optional")) (t' := (.array .long)) (by decide) (by decide)))).ext E4).other W5 (Or.inr (slot_ne (Or.inl (hw _ (List.mem_of_getElem? (i := 33) rfl))) (Or.inl (hw _ (List.mem_of_getElem? (i := 17) rfl))) (by decide) (t := (.object "java/util/Optional")) (t' := (.array .long)) (by decide) (by decide)))).keep K6q nin0).other W7 (Or.inr (slot_ne (Or.inl (hw _ (List.mem_of_getElem? (i := 33) rfl))) (Or.inl (hw _ (List.mem_of_getElem? (i := 24) rfl))) (by decide) (t := (.object "java/util/Optional")) (t' := .int) (by decide) (by decide)))).other W8 (Or.inr (slot_ne (Or.inl (hw _ (List.mem_of_getElem? (i := 33) rfl))) (Or.inl (hw _ (List.mem_of_getElem? (i := 26) rfl))) (by decide) (t := (.object "java/util/Optional")) (t' := .int) (by decide) (by decide))))⟩, (own_La_other (own_La_other (own_La_keep (own_La_other (own_La_ext (own_La_other (own_La_new A2 rfl) W3 own_ne2) E4) W5 own_ne2) K6q nin0) W7 own_ne2) W8 own_ne2), (own_La_other (own_La_other (own_La_keep (own_La_other (own_La_new A4 rfl) W5 own_ne4) K6q nin0) W7 own_ne4) W8 own_ne4), own_ne24, Ne.symm own_ne2, Ne.symm own_ne4⟩, sz_b2, sz_b4⟩
theorem d5_0 : decode jdk_32_method_1_code 0 = .ok (.getstatic 1, 3) := by decide +kernel
theorem d5_3 : decode jdk_32_method_1_code 3 = .ok (.astore_n 0, 1) := by decide +kernel
theorem d5_4 : decode jdk_32_method_1_code 4 = .ok (.aload_n 0, 1) := by decide +kernel
theorem d5_5 : decode jdk_32_method_1_code 5 = .ok (.areturn, 1) := by decide +kernel
theorem pn_5 : plainName "java/util/Optional" = true := by first | (simp [plainName, overriddenIn]; done) | decide +kernel
theorem ef_5 (m : MethodId)  : entryFrame m #[] 1 = mkF m 0 #[.unset] [] := by first | (simp [entryFrame, mkF, argsToLocals, Value.category]; done) | rfl
def Q5 (Z : State) (w1 : Addr) (h0 : Heap) (n0 : Nat) (v : Option Value) (h : Heap) (L : List Loc) : Prop := v = some (.ref w1) ∧ Fr n0 L ∧ h = h0
set_option maxRecDepth 65536 in
set_option maxHeartbeats 40000000 in
theorem rm5 (l : Launch) (Z : State) (a0 : Array Value) (hw : ∀ d ∈ tables_1, d.before a0 Z = true) (ws : List Jvm.Cond) (w1 : Addr) (h0 : Heap) (n0 : Nat) (Z0 : n0 ≤ h0.size) (S_EMPTY : Sta Z h0 "java/util/Optional" "EMPTY" "Ljava/util/Optional;" (.ref w1)) :
    MetFree l (⟨"java/util/Optional", "empty", "()Ljava/util/Optional;"⟩ : MethodName) (head1 (Jvm.Cond.code (⟨"java/util/Optional", "empty", "()Ljava/util/Optional;"⟩ : MethodName) jdk_32_method_1_code 1 (some (.object "java/util/Optional")) :: ws) ({ frames := 0, cells := 0, slots := 0, locals := 0 } : Room)) (fun a U => a = #[] ∧ Z.Warmed39 U.vm ∧ U.heap = h0) (fun _ _ _ _ _ => True) (fun _ U o U' => ∃ v L, o = .returned v ∧ Q5 Z w1 h0 n0 v U'.heap L ∧ FrameEnd U o U' L ({ frames := 0, cells := 0, slots := 0, locals := 0 } : Room).cells ({ frames := 0, cells := 0, slots := 0, locals := 0 } : Room).slots) := by
  refine MetFree.of_bodySF (plainFor_of_name pn_5) hisR ?_
  intro p e s m args below meth c s₁ Bd hml0 hP hK
  obtain ⟨rfl, hZ, hh⟩ := hP
  have hx := Bd.exec
  have hby := Bd.bytes
  have hml : c.maxLocals = 1 := hml0
  have hown : s.vm.findClass "java/util/Optional" = some m.cls := findClass_of_methodNamed Bd.named
  have hnm := (name_of_methodNamed Bd.named Bd.method).1
  have X0 : Stand p l e ({ frames := 0, cells := 0, slots := 0, locals := 0 } : Room) s m #[] below meth c s₁ [] 0 0 := Stand.of_body Bd
  have e0 : s₁.heap = h0 := by rw [← hh, Bd.state]; rfl
  have N0 := Fr.nil n0
  have pre0 : ∀ t, Steps p.tables e below (s₁.setTop (mkF m 0 #[.unset] [])) t → Steps p.tables e below (s₁.setTop (entryFrame m #[] 1)) t := fun t k => castTop (ef_5 m ) k
  -- 3. LAWS
  obtain ⟨T2, X2, e2, st2⟩ := getS2 X0 hx hZ hown (host := "") (Or.inl (hw _ (List.mem_of_getElem? (i := 31) rfl))) Via.refl e0 S_EMPTY (g := (mkF m 0 #[.unset] [])) rfl (hb hby d5_0)
  obtain ⟨fs, hr, hrun, hended, hW, hsame⟩ := X2.leave (v := some (.ref w1)) (fun h => by rw [Bd.returns] at h; cases h)
  refine ⟨_, _, pre0 _ ?_, hrun, hended, _, _, rfl, ?_, ⟨_, rfl⟩, hW, hsame.mono (by decide) (by decide)⟩
  -- 4. STEPS
  · show Steps p.tables e below (s₁.setTop (mkF m 0 #[.unset] [])) _
    refine st2 _ ?_
    show Steps p.tables e below (T2.setTop (mkF m 3 #[.unset] [(.ref w1)])) _
    refine XS.astoreN X2.here hx rfl (hb hby d5_3) rfl rfl (l' := #[.val (.ref w1)]) rfl ?_
    show Steps p.tables e below (T2.setTop (mkF m 4 #[.val (.ref w1)] [])) _
    refine XS.aloadN X2.here hx rfl (hb hby d5_4) rfl rfl ?_
    show Steps p.tables e below (T2.setTop (mkF m 5 #[.val (.ref w1)] [(.ref w1)])) _
    jvm_step X2.here [X2.here.top, hx, (hb hby d5_5), X2.method', Bd.returns, Value.isRef, FieldType.isReference]
    first | (intro acts; rw [hr _ acts rfl rfl rfl]) | rw [hr _ _ rfl rfl rfl]
    exact Steps.refl _
  · show Q5 Z w1 h0 n0 _ T2.heap _
    rw [e2]
    exact ⟨rfl, N0, rfl⟩
theorem d1_0 : decode prog_58_method_1_code 0 = .ok (.aload_n 0, 1) := by decide +kernel
theorem d1_1 : decode prog_58_method_1_code 1 = .ok (.invokespecial 1, 3) := by decide +kernel
theorem d1_4 : decode prog_58_method_1_code 4 = .ok (.aload_n 0, 1) := by decide +kernel
theorem d1_5 : decode prog_58_method_1_code 5 = .ok (.invokevirtual 7, 3) := by decide +kernel
theorem d1_8 : decode prog_58_method_1_code 8 = .ok (.aload_n 0, 1) := by decide +kernel
theorem d1_9 : decode prog_58_method_1_code 9 = .ok (.invokestatic 12, 3) := by decide +kernel
theorem d1_12 : decode prog_58_method_1_code 12 = .ok (.putfield 17, 3) := by decide +kernel
theorem d1_15 : decode prog_58_method_1_code 15 = .ok (.return_, 1) := by decide +kernel
theorem pn_1 : plainName "com/example/tideshift/tideshift/partition/AccessCounts" = true := by first | (simp [plainName, overriddenIn]; done) | decide +kernel
theorem pd_1_0 : parseMethodDescriptor "()V" = some ⟨[], none⟩ := by decide +kernel
theorem pd_1_2 : parseMethodDescriptor "()Ljava/util/Optional;" = some ⟨[], some (.object "java/util/Optional")⟩ := by decide +kernel
theorem ef_1 (m : MethodId) (x0 : Addr) : entryFrame m #[(.ref x0)] 1 = mkF m 0 #[.val (.ref x0)] [] := by first | (simp [entryFrame, mkF, argsToLocals, Value.category]; done) | rfl
def Q1 (Z : State) (a1 : Addr) (u_reset_a1 : Value) (h0 : Heap) (n0 : Nat) (v : Option Value) (h : Heap) (L : List Loc) : Prop := v = none ∧ Fr n0 L ∧ Keep h0 h [a1] ∧ ∃ t u : Addr, own_AC Z h a1 t u (fun _ => 0) (fun _ => 0) 0 ∧ h0.size ≤ t ∧ h0.size ≤ u
set_option maxRecDepth 65536 in
set_option maxHeartbeats 40000000 in
theorem rm1 (l : Launch) (Z : State) (a0 : Array Value) (hw : ∀ d ∈ tables_1, d.before a0 Z = true) (ws : List Jvm.Cond) (a1 : Addr) (u_reset_a1 : Value) (h0 : Heap) (n0 : Nat) (Z0 : n0 ≤ h0.size) (E_a1 : Exa Z h0 a1 "com/example/tideshift/tideshift/partition/AccessCounts") (F_reset_a1 : Fld Z h0 a1 "com/example/tideshift/tideshift/partition/AccessCounts" "reset" "Ljava/util/Optional;" u_reset_a1) (g_a1 : n0 ≤ a1) (u_keys_a1 u_counts_a1 u_shift_a1 u_size_a1 : Value) (F_keys_a1 : Fld Z h0 a1 "com/example/tideshift/tideshift/partition/AccessCounts" "keys" "[J" u_keys_a1) (F_counts_a1 : Fld Z h0 a1 "com/example/tideshift/tideshift/partition/AccessCounts" "counts" "[J" u_counts_a1) (F_shift_a1 : Fld Z h0 a1 "com/example/tideshift/tideshift/partition/AccessCounts" "shift" "I" u_shift_a1) (F_size_a1 : Fld Z h0 a1 "com/example/tideshift/tideshift/partition/AccessCounts" "size" "I" u_size_a1) (w_E : Addr) (S_E : Sta Z Z.heap "java/util/Optional" "EMPTY" "Ljava/util/Optional;" (.ref w_E)) (X00 : Old Z n0 h0) :
    MetFree l (⟨"com/example/tideshift/tideshift/partition/AccessCounts", "<init>", "()V"⟩ : MethodName) (head1 (Jvm.Cond.code (⟨"com/example/tideshift/tideshift/partition/AccessCounts", "<init>", "()V"⟩ : MethodName) prog_58_method_1_code 1 none :: ws) ({ frames := 2, cells := 2, slots := 32, locals := 27 } : Room)) (fun a U => a = #[(.ref a1)] ∧ Z.Warmed39 U.vm ∧ U.heap = h0) (fun _ _ _ _ _ => True) (fun _ U o U' => ∃ v L, o = .returned v ∧ Q1 Z a1 u_reset_a1 h0 n0 v U'.heap L ∧ FrameEnd U o U' L ({ frames := 2, cells := 2, slots := 32, locals := 27 } : Room).cells ({ frames := 2, cells := 2, slots := 32, locals := 27 } : Room).slots) := by
  refine MetFree.of_bodySF (plainFor_of_name pn_1) hisR ?_
  intro p e s m args below meth c s₁ Bd hml0 hP hK
  obtain ⟨rfl, hZ, hh⟩ := hP
  have hx := Bd.exec
  have hby := Bd.bytes
  have hml : c.maxLocals = 1 := hml0
  have hown : s.vm.findClass "com/example/tideshift/tideshift/partition/AccessCounts" = some m.cls := findClass_of_methodNamed Bd.named
  have hnm := (name_of_methodNamed Bd.named Bd.method).1
  have X0 : Stand p l e ({ frames := 2, cells := 2, slots := 32, locals := 27 } : Room) s m #[(.ref a1)] below meth c s₁ [] 0 0 := Stand.of_body Bd
  have e0 : s₁.heap = h0 := by rw [← hh, Bd.state]; rfl
  have N0 := Fr.nil n0
  have pre0 : ∀ t, Steps p.tables e below (s₁.setTop (mkF m 0 #[.val (.ref a1)] [])) t → Steps p.tables e below (s₁.setTop (entryFrame m #[(.ref a1)] 1)) t := fun t k => castTop (ef_1 m a1) k
  -- 3. LAWS
  obtain ⟨T2, X2, e2, st2⟩ := initO X0 hx hZ hown (hw _ (List.mem_of_getElem? (i := 7) rfl)) (hw _ (List.mem_of_getElem? (i := 8) rfl)) (hw _ (List.mem_of_getElem? (i := 9) rfl)) e0 (g := (mkF m 1 #[.val (.ref a1)] [(.ref a1)])) rfl (by rw [hml]; rfl) rfl (hb hby d1_1) (by decide) (W := 0) (by show 2 * 0 + _ ≤ _; exact Nat.le_of_eq rfl) (by decide)
  -- pc 5: a private method: rm3
  obtain ⟨cq3, q3, q3'⟩ := E_a1.cell
  obtain ⟨_, _, ⟨T3, L3, k3, n3⟩, -, X3, ⟨Lc3, hQ3, l3, y3, z3⟩, st3⟩ := X2.privateBack hx (y := (⟨"com/example/tideshift/tideshift/partition/AccessCounts", "empty", "()V"⟩ : MethodName)) hown (mvT hZ (hw _ (List.mem_of_getElem? (i := 10) rfl))) (mvT hZ (hw _ (List.mem_of_getElem? (i := 11) rfl))) (mvT hZ (own_sel (hw _ (List.mem_of_getElem? (i := 2) rfl)) (hw _ (List.mem_of_getElem? (i := 12) rfl)) (hw _ (List.mem_of_getElem? (i := 11) rfl)) (by decide))) (Cond.privateMethod_at (mvP hZ (hw _ (List.mem_of_getElem? (i := 12) rfl)) (args := #[]))) (mvT hZ (hw _ (List.mem_of_getElem? (i := 13) rfl))) (by decide) (backOf (W := 0) (rm3 l Z a0 hw [] a1 u_keys_a1 u_counts_a1 u_shift_a1 u_size_a1 h0 n0 Z0 E_a1 F_keys_a1 g_a1 F_counts_a1 F_shift_a1 F_size_a1 u_reset_a1 F_reset_a1) hZ (hw _ (List.mem_of_getElem? (i := 13) rfl)) (hw _ (List.mem_of_getElem? (i := 3) rfl)) (by decide) (by decide)) (g := (mkF m 5 #[.val (.ref a1)] [(.ref a1)])) rfl (by rw [hml]; rfl) (Steps.refl _) (a := a1) (by rw [e2]; exact q3) q3' (argsL := []) (rest := []) (lenOf pd_1_0 rfl) rfl (by show 2 * 0 + _ ≤ _; exact Nat.le_of_eq rfl) (hb hby d1_5) (fun _ _ => ⟨rfl, e2, (by decide : 0 + 2 ≤ _), (by decide : 0 + 32 ≤ _)⟩)
  dsimp only [Pt.U, Pt.locs, Pt.cells, Pt.slots] at X3 l3 y3 z3 st3 hQ3
  subst l3 y3 z3
  obtain ⟨rfl, N3q, K3q, t3, u3, ⟨A3e, A3k, A3c, A3s, A3z, ⟨r3, A3r⟩, A3lk, A3lc, A3n1, A3n2, A3n3⟩, A3g1, A3g2⟩ := hQ3
  have KK3 : Keep h0 T3.heap [a1] := (Keep.refl _ _).trans K3q (allS (Or.inl (List.mem_cons_self ..)) all0)
  have Z3 : n0 ≤ T3.heap.size := Nat.le_trans Z0 K3q.1
  have N3 := Fr.app N0 N3q
  have CE2_a1 := (E_a1.keep K3q)
  -- pc 9: java/util/Optional.empty by its contract rm5
  obtain ⟨_, _, ⟨T4, L4, k4, n4⟩, -, X4, ⟨Lc4, hQ4, l4, y4, z4⟩, st4⟩ := Jvm.LawKit.callS X3 hx (y := (⟨"java/util/Optional", "empty", "()Ljava/util/Optional;"⟩ : MethodName)) hown (mvT hZ (hw _ (List.mem_of_getElem? (i := 27) rfl))) (mvT hZ (hw _ (List.mem_of_getElem? (i := 28) rfl))) (mvT hZ (hw _ (List.mem_of_getElem? (i := 29) rfl))) (mvT hZ (hw _ (List.mem_of_getElem? (i := 30) rfl))) (by decide) (backOf (W := 1) (rm5 l Z a0 hw []  w_E T3.heap n0 Z3 (S_E.ext (X00.keep K3q (allS g_a1 all0)).2)) hZ (hw _ (List.mem_of_getElem? (i := 30) rfl)) (hw _ (List.mem_of_getElem? (i := 29) rfl)) (by decide) (by decide)) (g := (mkF m 9 #[.val (.ref a1)] [(.ref a1)])) rfl (by rw [hml]; rfl) (argsL := []) (rest := [(.ref a1)]) (lenOf pd_1_2 rfl) rfl (by show 2 * 0 + _ ≤ _; exact Nat.le_of_eq rfl) (hb hby d1_9) (fun _ _ => ⟨rfl, rfl, (by decide : 2 + 0 ≤ _), (by decide : 32 + 0 ≤ _)⟩)
  dsimp only [Pt.U, Pt.locs, Pt.cells, Pt.slots] at X4 l4 y4 z4 st4 hQ4
  subst l4 y4 z4
  obtain ⟨rfl, N4q, E4q⟩ := hQ4
  have K4q : Keep T3.heap T4.heap [] := by rw [E4q]; exact Keep.refl _ _
  have KK4 : Keep h0 T4.heap [a1] := (KK3).trans K4q all0
  have Z4 : n0 ≤ T4.heap.size := Nat.le_trans Z3 K4q.1
  have N4 := Fr.app N3 N4q
  obtain ⟨T5, h5, X5, e5, W5, st5⟩ := putF X4 hx hZ hown (host := "") (Or.inl (hw _ (List.mem_of_getElem? (i := 32) rfl))) Via.refl rfl (A3r.keep K4q nin0) ((E_a1.keep K3q).keep K4q) (Or.inl (hw _ (List.mem_of_getElem? (i := 33) rfl))) (hw _ (List.mem_of_getElem? (i := 2) rfl)) (ty := (.object "java/util/Optional")) (by decide) rfl rfl (g := (mkF m 12 #[.val (.ref a1)] [(.ref w_E), (.ref a1)])) rfl rfl (hb hby d1_12)
  have Z5 : n0 ≤ h5.size := Nat.le_trans Z4 (Keep.of_wr W5).1
  have Fw5 := (A3r.keep K4q nin0).same W5      -- the field now holds (.ref w_E)
  have K5 : Keep h0 h5 [a1] := (KK4).wr W5 (Or.inl (List.mem_of_getElem? (i := 0) rfl))
  have N5 := Fr.snoc X5 N4 g_a1
  obtain ⟨fs, hr, hrun, hended, hW, hsame⟩ := X5.leave (v := none) (fun _ => rfl)
  refine ⟨_, _, pre0 _ ?_, hrun, hended, _, _, rfl, ?_, ⟨_, rfl⟩, hW, hsame.mono (by decide) (by decide)⟩
  -- 4. STEPS
  · show Steps p.tables e below (s₁.setTop (mkF m 0 #[.val (.ref a1)] [])) _
    refine XS.aloadN X0.here hx rfl (hb hby d1_0) rfl rfl ?_
    show Steps p.tables e below (s₁.setTop (mkF m 1 #[.val (.ref a1)] [(.ref a1)])) _
    refine st2 _ ?_
    show Steps p.tables e below (T2.setTop (mkF m 4 #[.val (.ref a1)] [])) _
    refine XS.aloadN X2.here hx rfl (hb hby d1_4) rfl rfl ?_
    show Steps p.tables e below (T2.setTop (mkF m 5 #[.val (.ref a1)] [(.ref a1)])) _
    refine st3.trans ?_
    show Steps p.tables e below (T3.setTop (mkF m 8 #[.val (.ref a1)] [])) _
    refine XS.aloadN X3.here hx rfl (hb hby d1_8) rfl rfl ?_
    show Steps p.tables e below (T3.setTop (mkF m 9 #[.val (.ref a1)] [(.ref a1)])) _
    refine st4 _ ?_
    show Steps p.tables e below (T4.setTop (mkF m 12 #[.val (.ref a1)] [(.ref w_E), (.ref a1)])) _
    refine st5 _ ?_
    show Steps p.tables e below (T5.setTop (mkF m 15 #[.val (.ref a1)] [])) _
    exact X5.returnOut hx Bd.returns (hb hby d1_15) hr
  · show Q1 Z a1 u_reset_a1 h0 n0 _ T5.heap _
    rw [e5]
    exact ⟨rfl, N5, K5, t3, u3, ⟨(A3e.keep K4q).wr W5, ((A3k.keep K4q nin0).other W5 (Or.inr (slot_ne (Or.inl (hw _ (List.mem_of_getElem? (i := 15) rfl))) (Or.inl (hw _ (List.mem_of_getElem? (i := 33) rfl))) (by decide) (t := (.array .long)) (t' := (.object "java/util/Optional")) (by decide) (by decide)))), ((A3c.keep K4q nin0).other W5 (Or.inr (slot_ne (Or.inl (hw _ (List.mem_of_getElem? (i := 17) rfl))) (Or.inl (hw _ (List.mem_of_getElem? (i := 33) rfl))) (by decide) (t := (.array .long)) (t' := (.object "java/util/Optional")) (by decide) (by decide)))), ((A3s.keep K4q nin0).other W5 (Or.inr (slot_ne (Or.inl (hw _ (List.mem_of_getElem? (i := 24) rfl))) (Or.inl (hw _ (List.mem_of_getElem? (i := 33) rfl))) (by decide) (t := .int) (t' := (.object "java/util/Optional")) (by decide) (by decide)))), ((A3z.keep K4q nin0).other W5 (Or.inr (slot_ne (Or.inl (hw _ (List.mem_of_getElem? (i := 26) rfl))) (Or.inl (hw _ (List.mem_of_getElem? (i := 33) rfl))) (by decide) (t := .int) (t' := (.object "java/util/Optional")) (by decide) (by decide)))), ⟨_, Fw5⟩, (own_La_other (own_La_keep A3lk K4q nin0) W5 (Ne.symm A3n2)), (own_La_other (own_La_keep A3lc K4q nin0) W5 (Ne.symm A3n3)), A3n1, A3n2, A3n3⟩, A3g1, A3g2⟩
theorem d7_21 : decode prog_58_method_11_code 21 = .ok (.aload_n 0, 1) := by decide +kernel
theorem d7_22 : decode prog_58_method_11_code 22 = .ok (.getfield 25, 3) := by decide +kernel
theorem d7_25 : decode prog_58_method_11_code 25 = .ok (.iload 4, 2) := by decide +kernel
theorem d7_27 : decode prog_58_method_11_code 27 = .ok (.laload, 1) := by decide +kernel
theorem d7_28 : decode prog_58_method_11_code 28 = .ok (.lconst 0, 1) := by decide +kernel
theorem d7_29 : decode prog_58_method_11_code 29 = .ok (.lcmp, 1) := by decide +kernel
theorem d7_30 : decode prog_58_method_11_code 30 = .ok (.ifCond .eq 26, 3) := by decide +kernel
theorem d7_33 : decode prog_58_method_11_code 33 = .ok (.aload_n 0, 1) := by decide +kernel
theorem d7_34 : decode prog_58_method_11_code 34 = .ok (.getfield 21, 3) := by decide +kernel
theorem d7_37 : decode prog_58_method_11_code 37 = .ok (.iload 4, 2) := by decide +kernel
theorem d7_39 : decode prog_58_method_11_code 39 = .ok (.laload, 1) := by decide +kernel
theorem d7_40 : decode prog_58_method_11_code 40 = .ok (.lload_n 1, 1) := by decide +kernel
theorem d7_41 : decode prog_58_method_11_code 41 = .ok (.lcmp, 1) := by decide +kernel
theorem d7_42 : decode prog_58_method_11_code 42 = .ok (.ifCond .eq 14, 3) := by decide +kernel
theorem d7_45 : decode prog_58_method_11_code 45 = .ok (.iload 4, 2) := by decide +kernel
theorem d7_47 : decode prog_58_method_11_code 47 = .ok (.iconst 1, 1) := by decide +kernel
theorem d7_48 : decode prog_58_method_11_code 48 = .ok (.iadd, 1) := by decide +kernel
theorem d7_49 : decode prog_58_method_11_code 49 = .ok (.iload_n 3, 1) := by decide +kernel
theorem d7_50 : decode prog_58_method_11_code 50 = .ok (.iand, 1) := by decide +kernel
theorem d7_51 : decode prog_58_method_11_code 51 = .ok (.istore 4, 2) := by decide +kernel
theorem d7_53 : decode prog_58_method_11_code 53 = .ok (.goto (-32), 3) := by decide +kernel
set_option maxRecDepth 65536 in
set_option maxHeartbeats 40000000 in
theorem tn7_21_21 {p : Program} {l : Launch} {e : Env} {R : Room} {s : State} {m : MethodId} {args : Array Value} {below : List Frame} {meth : Method} {c : Code} {T0 : State} {locs : List Loc} {cells slots : Nat} {Z : State} {a0 : Array Value} {h0 : Heap} (o0 : Addr) (j1 : Int64) (i3 : Int32) (i4 : Int32) (w3 : Addr) (w5 : Int64) (cl_w3 : Cell) (w6 : Addr) (w8 : Int64) (cl_w6 : Cell)
    (X0 : Stand p l e R s m args below meth c T0 locs cells slots) (hx : p.tables.exec = Jvm.exec) (hZ : Z.Warmed39 s.vm) (hw : ∀ d ∈ tables_1, d.before a0 Z = true) (hby : c.code = prog_58_method_11_code) (hml : c.maxLocals = 5) (hown : s.vm.findClass "com/example/tideshift/tideshift/partition/AccessCounts" = some m.cls) (e0 : T0.heap = h0) (F_counts_o0 : Fld Z h0 o0 "com/example/tideshift/tideshift/partition/AccessCounts" "counts" "[J" (.ref w3)) (Ar_w3 : Arr Z h0 w3 cl_w3 .long) (hin27 : ¬ (i4 < 0 ∨ cl_w3.slots.size ≤ (i4).toNatClampNeg)) (hat27 : cl_w3.slots[(i4).toNatClampNeg]? = some (.long w5)) (F_keys_o0 : Fld Z h0 o0 "com/example/tideshift/tideshift/partition/AccessCounts" "keys" "[J" (.ref w6)) (Ar_w6 : Arr Z h0 w6 cl_w6 .long) (hin39 : ¬ (i4 < 0 ∨ cl_w6.slots.size ≤ (i4).toNatClampNeg)) (hat39 : cl_w6.slots[(i4).toNatClampNeg]? = some (.long w8)) (hc30 : ¬ ((lcmpW w5 (0 : Int64)) = (0 : Int32))) (hc42 : ¬ ((lcmpW w8 j1) = (0 : Int32))) :
    ∃ (T' : State), Stand p l e R s m args below meth c T' locs cells slots ∧ T'.heap = h0 ∧
      ∀ target, Steps p.tables e below (T'.setTop (mkF m 21 #[.val (.ref o0), .val (.long j1), .second, .val (.int i3), .val (.int ((i4 + (1 : Int32)) &&& i3))] [])) target → Steps p.tables e below (T0.setTop (mkF m 21 #[.val (.ref o0), .val (.long j1), .second, .val (.int i3), .val (.int i4)] [])) target := by
  -- 3. LAWS
  obtain ⟨T4, X4, e4, st4⟩ := getF X0 hx hZ hown (host := "") (Or.inl (hw _ (List.mem_of_getElem? (i := 16) rfl))) Via.refl e0 F_counts_o0 (g := (mkF m 22 #[.val (.ref o0), .val (.long j1), .second, .val (.int i3), .val (.int i4)] [(.ref o0)])) rfl rfl (hb hby d7_22)
  obtain ⟨T7, X7, e7, st7⟩ := getF X4 hx hZ hown (host := "") (Or.inl (hw _ (List.mem_of_getElem? (i := 14) rfl))) Via.refl e4 F_keys_o0 (g := (mkF m 34 #[.val (.ref o0), .val (.long j1), .second, .val (.int i3), .val (.int i4)] [(.ref o0)])) rfl rfl (hb hby d7_34)
  refine ⟨T7, X7, e7, fun target kt => ?_⟩
  -- 4. STEPS
  show Steps p.tables e below (T0.setTop (mkF m 21 #[.val (.ref o0), .val (.long j1), .second, .val (.int i3), .val (.int i4)] [])) _
  refine XS.aloadN X0.here hx rfl (hb hby d7_21) rfl rfl ?_
  show Steps p.tables e below (T0.setTop (mkF m 22 #[.val (.ref o0), .val (.long j1), .second, .val (.int i3), .val (.int i4)] [(.ref o0)])) _
  refine st4 _ ?_
  show Steps p.tables e below (T4.setTop (mkF m 25 #[.val (.ref o0), .val (.long j1), .second, .val (.int i3), .val (.int i4)] [(.ref w3)])) _
  refine XS.iload X4.here hx rfl (hb hby d7_25) rfl ?_
  show Steps p.tables e below (T4.setTop (mkF m 27 #[.val (.ref o0), .val (.long j1), .second, .val (.int i3), .val (.int i4)] [(.int i4), (.ref w3)])) _
  refine X4.laload hx (j := i4) (v := (.long w5)) (by rw [e4]; exact Ar_w3.1) (State.isArrayOf_alike hZ.alike Ar_w3.2.1) Ar_w3.2.2 hin27 hat27 (g := (mkF m 27 #[.val (.ref o0), .val (.long j1), .second, .val (.int i3), .val (.int i4)] [(.int i4), (.ref w3)])) rfl rfl (hb hby d7_27) _ ?_
  show Steps p.tables e below (T4.setTop (mkF m 28 #[.val (.ref o0), .val (.long j1), .second, .val (.int i3), .val (.int i4)] [(.long w5)])) _
  refine XS.lconst X4.here hx rfl (hb hby d7_28) ?_
  show Steps p.tables e below (T4.setTop (mkF m 29 #[.val (.ref o0), .val (.long j1), .second, .val (.int i3), .val (.int i4)] [(.long (0 : Int64)), (.long w5)])) _
  refine XS.lcmp X4.here hx rfl (hb hby d7_29) rfl ?_
  show Steps p.tables e below (T4.setTop (mkF m 30 #[.val (.ref o0), .val (.long j1), .second, .val (.int i3), .val (.int i4)] [(.int (lcmpW w5 (0 : Int64)))])) _
  refine XS.ifNo X4.here hx rfl (hb hby d7_30) rfl ((if0 _ _).trans (feq hc30).1) ?_
  show Steps p.tables e below (T4.setTop (mkF m 33 #[.val (.ref o0), .val (.long j1), .second, .val (.int i3), .val (.int i4)] [])) _
  refine XS.aloadN X4.here hx rfl (hb hby d7_33) rfl rfl ?_
  show Steps p.tables e below (T4.setTop (mkF m 34 #[.val (.ref o0), .val (.long j1), .second, .val (.int i3), .val (.int i4)] [(.ref o0)])) _
  refine st7 _ ?_
  show Steps p.tables e below (T7.setTop (mkF m 37 #[.val (.ref o0), .val (.long j1), .second, .val (.int i3), .val (.int i4)] [(.ref w6)])) _
  refine XS.iload X7.here hx rfl (hb hby d7_37) rfl ?_
  show Steps p.tables e below (T7.setTop (mkF m 39 #[.val (.ref o0), .val (.long j1), .second, .val (.int i3), .val (.int i4)] [(.int i4), (.ref w6)])) _
  refine X7.laload hx (j := i4) (v := (.long w8)) (by rw [e7]; exact Ar_w6.1) (State.isArrayOf_alike hZ.alike Ar_w6.2.1) Ar_w6.2.2 hin39 hat39 (g := (mkF m 39 #[.val (.ref o0), .val (.long j1), .second, .val (.int i3), .val (.int i4)] [(.int i4), (.ref w6)])) rfl rfl (hb hby d7_39) _ ?_
  show Steps p.tables e below (T7.setTop (mkF m 40 #[.val (.ref o0), .val (.long j1), .second, .val (.int i3), .val (.int i4)] [(.long w8)])) _
  refine XS.lloadN X7.here hx rfl (hb hby d7_40) rfl ?_
  show Steps p.tables e below (T7.setTop (mkF m 41 #[.val (.ref o0), .val (.long j1), .second, .val (.int i3), .val (.int i4)] [(.long j1), (.long w8)])) _
  refine XS.lcmp X7.here hx rfl (hb hby d7_41) rfl ?_
  show Steps p.tables e below (T7.setTop (mkF m 42 #[.val (.ref o0), .val (.long j1), .second, .val (.int i3), .val (.int i4)] [(.int (lcmpW w8 j1))])) _
  refine XS.ifNo X7.here hx rfl (hb hby d7_42) rfl ((if0 _ _).trans (feq hc42).1) ?_
  show Steps p.tables e below (T7.setTop (mkF m 45 #[.val (.ref o0), .val (.long j1), .second, .val (.int i3), .val (.int i4)] [])) _
  refine XS.iload X7.here hx rfl (hb hby d7_45) rfl ?_
  show Steps p.tables e below (T7.setTop (mkF m 47 #[.val (.ref o0), .val (.long j1), .second, .val (.int i3), .val (.int i4)] [(.int i4)])) _
  refine XS.iconst X7.here hx rfl (hb hby d7_47) ?_
  show Steps p.tables e below (T7.setTop (mkF m 48 #[.val (.ref o0), .val (.long j1), .second, .val (.int i3), .val (.int i4)] [(.int (1 : Int32)), (.int i4)])) _
  refine XS.iadd X7.here hx rfl (hb hby d7_48) rfl ?_
  show Steps p.tables e below (T7.setTop (mkF m 49 #[.val (.ref o0), .val (.long j1), .second, .val (.int i3), .val (.int i4)] [(.int (i4 + (1 : Int32)))])) _
  refine XS.iloadN X7.here hx rfl (hb hby d7_49) rfl ?_
  show Steps p.tables e below (T7.setTop (mkF m 50 #[.val (.ref o0), .val (.long j1), .second, .val (.int i3), .val (.int i4)] [(.int i3), (.int (i4 + (1 : Int32)))])) _
  refine XS.iand X7.here hx rfl (hb hby d7_50) rfl ?_
  show Steps p.tables e below (T7.setTop (mkF m 51 #[.val (.ref o0), .val (.long j1), .second, .val (.int i3), .val (.int i4)] [(.int ((i4 + (1 : Int32)) &&& i3))])) _
  refine XS.istore X7.here hx rfl (hb hby d7_51) rfl (l' := #[.val (.ref o0), .val (.long j1), .second, .val (.int i3), .val (.int ((i4 + (1 : Int32)) &&& i3))]) rfl ?_
  show Steps p.tables e below (T7.setTop (mkF m 53 #[.val (.ref o0), .val (.long j1), .second, .val (.int i3), .val (.int ((i4 + (1 : Int32)) &&& i3))] [])) _
  refine XS.goto X7.here hx rfl (pc0 := 53) (pc' := 21) rfl (hb hby d7_53) (by decide) (by decide) ?_
  exact kt
set_option maxRecDepth 65536 in
set_option maxHeartbeats 40000000 in
theorem tn7t {p : Program} {l : Launch} {e : Env} {R : Room} {s : State} {m : MethodId} {args : Array Value} {below : List Frame} {meth : Method} {c : Code} {T0 : State} {locs : List Loc} {cells slots : Nat} {Z : State} {a0 : Array Value} {h0 : Heap} (o0 : Addr) (s1 : Slot) (s2 : Slot) (s3 : Slot) (i4 : Int32) (w3 : Addr) (w5 : Int64) (cl_w3 : Cell)
    (X0 : Stand p l e R s m args below meth c T0 locs cells slots) (hx : p.tables.exec = Jvm.exec) (hZ : Z.Warmed39 s.vm) (hw : ∀ d ∈ tables_1, d.before a0 Z = true) (hby : c.code = prog_58_method_11_code) (hml : c.maxLocals = 5) (hown : s.vm.findClass "com/example/tideshift/tideshift/partition/AccessCounts" = some m.cls) (e0 : T0.heap = h0) (F_counts_o0 : Fld Z h0 o0 "com/example/tideshift/tideshift/partition/AccessCounts" "counts" "[J" (.ref w3)) (Ar_w3 : Arr Z h0 w3 cl_w3 .long) (hin27 : ¬ (i4 < 0 ∨ cl_w3.slots.size ≤ (i4).toNatClampNeg)) (hat27 : cl_w3.slots[(i4).toNatClampNeg]? = some (.long w5)) (hc30 : (lcmpW w5 (0 : Int64)) = (0 : Int32)) :
    ∃ (T' : State), Stand p l e R s m args below meth c T' locs cells slots ∧ T'.heap = h0 ∧
      ∀ target, Steps p.tables e below (T'.setTop (mkF m 56 #[.val (.ref o0), s1, s2, s3, .val (.int i4)] [])) target → Steps p.tables e below (T0.setTop (mkF m 21 #[.val (.ref o0), s1, s2, s3, .val (.int i4)] [])) target := by
  -- 3. LAWS
  obtain ⟨T4, X4, e4, st4⟩ := getF X0 hx hZ hown (host := "") (Or.inl (hw _ (List.mem_of_getElem? (i := 16) rfl))) Via.refl e0 F_counts_o0 (g := (mkF m 22 #[.val (.ref o0), s1, s2, s3, .val (.int i4)] [(.ref o0)])) rfl rfl (hb hby d7_22)
  refine ⟨T4, X4, e4, fun target kt => ?_⟩
  -- 4. STEPS
  show Steps p.tables e below (T0.setTop (mkF m 21 #[.val (.ref o0), s1, s2, s3, .val (.int i4)] [])) _
  refine XS.aloadN X0.here hx rfl (hb hby d7_21) rfl rfl ?_
  show Steps p.tables e below (T0.setTop (mkF m 22 #[.val (.ref o0), s1, s2, s3, .val (.int i4)] [(.ref o0)])) _
  refine st4 _ ?_
  show Steps p.tables e below (T4.setTop (mkF m 25 #[.val (.ref o0), s1, s2, s3, .val (.int i4)] [(.ref w3)])) _
  refine XS.iload X4.here hx rfl (hb hby d7_25) rfl ?_
  show Steps p.tables e below (T4.setTop (mkF m 27 #[.val (.ref o0), s1, s2, s3, .val (.int i4)] [(.int i4), (.ref w3)])) _
  refine X4.laload hx (j := i4) (v := (.long w5)) (by rw [e4]; exact Ar_w3.1) (State.isArrayOf_alike hZ.alike Ar_w3.2.1) Ar_w3.2.2 hin27 hat27 (g := (mkF m 27 #[.val (.ref o0), s1, s2, s3, .val (.int i4)] [(.int i4), (.ref w3)])) rfl rfl (hb hby d7_27) _ ?_
  show Steps p.tables e below (T4.setTop (mkF m 28 #[.val (.ref o0), s1, s2, s3, .val (.int i4)] [(.long w5)])) _
  refine XS.lconst X4.here hx rfl (hb hby d7_28) ?_
  show Steps p.tables e below (T4.setTop (mkF m 29 #[.val (.ref o0), s1, s2, s3, .val (.int i4)] [(.long (0 : Int64)), (.long w5)])) _
  refine XS.lcmp X4.here hx rfl (hb hby d7_29) rfl ?_
  show Steps p.tables e below (T4.setTop (mkF m 30 #[.val (.ref o0), s1, s2, s3, .val (.int i4)] [(.int (lcmpW w5 (0 : Int64)))])) _
  refine XS.ifYes X4.here hx rfl (pc0 := 30) (pc' := 56) rfl (hb hby d7_30) rfl ((if0 _ _).trans (teq hc30).1) (by decide) (by decide) ?_
  exact kt
set_option maxRecDepth 65536 in
set_option maxHeartbeats 40000000 in
theorem tn7ft {p : Program} {l : Launch} {e : Env} {R : Room} {s : State} {m : MethodId} {args : Array Value} {below : List Frame} {meth : Method} {c : Code} {T0 : State} {locs : List Loc} {cells slots : Nat} {Z : State} {a0 : Array Value} {h0 : Heap} (o0 : Addr) (j1 : Int64) (s3 : Slot) (i4 : Int32) (w3 : Addr) (w5 : Int64) (cl_w3 : Cell) (w6 : Addr) (w8 : Int64) (cl_w6 : Cell)
    (X0 : Stand p l e R s m args below meth c T0 locs cells slots) (hx : p.tables.exec = Jvm.exec) (hZ : Z.Warmed39 s.vm) (hw : ∀ d ∈ tables_1, d.before a0 Z = true) (hby : c.code = prog_58_method_11_code) (hml : c.maxLocals = 5) (hown : s.vm.findClass "com/example/tideshift/tideshift/partition/AccessCounts" = some m.cls) (e0 : T0.heap = h0) (F_counts_o0 : Fld Z h0 o0 "com/example/tideshift/tideshift/partition/AccessCounts" "counts" "[J" (.ref w3)) (Ar_w3 : Arr Z h0 w3 cl_w3 .long) (hin27 : ¬ (i4 < 0 ∨ cl_w3.slots.size ≤ (i4).toNatClampNeg)) (hat27 : cl_w3.slots[(i4).toNatClampNeg]? = some (.long w5)) (F_keys_o0 : Fld Z h0 o0 "com/example/tideshift/tideshift/partition/AccessCounts" "keys" "[J" (.ref w6)) (Ar_w6 : Arr Z h0 w6 cl_w6 .long) (hin39 : ¬ (i4 < 0 ∨ cl_w6.slots.size ≤ (i4).toNatClampNeg)) (hat39 : cl_w6.slots[(i4).toNatClampNeg]? = some (.long w8)) (hc30 : ¬ ((lcmpW w5 (0 : Int64)) = (0 : Int32))) (hc42 : (lcmpW w8 j1) = (0 : Int32)) :
    ∃ (T' : State), Stand p l e R s m args below meth c T' locs cells slots ∧ T'.heap = h0 ∧
      ∀ target, Steps p.tables e below (T'.setTop (mkF m 56 #[.val (.ref o0), .val (.long j1), .second, s3, .val (.int i4)] [])) target → Steps p.tables e below (T0.setTop (mkF m 21 #[.val (.ref o0), .val (.long j1), .second, s3, .val (.int i4)] [])) target := by
  -- 3. LAWS
  obtain ⟨T4, X4, e4, st4⟩ := getF X0 hx hZ hown (host := "") (Or.inl (hw _ (List.mem_of_getElem? (i := 16) rfl))) Via.refl e0 F_counts_o0 (g := (mkF m 22 #[.val (.ref o0), .val (.long j1), .second, s3, .val (.int i4)] [(.ref o0)])) rfl rfl (hb hby d7_22)
  obtain ⟨T7, X7, e7, st7⟩ := getF X4 hx hZ hown (host := "") (Or.inl (hw _ (List.mem_of_getElem? (i := 14) rfl))) Via.refl e4 F_keys_o0 (g := (mkF m 34 #[.val (.ref o0), .val (.long j1), .second, s3, .val (.int i4)] [(.ref o0)])) rfl rfl (hb hby d7_34)
  refine ⟨T7, X7, e7, fun target kt => ?_⟩
  -- 4. STEPS
  show Steps p.tables e below (T0.setTop (mkF m 21 #[.val (.ref o0), .val (.long j1), .second, s3, .val (.int i4)] [])) _
  refine XS.aloadN X0.here hx rfl (hb hby d7_21) rfl rfl ?_
  show Steps p.tables e below (T0.setTop (mkF m 22 #[.val (.ref o0), .val (.long j1), .second, s3, .val (.int i4)] [(.ref o0)])) _
  refine st4 _ ?_
  show Steps p.tables e below (T4.setTop (mkF m 25 #[.val (.ref o0), .val (.long j1), .second, s3, .val (.int i4)] [(.ref w3)])) _
  refine XS.iload X4.here hx rfl (hb hby d7_25) rfl ?_
  show Steps p.tables e below (T4.setTop (mkF m 27 #[.val (.ref o0), .val (.long j1), .second, s3, .val (.int i4)] [(.int i4), (.ref w3)])) _
  refine X4.laload hx (j := i4) (v := (.long w5)) (by rw [e4]; exact Ar_w3.1) (State.isArrayOf_alike hZ.alike Ar_w3.2.1) Ar_w3.2.2 hin27 hat27 (g := (mkF m 27 #[.val (.ref o0), .val (.long j1), .second, s3, .val (.int i4)] [(.int i4), (.ref w3)])) rfl rfl (hb hby d7_27) _ ?_
  show Steps p.tables e below (T4.setTop (mkF m 28 #[.val (.ref o0), .val (.long j1), .second, s3, .val (.int i4)] [(.long w5)])) _
  refine XS.lconst X4.here hx rfl (hb hby d7_28) ?_
  show Steps p.tables e below (T4.setTop (mkF m 29 #[.val (.ref o0), .val (.long j1), .second, s3, .val (.int i4)] [(.long (0 : Int64)), (.long w5)])) _
  refine XS.lcmp X4.here hx rfl (hb hby d7_29) rfl ?_
  show Steps p.tables e below (T4.setTop (mkF m 30 #[.val (.ref o0), .val (.long j1), .second, s3, .val (.int i4)] [(.int (lcmpW w5 (0 : Int64)))])) _
  refine XS.ifNo X4.here hx rfl (hb hby d7_30) rfl ((if0 _ _).trans (feq hc30).1) ?_
  show Steps p.tables e below (T4.setTop (mkF m 33 #[.val (.ref o0), .val (.long j1), .second, s3, .val (.int i4)] [])) _
  refine XS.aloadN X4.here hx rfl (hb hby d7_33) rfl rfl ?_
  show Steps p.tables e below (T4.setTop (mkF m 34 #[.val (.ref o0), .val (.long j1), .second, s3, .val (.int i4)] [(.ref o0)])) _
  refine st7 _ ?_
  show Steps p.tables e below (T7.setTop (mkF m 37 #[.val (.ref o0), .val (.long j1), .second, s3, .val (.int i4)] [(.ref w6)])) _
  refine XS.iload X7.here hx rfl (hb hby d7_37) rfl ?_
  show Steps p.tables e below (T7.setTop (mkF m 39 #[.val (.ref o0), .val (.long j1), .second, s3, .val (.int i4)] [(.int i4), (.ref w6)])) _
  refine X7.laload hx (j := i4) (v := (.long w8)) (by rw [e7]; exact Ar_w6.1) (State.isArrayOf_alike hZ.alike Ar_w6.2.1) Ar_w6.2.2 hin39 hat39 (g := (mkF m 39 #[.val (.ref o0), .val (.long j1), .second, s3, .val (.int i4)] [(.int i4), (.ref w6)])) rfl rfl (hb hby d7_39) _ ?_
  show Steps p.tables e below (T7.setTop (mkF m 40 #[.val (.ref o0), .val (.long j1), .second, s3, .val (.int i4)] [(.long w8)])) _
  refine XS.lloadN X7.here hx rfl (hb hby d7_40) rfl ?_
  show Steps p.tables e below (T7.setTop (mkF m 41 #[.val (.ref o0), .val (.long j1), .second, s3, .val (.int i4)] [(.long j1), (.long w8)])) _
  refine XS.lcmp X7.here hx rfl (hb hby d7_41) rfl ?_
  show Steps p.tables e below (T7.setTop (mkF m 42 #[.val (.ref o0), .val (.long j1), .second, s3, .val (.int i4)] [(.int (lcmpW w8 j1))])) _
  refine XS.ifYes X7.here hx rfl (pc0 := 42) (pc' := 56) rfl (hb hby d7_42) rfl ((if0 _ _).trans (teq hc42).1) (by decide) (by decide) ?_
  exact kt
theorem loop7 {p : Program} {l : Launch} {e : Env} {R : Room} {s : State} {m : MethodId} {args : Array Value} {below : List Frame} {meth : Method} {c : Code} {locs : List Loc} {cells slots : Nat} {Z : State} {a0 : Array Value} {h0 : Heap} (o0 t u : Addr) (x : Int64) (ks cs : Nat → Int64) (d : Nat) (hx : p.tables.exec = Jvm.exec) (hZ : Z.Warmed39 s.vm) (hw : ∀ d ∈ tables_1, d.before a0 Z = true) (hby : c.code = prog_58_method_11_code) (hml : c.maxLocals = 5) (hown : s.vm.findClass "com/example/tideshift/tideshift/partition/AccessCounts" = some m.cls) (Fk : Fld Z h0 o0 "com/example/tideshift/tideshift/partition/AccessCounts" "keys" "[J" (.ref t)) (Fc : Fld Z h0 o0 "com/example/tideshift/tideshift/partition/AccessCounts" "counts" "[J" (.ref u)) (c1 c2 : Cell) (A1 : Arr Z h0 t c1 .long) (S1 : c1.slots.size = 16) (H1 : ∀ j, j < 16 → c1.slots[j]? = some (.long (ks j))) (A2 : Arr Z h0 u c2 .long) (S2 : c2.slots.size = 16) (H2 : ∀ j, j < 16 → c2.slots[j]? = some (.long (cs j)))
    (hp : ∀ i, i < d → cs (own_p x i) ≠ 0 ∧ ks (own_p x i) ≠ x) (he : cs (own_p x d) = 0 ∨ ks (own_p x d) = x) :
    ∀ (k i : Nat) (T0 : State), i + k = d → Stand p l e R s m args below meth c T0 locs cells slots → T0.heap = h0 →
      ∃ (T' : State), Stand p l e R s m args below meth c T' locs cells slots ∧ T'.heap = h0 ∧
        ∀ target, Steps p.tables e below (T'.setTop (mkF m 56 #[.val (.ref o0), .val (.long x), .second, .val (.int (15 : Int32)), .val (.int (Int32.ofNat (own_p x d)))] [])) target → Steps p.tables e below (T0.setTop (mkF m 21 #[.val (.ref o0), .val (.long x), .second, .val (.int (15 : Int32)), .val (.int (Int32.ofNat (own_p x i)))] [])) target := by
  have hin1 : ∀ i, ¬ (Int32.ofNat (own_p x i) < 0 ∨ c1.slots.size ≤ (Int32.ofNat (own_p x i)).toNatClampNeg) := fun i => by
    obtain ⟨q1, q2⟩ := own_i16 (own_p_lt x i)
    rw [S1, q2]; exact fun z => z.elim q1 (fun z => by have := own_p_lt x i; omega)
  have hin2 : ∀ i, ¬ (Int32.ofNat (own_p x i) < 0 ∨ c2.slots.size ≤ (Int32.ofNat (own_p x i)).toNatClampNeg) := fun i => by
    obtain ⟨q1, q2⟩ := own_i16 (own_p_lt x i)
    rw [S2, q2]; exact fun z => z.elim q1 (fun z => by have := own_p_lt x i; omega)
  have hat1 : ∀ i, c1.slots[(Int32.ofNat (own_p x i)).toNatClampNeg]? = some (.long (ks (own_p x i))) := fun i => by
    rw [(own_i16 (own_p_lt x i)).2]; exact H1 _ (own_p_lt x i)
  have hat2 : ∀ i, c2.slots[(Int32.ofNat (own_p x i)).toNatClampNeg]? = some (.long (cs (own_p x i))) := fun i => by
    rw [(own_i16 (own_p_lt x i)).2]; exact H2 _ (own_p_lt x i)
  intro k
  induction k with
  | zero =>
    intro i T0 hi X0 e0
    have hi' : i = d := by omega
    subst hi'
    by_cases hc : cs (own_p x i) = 0
    · exact tn7t o0 (.val (.long x)) .second (.val (.int 15)) (Int32.ofNat (own_p x i)) u (cs (own_p x i)) c2 X0 hx hZ hw hby hml hown e0 Fc A2 (hin2 i) (hat2 i) ((lw_eq _ _).mpr hc)
    · have hk : ks (own_p x i) = x := he.resolve_left hc
      exact tn7ft o0 x (.val (.int 15)) (Int32.ofNat (own_p x i)) u (cs (own_p x i)) c2 t (ks (own_p x i)) c1 X0 hx hZ hw hby hml hown e0 Fc A2 (hin2 i) (hat2 i) Fk A1 (hin1 i) (hat1 i) (fun z => hc ((lw_eq _ _).mp z)) ((lw_eq _ _).mpr hk)
  | succ k ih =>
    intro i T0 hi X0 e0
    obtain ⟨g1, g2⟩ := hp i (by omega)
    obtain ⟨T1, X1, e1, st1⟩ := tn7_21_21 o0 x 15 (Int32.ofNat (own_p x i)) u (cs (own_p x i)) c2 t (ks (own_p x i)) c1 X0 hx hZ hw hby hml hown e0 Fc A2 (hin2 i) (hat2 i) Fk A1 (hin1 i) (hat1 i) (fun z => g1 ((lw_eq _ _).mp z)) (fun z => g2 ((lw_eq _ _).mp z))
    obtain ⟨T', X', e', st⟩ := ih (i + 1) T1 (by omega) X1 e1
    refine ⟨T', X', e', fun target h => st1 target ?_⟩
    rw [own_p_next]
    exact st target h
theorem d7_0 : decode prog_58_method_11_code 0 = .ok (.aload_n 0, 1) := by decide +kernel
theorem d7_1 : decode prog_58_method_11_code 1 = .ok (.getfield 21, 3) := by decide +kernel
theorem d7_4 : decode prog_58_method_11_code 4 = .ok (.arraylength, 1) := by decide +kernel
theorem d7_5 : decode prog_58_method_11_code 5 = .ok (.iconst 1, 1) := by decide +kernel
theorem d7_6 : decode prog_58_method_11_code 6 = .ok (.isub, 1) := by decide +kernel
theorem d7_7 : decode prog_58_method_11_code 7 = .ok (.istore_n 3, 1) := by decide +kernel
theorem d7_8 : decode prog_58_method_11_code 8 = .ok (.lload_n 1, 1) := by decide +kernel
theorem d7_9 : decode prog_58_method_11_code 9 = .ok (.ldc2_w 66, 3) := by decide +kernel
theorem d7_12 : decode prog_58_method_11_code 12 = .ok (.lmul, 1) := by decide +kernel
theorem d7_13 : decode prog_58_method_11_code 13 = .ok (.aload_n 0, 1) := by decide +kernel
theorem d7_14 : decode prog_58_method_11_code 14 = .ok (.getfield 28, 3) := by decide +kernel
theorem d7_17 : decode prog_58_method_11_code 17 = .ok (.lushr, 1) := by decide +kernel
theorem d7_18 : decode prog_58_method_11_code 18 = .ok (.l2i, 1) := by decide +kernel
theorem d7_19 : decode prog_58_method_11_code 19 = .ok (.istore 4, 2) := by decide +kernel
theorem d7_56 : decode prog_58_method_11_code 56 = .ok (.iload 4, 2) := by decide +kernel
theorem d7_58 : decode prog_58_method_11_code 58 = .ok (.ireturn, 1) := by decide +kernel
theorem pn_7 : plainName "com/example/tideshift/tideshift/partition/AccessCounts" = true := by first | (simp [plainName, overriddenIn]; done) | decide +kernel
theorem ef_7 (m : MethodId) (x0 : Addr) (x1 : Int64) : entryFrame m #[(.ref x0), (.long x1)] 5 = mkF m 0 #[.val (.ref x0), .val (.long x1), .second, .unset, .unset] [] := by first | (simp [entryFrame, mkF, argsToLocals, Value.category]; done) | rfl
def Q7x (Z : State) (a1 : Addr) (q2 : Int64) (w3 : Addr) (cl_w3 : Cell) (z_w3 : Int32) (w5 : Int32) (d : Nat) (h0 : Heap) (n0 : Nat) (v : Option Value) (h : Heap) (L : List Loc) : Prop := v = some (.int (Int32.ofNat (own_p q2 d))) ∧ Fr n0 L ∧ h = h0
set_option maxRecDepth 65536 in
set_option maxHeartbeats 40000000 in
theorem rm7x (l : Launch) (Z : State) (a0 : Array Value) (hw : ∀ d ∈ tables_1, d.before a0 Z = true) (ws : List Jvm.Cond) (a1 : Addr) (q2 : Int64) (w3 : Addr) (cl_w3 : Cell) (z_w3 : Int32) (w5 : Int32) (h0 : Heap) (n0 : Nat) (Z0 : n0 ≤ h0.size) (F_keys_a1 : Fld Z h0 a1 "com/example/tideshift/tideshift/partition/AccessCounts" "keys" "[J" (.ref w3)) (Ar_w3 : Arr Z h0 w3 cl_w3 .long) (S_w3 : cl_w3.slots.size = z_w3.toNatClampNeg) (N_w3 : ¬ z_w3 < 0) (F_shift_a1 : Fld Z h0 a1 "com/example/tideshift/tideshift/partition/AccessCounts" "shift" "I" (.int w5)) (u : Addr) (ks cs : Nat → Int64) (d : Nat) (hw5 : w5 = (60 : Int32)) (hz3 : z_w3 = (16 : Int32)) (S1 : cl_w3.slots.size = 16) (H1 : ∀ j, j < 16 → cl_w3.slots[j]? = some (.long (ks j))) (Fc : Fld Z h0 a1 "com/example/tideshift/tideshift/partition/AccessCounts" "counts" "[J" (.ref u)) (c2 : Cell) (A2 : Arr Z h0 u c2 .long) (S2 : c2.slots.size = 16) (H2 : ∀ j, j < 16 → c2.slots[j]? = some (.long (cs j))) (hp : ∀ i, i < d → cs (own_p q2 i) ≠ 0 ∧ ks (own_p q2 i) ≠ q2) (he : cs (own_p q2 d) = 0 ∨ ks (own_p q2 d) = q2) :
    MetFree l (⟨"com/example/tideshift/tideshift/partition/AccessCounts", "placeOf", "(J)I"⟩ : MethodName) (head1 (Jvm.Cond.code (⟨"com/example/tideshift/tideshift/partition/AccessCounts", "placeOf", "(J)I"⟩ : MethodName) prog_58_method_11_code 5 (some .int) :: ws) ({ frames := 0, cells := 0, slots := 0, locals := 0 } : Room)) (fun a U => a = #[(.ref a1), (.long q2)] ∧ Z.Warmed39 U.vm ∧ U.heap = h0) (fun _ _ _ _ _ => True) (fun _ U o U' => ∃ v L, o = .returned v ∧ Q7x Z a1 q2 w3 cl_w3 z_w3 w5 d h0 n0 v U'.heap L ∧ FrameEnd U o U' L ({ frames := 0, cells := 0, slots := 0, locals := 0 } : Room).cells ({ frames := 0, cells := 0, slots := 0, locals := 0 } : Room).slots) := by
  refine MetFree.of_bodySF (plainFor_of_name pn_7) hisR ?_
  intro p e s m args below meth c s₁ Bd hml0 hP hK
  obtain ⟨rfl, hZ, hh⟩ := hP
  have hx := Bd.exec
  have hby := Bd.bytes
  have hml : c.maxLocals = 5 := hml0
  have hown : s.vm.findClass "com/example/tideshift/tideshift/partition/AccessCounts" = some m.cls := findClass_of_methodNamed Bd.named
  have hnm := (name_of_methodNamed Bd.named Bd.method).1
  have X0 : Stand p l e ({ frames := 0, cells := 0, slots := 0, locals := 0 } : Room) s m #[(.ref a1), (.long q2)] below meth c s₁ [] 0 0 := Stand.of_body Bd
  have e0 : s₁.heap = h0 := by rw [← hh, Bd.state]; rfl
  have N0 := Fr.nil n0
  have pre0 : ∀ t, Steps p.tables e below (s₁.setTop (mkF m 0 #[.val (.ref a1), .val (.long q2), .second, .unset, .unset] [])) t → Steps p.tables e below (s₁.setTop (entryFrame m #[(.ref a1), (.long q2)] 5)) t := fun t k => castTop (ef_7 m a1 q2) k
  -- 3. LAWS
  obtain ⟨T4, X4, e4, st4⟩ := getF X0 hx hZ hown (host := "") (Or.inl (hw _ (List.mem_of_getElem? (i := 14) rfl))) Via.refl e0 F_keys_a1 (g := (mkF m 1 #[.val (.ref a1), .val (.long q2), .second, .unset, .unset] [(.ref a1)])) rfl rfl (hb hby d7_1)
  obtain ⟨T6, X6, e6, st6⟩ := getF X4 hx hZ hown (host := "") (Or.inl (hw _ (List.mem_of_getElem? (i := 23) rfl))) Via.refl e4 F_shift_a1 (g := (mkF m 14 #[.val (.ref a1), .val (.long q2), .second, .val (.int (z_w3 - (1 : Int32))), .unset] [(.ref a1), (.long (q2 * (-7046029254386353131 : Int64)))])) rfl rfl (hb hby d7_14)
  have jmp_21 : ∀ target, Steps p.tables e below (T6.setTop (mkF m 21 #[.val (.ref a1), .val (.long q2), .second, .val (.int (15 : Int32)), .val (.int (Int32.ofNat (own_p q2 0)))] [])) target → Steps p.tables e below (T6.setTop (mkF m 21 #[.val (.ref a1), .val (.long q2), .second, .val (.int (z_w3 - (1 : Int32))), .val (.int ((((q2 * (-7046029254386353131 : Int64)).toUInt64 >>> (w5 &&& 0x3f).toInt64.toUInt64).toInt64).toInt32))] [])) target := by
    have q1 : (z_w3 - (1 : Int32)) = (15 : Int32) := by rw [hz3]; decide
    have q2' : ((((q2 * (-7046029254386353131 : Int64)).toUInt64 >>> (w5 &&& 0x3f).toInt64.toUInt64).toInt64).toInt32) = Int32.ofNat (own_p q2 0) := by rw [hw5, own_p0, ← own_H_eq]; rfl
    intro target kt
    exact castTop (by rw [q1, q2']) kt
  obtain ⟨T7, X7, e7, st7⟩ := loop7 a1 w3 u q2 ks cs d hx hZ hw hby hml hown F_keys_a1 Fc cl_w3 c2 Ar_w3 S1 H1 A2 S2 H2 hp he d 0 T6 (by omega) X6 e6
  obtain ⟨fs, hr, hrun, hended, hW, hsame⟩ := X7.leave (v := some (.int (Int32.ofNat (own_p q2 d)))) (fun h => by rw [Bd.returns] at h; cases h)
  refine ⟨_, _, pre0 _ ?_, hrun, hended, _, _, rfl, ?_, ⟨_, rfl⟩, hW, hsame.mono (by decide) (by decide)⟩
  -- 4. STEPS
  · show Steps p.tables e below (s₁.setTop (mkF m 0 #[.val (.ref a1), .val (.long q2), .second, .unset, .unset] [])) _
    refine XS.aloadN X0.here hx rfl (hb hby d7_0) rfl rfl ?_
    show Steps p.tables e below (s₁.setTop (mkF m 1 #[.val (.ref a1), .val (.long q2), .second, .unset, .unset] [(.ref a1)])) _
    refine st4 _ ?_
    show Steps p.tables e below (T4.setTop (mkF m 4 #[.val (.ref a1), .val (.long q2), .second, .unset, .unset] [(.ref w3)])) _
    refine X4.arraylength hx (by rw [e4]; exact Ar_w3.1) (State.isArrayOf_alike hZ.alike Ar_w3.2.1) (g := (mkF m 4 #[.val (.ref a1), .val (.long q2), .second, .unset, .unset] [(.ref w3)])) rfl rfl (hb hby d7_4) _ ?_
    rw [len_of S_w3 N_w3]
    show Steps p.tables e below (T4.setTop (mkF m 5 #[.val (.ref a1), .val (.long q2), .second, .unset, .unset] [(.int z_w3)])) _
    refine XS.iconst X4.here hx rfl (hb hby d7_5) ?_
    show Steps p.tables e below (T4.setTop (mkF m 6 #[.val (.ref a1), .val (.long q2), .second, .unset, .unset] [(.int (1 : Int32)), (.int z_w3)])) _
    refine XS.isub X4.here hx rfl (hb hby d7_6) rfl ?_
    show Steps p.tables e below (T4.setTop (mkF m 7 #[.val (.ref a1), .val (.long q2), .second, .unset, .unset] [(.int (z_w3 - (1 : Int32)))])) _
    refine XS.istoreN X4.here hx rfl (hb hby d7_7) rfl (l' := #[.val (.ref a1), .val (.long q2), .second, .val (.int (z_w3 - (1 : Int32))), .unset]) rfl ?_
    show Steps p.tables e below (T4.setTop (mkF m 8 #[.val (.ref a1), .val (.long q2), .second, .val (.int (z_w3 - (1 : Int32))), .unset] [])) _
    refine XS.lloadN X4.here hx rfl (hb hby d7_8) rfl ?_
    show Steps p.tables e below (T4.setTop (mkF m 9 #[.val (.ref a1), .val (.long q2), .second, .val (.int (z_w3 - (1 : Int32))), .unset] [(.long q2)])) _
    refine X4.ldc2Long hx hown (mvT hZ (hw _ (List.mem_of_getElem? (i := 43) rfl))) (g := (mkF m 9 #[.val (.ref a1), .val (.long q2), .second, .val (.int (z_w3 - (1 : Int32))), .unset] [(.long q2)])) rfl (hb hby d7_9) _ ?_
    show Steps p.tables e below (T4.setTop (mkF m 12 #[.val (.ref a1), .val (.long q2), .second, .val (.int (z_w3 - (1 : Int32))), .unset] [(.long (-7046029254386353131 : Int64)), (.long q2)])) _
    refine XS.lmul X4.here hx rfl (hb hby d7_12) rfl ?_
    show Steps p.tables e below (T4.setTop (mkF m 13 #[.val (.ref a1), .val (.long q2), .second, .val (.int (z_w3 - (1 : Int32))), .unset] [(.long (q2 * (-7046029254386353131 : Int64)))])) _
    refine XS.aloadN X4.here hx rfl (hb hby d7_13) rfl rfl ?_
    show Steps p.tables e below (T4.setTop (mkF m 14 #[.val (.ref a1), .val (.long q2), .second, .val (.int (z_w3 - (1 : Int32))), .unset] [(.ref a1), (.long (q2 * (-7046029254386353131 : Int64)))])) _
    refine st6 _ ?_
    show Steps p.tables e below (T6.setTop (mkF m 17 #[.val (.ref a1), .val (.long q2), .second, .val (.int (z_w3 - (1 : Int32))), .unset] [(.int w5), (.long (q2 * (-7046029254386353131 : Int64)))])) _
    refine XS.lushr X6.here hx rfl (hb hby d7_17) rfl ?_
    show Steps p.tables e below (T6.setTop (mkF m 18 #[.val (.ref a1), .val (.long q2), .second, .val (.int (z_w3 - (1 : Int32))), .unset] [(.long (((q2 * (-7046029254386353131 : Int64)).toUInt64 >>> (w5 &&& 0x3f).toInt64.toUInt64).toInt64))])) _
    refine XS.l2i X6.here hx rfl (hb hby d7_18) rfl ?_
    show Steps p.tables e below (T6.setTop (mkF m 19 #[.val (.ref a1), .val (.long q2), .second, .val (.int (z_w3 - (1 : Int32))), .unset] [(.int ((((q2 * (-7046029254386353131 : Int64)).toUInt64 >>> (w5 &&& 0x3f).toInt64.toUInt64).toInt64).toInt32))])) _
    refine XS.istore X6.here hx rfl (hb hby d7_19) rfl (l' := #[.val (.ref a1), .val (.long q2), .second, .val (.int (z_w3 - (1 : Int32))), .val (.int ((((q2 * (-7046029254386353131 : Int64)).toUInt64 >>> (w5 &&& 0x3f).toInt64.toUInt64).toInt64).toInt32))]) rfl ?_
    show Steps p.tables e below (T6.setTop (mkF m 21 #[.val (.ref a1), .val (.long q2), .second, .val (.int (z_w3 - (1 : Int32))), .val (.int ((((q2 * (-7046029254386353131 : Int64)).toUInt64 >>> (w5 &&& 0x3f).toInt64.toUInt64).toInt64).toInt32))] [])) _
    refine jmp_21 _ ?_
    show Steps p.tables e below (T6.setTop (mkF m 21 #[.val (.ref a1), .val (.long q2), .second, .val (.int (15 : Int32)), .val (.int (Int32.ofNat (own_p q2 0)))] [])) _
    refine st7 _ ?_
    show Steps p.tables e below (T7.setTop (mkF m 56 #[.val (.ref a1), .val (.long q2), .second, .val (.int (15 : Int32)), .val (.int (Int32.ofNat (own_p q2 d)))] [])) _
    refine XS.iload X7.here hx rfl (hb hby d7_56) rfl ?_
    show Steps p.tables e below (T7.setTop (mkF m 58 #[.val (.ref a1), .val (.long q2), .second, .val (.int (15 : Int32)), .val (.int (Int32.ofNat (own_p q2 d)))] [(.int (Int32.ofNat (own_p q2 d)))])) _
    exact retI X7 hx Bd.returns (hb hby d7_58) hr      -- retI stands in the head ('lawwalk <made dir>' prints it)
  · show Q7x Z a1 q2 w3 cl_w3 z_w3 w5 d h0 n0 _ T7.heap _
    rw [e7]
    exact ⟨rfl, N0, rfl⟩
def Q7 (q2 : Int64) (d : Nat) (h0 : Heap) (n0 : Nat) (v : Option Value) (h : Heap) (L : List Loc) : Prop := v = some (.int (Int32.ofNat (own_p q2 d))) ∧ Fr n0 L ∧ h = h0
theorem rm7 (l : Launch) (Z : State) (a0 : Array Value) (hw : ∀ d ∈ tables_1, d.before a0 Z = true) (ws : List Jvm.Cond) (a1 : Addr) (q2 : Int64) (t u : Addr) (ks cs : Nat → Int64) (sz d : Nat) (h0 : Heap) (n0 : Nat) (Z0 : n0 ≤ h0.size) (A : own_AC Z h0 a1 t u ks cs sz) (hp : ∀ i, i < d → cs (own_p q2 i) ≠ 0 ∧ ks (own_p q2 i) ≠ q2) (he : cs (own_p q2 d) = 0 ∨ ks (own_p q2 d) = q2) :
    MetFree l (⟨"com/example/tideshift/tideshift/partition/AccessCounts", "placeOf", "(J)I"⟩ : MethodName) (head1 (Jvm.Cond.code (⟨"com/example/tideshift/tideshift/partition/AccessCounts", "placeOf", "(J)I"⟩ : MethodName) prog_58_method_11_code 5 (some .int) :: ws) ({ frames := 0, cells := 0, slots := 0, locals := 0 } : Room)) (fun a U => a = #[(.ref a1), (.long q2)] ∧ Z.Warmed39 U.vm ∧ U.heap = h0) (fun _ _ _ _ _ => True) (fun _ U o U' => ∃ v L, o = .returned v ∧ Q7 q2 d h0 n0 v U'.heap L ∧ FrameEnd U o U' L ({ frames := 0, cells := 0, slots := 0, locals := 0 } : Room).cells ({ frames := 0, cells := 0, slots := 0, locals := 0 } : Room).slots) := by
  obtain ⟨-, Fk, Fc, Fs, -, -, ⟨c1, A1, S1, H1⟩, ⟨c2, A2, S2, H2⟩, -, -, -⟩ := A
  exact rm7x l Z a0 hw ws a1 q2 t c1 16 60 h0 n0 Z0 Fk A1 (by rw [S1]; rfl) (by decide) Fs u ks cs d rfl rfl S1 H1 Fc c2 A2 S2 H2 hp he
theorem d6_0 : decode prog_58_method_3_code 0 = .ok (.aload_n 0, 1) := by decide +kernel
theorem d6_1 : decode prog_58_method_3_code 1 = .ok (.lload_n 1, 1) := by decide +kernel
theorem d6_2 : decode prog_58_method_3_code 2 = .ok (.invokevirtual 35, 3) := by decide +kernel
theorem d6_5 : decode prog_58_method_3_code 5 = .ok (.istore_n 3, 1) := by decide +kernel
theorem d6_6 : decode prog_58_method_3_code 6 = .ok (.aload_n 0, 1) := by decide +kernel
theorem d6_7 : decode prog_58_method_3_code 7 = .ok (.getfield 25, 3) := by decide +kernel
theorem d6_10 : decode prog_58_method_3_code 10 = .ok (.iload_n 3, 1) := by decide +kernel
theorem d6_11 : decode prog_58_method_3_code 11 = .ok (.laload, 1) := by decide +kernel
theorem d6_12 : decode prog_58_method_3_code 12 = .ok (.lconst 0, 1) := by decide +kernel
theorem d6_13 : decode prog_58_method_3_code 13 = .ok (.lcmp, 1) := by decide +kernel
theorem d6_14 : decode prog_58_method_3_code 14 = .ok (.ifCond .eq 16, 3) := by decide +kernel
theorem d6_17 : decode prog_58_method_3_code 17 = .ok (.aload_n 0, 1) := by decide +kernel
theorem d6_18 : decode prog_58_method_3_code 18 = .ok (.getfield 25, 3) := by decide +kernel
theorem d6_21 : decode prog_58_method_3_code 21 = .ok (.iload_n 3, 1) := by decide +kernel
theorem d6_22 : decode prog_58_method_3_code 22 = .ok (.dup2, 1) := by decide +kernel
theorem d6_23 : decode prog_58_method_3_code 23 = .ok (.laload, 1) := by decide +kernel
theorem d6_24 : decode prog_58_method_3_code 24 = .ok (.lconst 1, 1) := by decide +kernel
theorem d6_25 : decode prog_58_method_3_code 25 = .ok (.ladd, 1) := by decide +kernel
theorem d6_26 : decode prog_58_method_3_code 26 = .ok (.lastore, 1) := by decide +kernel
theorem d6_27 : decode prog_58_method_3_code 27 = .ok (.goto 45, 3) := by decide +kernel
theorem d6_72 : decode prog_58_method_3_code 72 = .ok (.return_, 1) := by decide +kernel
theorem pn_6 : plainName "com/example/tideshift/tideshift/partition/AccessCounts" = true := by first | (simp [plainName, overriddenIn]; done) | decide +kernel
theorem pd_6_4 : parseMethodDescriptor "(J)I" = some ⟨[.long], some .int⟩ := by decide +kernel
theorem ef_6 (m : MethodId) (x0 : Addr) (x1 : Int64) : entryFrame m #[(.ref x0), (.long x1)] 4 = mkF m 0 #[.val (.ref x0), .val (.long x1), .second, .unset] [] := by first | (simp [entryFrame, mkF, argsToLocals, Value.category]; done) | rfl
def Q6h (Z : State) (a1 : Addr) (q2 : Int64) (w4 : Addr) (w6 : Int64) (cl_w4 : Cell) (t : Addr) (ks cs : Nat → Int64) (sz d : Nat) (h0 : Heap) (n0 : Nat) (v : Option Value) (h : Heap) (L : List Loc) : Prop := v = none ∧ Fr n0 L ∧ Keep h0 h [t, w4, a1] ∧ own_AC Z h a1 t w4 ks (own_upd cs (own_p q2 d) (w6 + (1 : Int64))) sz
set_option maxRecDepth 65536 in
set_option maxHeartbeats 40000000 in
theorem rm6h (l : Launch) (Z : State) (a0 : Array Value) (hw : ∀ d ∈ tables_1, d.before a0 Z = true) (ws : List Jvm.Cond) (a1 : Addr) (q2 : Int64) (w4 : Addr) (w6 : Int64) (cl_w4 : Cell) (h0 : Heap) (n0 : Nat) (Z0 : n0 ≤ h0.size) (E_a1 : Exa Z h0 a1 "com/example/tideshift/tideshift/partition/AccessCounts") (F_counts_a1 : Fld Z h0 a1 "com/example/tideshift/tideshift/partition/AccessCounts" "counts" "[J" (.ref w4)) (Ar_w4 : Arr Z h0 w4 cl_w4 .long) (g_w4 : n0 ≤ w4) (hc14 : ¬ ((lcmpW w6 (0 : Int64)) = (0 : Int32))) (t : Addr) (ks cs : Nat → Int64) (sz d : Nat) (Aac : own_AC Z h0 a1 t w4 ks cs sz) (hp : ∀ i, i < d → cs (own_p q2 i) ≠ 0 ∧ ks (own_p q2 i) ≠ q2) (he : cs (own_p q2 d) = 0 ∨ ks (own_p q2 d) = q2) (hin11 : ¬ ((Int32.ofNat (own_p q2 d)) < 0 ∨ cl_w4.slots.size ≤ ((Int32.ofNat (own_p q2 d))).toNatClampNeg)) (hat11 : cl_w4.slots[((Int32.ofNat (own_p q2 d))).toNatClampNeg]? = some (.long w6)) :
    MetFree l (⟨"com/example/tideshift/tideshift/partition/AccessCounts", "add", "(J)V"⟩ : MethodName) (head1 (Jvm.Cond.code (⟨"com/example/tideshift/tideshift/partition/AccessCounts", "add", "(J)V"⟩ : MethodName) prog_58_method_3_code 4 none :: ws) ({ frames := 1, cells := 0, slots := 0, locals := 16 } : Room)) (fun a U => a = #[(.ref a1), (.long q2)] ∧ Z.Warmed39 U.vm ∧ U.heap = h0) (fun _ _ _ _ _ => True) (fun _ U o U' => ∃ v L, o = .returned v ∧ Q6h Z a1 q2 w4 w6 cl_w4 t ks cs sz d h0 n0 v U'.heap L ∧ FrameEnd U o U' L ({ frames := 1, cells := 0, slots := 0, locals := 16 } : Room).cells ({ frames := 1, cells := 0, slots := 0, locals := 16 } : Room).slots) := by
  refine MetFree.of_bodySF (plainFor_of_name pn_6) hisR ?_
  intro p e s m args below meth c s₁ Bd hml0 hP hK
  obtain ⟨rfl, hZ, hh⟩ := hP
  have hx := Bd.exec
  have hby := Bd.bytes
  have hml : c.maxLocals = 4 := hml0
  have hown : s.vm.findClass "com/example/tideshift/tideshift/partition/AccessCounts" = some m.cls := findClass_of_methodNamed Bd.named
  have hnm := (name_of_methodNamed Bd.named Bd.method).1
  have X0 : Stand p l e ({ frames := 1, cells := 0, slots := 0, locals := 16 } : Room) s m #[(.ref a1), (.long q2)] below meth c s₁ [] 0 0 := Stand.of_body Bd
  have e0 : s₁.heap = h0 := by rw [← hh, Bd.state]; rfl
  have N0 := Fr.nil n0
  have pre0 : ∀ t, Steps p.tables e below (s₁.setTop (mkF m 0 #[.val (.ref a1), .val (.long q2), .second, .unset] [])) t → Steps p.tables e below (s₁.setTop (entryFrame m #[(.ref a1), (.long q2)] 4)) t := fun t k => castTop (ef_6 m a1 q2) k
  -- 3. LAWS
  -- pc 2: a private method: rm7
  obtain ⟨cq3, q3, q3'⟩ := E_a1.cell
  obtain ⟨_, _, ⟨T3, L3, k3, n3⟩, -, X3, ⟨Lc3, hQ3, l3, y3, z3⟩, st3⟩ := X0.privateBack hx (y := (⟨"com/example/tideshift/tideshift/partition/AccessCounts", "placeOf", "(J)I"⟩ : MethodName)) hown (mvT hZ (hw _ (List.mem_of_getElem? (i := 39) rfl))) (mvT hZ (hw _ (List.mem_of_getElem? (i := 40) rfl))) (mvT hZ (own_sel (hw _ (List.mem_of_getElem? (i := 2) rfl)) (hw _ (List.mem_of_getElem? (i := 41) rfl)) (hw _ (List.mem_of_getElem? (i := 40) rfl)) (by decide))) (Cond.privateMethod_at (mvP hZ (hw _ (List.mem_of_getElem? (i := 41) rfl)) (args := #[]))) (mvT hZ (hw _ (List.mem_of_getElem? (i := 42) rfl))) (by decide) (backOf (W := 0) (rm7 l Z a0 hw [] a1 q2 t w4 ks cs sz d h0 n0 Z0 Aac hp he) hZ (hw _ (List.mem_of_getElem? (i := 42) rfl)) (hw _ (List.mem_of_getElem? (i := 3) rfl)) (by decide) (by decide)) (g := (mkF m 2 #[.val (.ref a1), .val (.long q2), .second, .unset] [(.long q2), (.ref a1)])) rfl (by rw [hml]; rfl) (Steps.refl _) (a := a1) (by rw [e0]; exact q3) q3' (argsL := [(.long q2)]) (rest := []) (lenOf pd_6_4 rfl) rfl (by show 2 * 0 + _ ≤ _; exact Nat.le_of_eq rfl) (hb hby d6_2) (fun _ _ => ⟨rfl, e0, (by decide : 0 + 0 ≤ _), (by decide : 0 + 0 ≤ _)⟩)
  dsimp only [Pt.U, Pt.locs, Pt.cells, Pt.slots] at X3 l3 y3 z3 st3 hQ3
  subst l3 y3 z3
  obtain ⟨rfl, N3q, E3q⟩ := hQ3
  have K3q : Keep h0 T3.heap [] := by rw [E3q]; exact Keep.refl _ _
  obtain ⟨-, own_fk, own_fc, own_fs, own_fz, ⟨own_r, own_fr⟩, own_lk, own_lc, own_n1, own_n2, own_n3⟩ := id Aac
  have ArB : Arr Z T3.heap w4 cl_w4 .long := by rw [E3q]; exact Ar_w4
  have KK3 : Keep h0 T3.heap [w4] := (Keep.refl _ _).trans K3q all0
  have Z3 : n0 ≤ T3.heap.size := Nat.le_trans Z0 K3q.1
  have N3 := Fr.app N0 N3q
  obtain ⟨T5, X5, e5, st5⟩ := getF X3 hx hZ hown (host := "") (Or.inl (hw _ (List.mem_of_getElem? (i := 16) rfl))) Via.refl rfl (F_counts_a1.keep K3q nin0) (g := (mkF m 7 #[.val (.ref a1), .val (.long q2), .second, .val (.int (Int32.ofNat (own_p q2 d)))] [(.ref a1)])) rfl rfl (hb hby d6_7)
  -- ✋ yours, out of the call's Q: hin11 : ¬ ((Int32.ofNat (own_p q2 d)) < 0 ∨ cl_w4.slots.size ≤ ((Int32.ofNat (own_p q2 d))).toNatClampNeg)
  -- ✋ yours, out of the call's Q: hat11 : cl_w4.slots[((Int32.ofNat (own_p q2 d))).toNatClampNeg]? = some (.long w6)
  -- ✋ yours: ArB must speak of T3.heap here (carried over the writes ahead of it)
  obtain ⟨T7, X7, e7, st7⟩ := getF X5 hx hZ hown (host := "") (Or.inl (hw _ (List.mem_of_getElem? (i := 16) rfl))) Via.refl e5 (F_counts_a1.keep K3q nin0) (g := (mkF m 18 #[.val (.ref a1), .val (.long q2), .second, .val (.int (Int32.ofNat (own_p q2 d)))] [(.ref a1)])) rfl rfl (hb hby d6_18)
  -- ✋ yours, out of the call's Q: hin11 : ¬ ((Int32.ofNat (own_p q2 d)) < 0 ∨ cl_w4.slots.size ≤ ((Int32.ofNat (own_p q2 d))).toNatClampNeg)
  -- ✋ yours, out of the call's Q: hat11 : cl_w4.slots[((Int32.ofNat (own_p q2 d))).toNatClampNeg]? = some (.long w6)
  -- ✋ yours: ArB must speak of T3.heap here (carried over the writes ahead of it)
  -- ✋ yours, out of the call's Q: hin11 : ¬ ((Int32.ofNat (own_p q2 d)) < 0 ∨ cl_w4.slots.size ≤ ((Int32.ofNat (own_p q2 d))).toNatClampNeg)
  -- ✋ yours: ArB must speak of T3.heap here
  obtain ⟨T9, h9, X9, e9, W9, st9⟩ := stJ X7 hx hZ e7 ArB (j := (Int32.ofNat (own_p q2 d))) hin11 (g := (mkF m 26 #[.val (.ref a1), .val (.long q2), .second, .val (.int (Int32.ofNat (own_p q2 d)))] [(.long (w6 + (1 : Int64))), (.int (Int32.ofNat (own_p q2 d))), (.ref w4)])) rfl rfl (hb hby d6_26)
  have own_W : Wr T3.heap h9 w4 (own_p q2 d) (.long (w6 + (1 : Int64))) := (own_i16 (own_p_lt q2 d)).2 ▸ W9
  have Z9 : n0 ≤ h9.size := Nat.le_trans Z3 (Keep.of_wr W9).1
  have N9 := Fr.snoc X9 N3 g_w4
  -- ArB.same W9 : the array with (.long (w6 + (1 : Int64))) at the place (Int32.ofNat (own_p q2 d))
  have K9 : Keep h0 h9 [w4] := (KK3).wr W9 (Or.inl (List.mem_of_getElem? (i := 0) rfl))
  obtain ⟨fs, hr, hrun, hended, hW, hsame⟩ := X9.leave (v := none) (fun _ => rfl)
  refine ⟨_, _, pre0 _ ?_, hrun, hended, _, _, rfl, ?_, ⟨_, rfl⟩, hW, hsame.mono (by decide) (by decide)⟩
  -- 4. STEPS
  · show Steps p.tables e below (s₁.setTop (mkF m 0 #[.val (.ref a1), .val (.long q2), .second, .unset] [])) _
    refine XS.aloadN X0.here hx rfl (hb hby d6_0) rfl rfl ?_
    show Steps p.tables e below (s₁.setTop (mkF m 1 #[.val (.ref a1), .val (.long q2), .second, .unset] [(.ref a1)])) _
    refine XS.lloadN X0.here hx rfl (hb hby d6_1) rfl ?_
    show Steps p.tables e below (s₁.setTop (mkF m 2 #[.val (.ref a1), .val (.long q2), .second, .unset] [(.long q2), (.ref a1)])) _
    refine st3.trans ?_
    show Steps p.tables e below (T3.setTop (mkF m 5 #[.val (.ref a1), .val (.long q2), .second, .unset] [(.int (Int32.ofNat (own_p q2 d)))])) _
    refine XS.istoreN X3.here hx rfl (hb hby d6_5) rfl (l' := #[.val (.ref a1), .val (.long q2), .second, .val (.int (Int32.ofNat (own_p q2 d)))]) rfl ?_
    show Steps p.tables e below (T3.setTop (mkF m 6 #[.val (.ref a1), .val (.long q2), .second, .val (.int (Int32.ofNat (own_p q2 d)))] [])) _
    refine XS.aloadN X3.here hx rfl (hb hby d6_6) rfl rfl ?_
    show Steps p.tables e below (T3.setTop (mkF m 7 #[.val (.ref a1), .val (.long q2), .second, .val (.int (Int32.ofNat (own_p q2 d)))] [(.ref a1)])) _
    refine st5 _ ?_
    show Steps p.tables e below (T5.setTop (mkF m 10 #[.val (.ref a1), .val (.long q2), .second, .val (.int (Int32.ofNat (own_p q2 d)))] [(.ref w4)])) _
    refine XS.iloadN X5.here hx rfl (hb hby d6_10) rfl ?_
    show Steps p.tables e below (T5.setTop (mkF m 11 #[.val (.ref a1), .val (.long q2), .second, .val (.int (Int32.ofNat (own_p q2 d)))] [(.int (Int32.ofNat (own_p q2 d))), (.ref w4)])) _
    refine X5.laload hx (j := (Int32.ofNat (own_p q2 d))) (v := (.long w6)) (by rw [e5]; exact ArB.1) (State.isArrayOf_alike hZ.alike ArB.2.1) ArB.2.2 hin11 hat11 (g := (mkF m 11 #[.val (.ref a1), .val (.long q2), .second, .val (.int (Int32.ofNat (own_p q2 d)))] [(.int (Int32.ofNat (own_p q2 d))), (.ref w4)])) rfl rfl (hb hby d6_11) _ ?_
    show Steps p.tables e below (T5.setTop (mkF m 12 #[.val (.ref a1), .val (.long q2), .second, .val (.int (Int32.ofNat (own_p q2 d)))] [(.long w6)])) _
    refine XS.lconst X5.here hx rfl (hb hby d6_12) ?_
    show Steps p.tables e below (T5.setTop (mkF m 13 #[.val (.ref a1), .val (.long q2), .second, .val (.int (Int32.ofNat (own_p q2 d)))] [(.long (0 : Int64)), (.long w6)])) _
    refine XS.lcmp X5.here hx rfl (hb hby d6_13) rfl ?_
    show Steps p.tables e below (T5.setTop (mkF m 14 #[.val (.ref a1), .val (.long q2), .second, .val (.int (Int32.ofNat (own_p q2 d)))] [(.int (lcmpW w6 (0 : Int64)))])) _
    refine XS.ifNo X5.here hx rfl (hb hby d6_14) rfl ((if0 _ _).trans (feq hc14).1) ?_
    show Steps p.tables e below (T5.setTop (mkF m 17 #[.val (.ref a1), .val (.long q2), .second, .val (.int (Int32.ofNat (own_p q2 d)))] [])) _
    refine XS.aloadN X5.here hx rfl (hb hby d6_17) rfl rfl ?_
    show Steps p.tables e below (T5.setTop (mkF m 18 #[.val (.ref a1), .val (.long q2), .second, .val (.int (Int32.ofNat (own_p q2 d)))] [(.ref a1)])) _
    refine st7 _ ?_
    show Steps p.tables e below (T7.setTop (mkF m 21 #[.val (.ref a1), .val (.long q2), .second, .val (.int (Int32.ofNat (own_p q2 d)))] [(.ref w4)])) _
    refine XS.iloadN X7.here hx rfl (hb hby d6_21) rfl ?_
    show Steps p.tables e below (T7.setTop (mkF m 22 #[.val (.ref a1), .val (.long q2), .second, .val (.int (Int32.ofNat (own_p q2 d)))] [(.int (Int32.ofNat (own_p q2 d))), (.ref w4)])) _
    jvm_step X7.here [X7.here.top, hx, (hb hby d6_22), Value.category]
    show Steps p.tables e below (T7.setTop (mkF m 23 #[.val (.ref a1), .val (.long q2), .second, .val (.int (Int32.ofNat (own_p q2 d)))] [(.int (Int32.ofNat (own_p q2 d))), (.ref w4), (.int (Int32.ofNat (own_p q2 d))), (.ref w4)])) _
    refine X7.laload hx (j := (Int32.ofNat (own_p q2 d))) (v := (.long w6)) (by rw [e7]; exact ArB.1) (State.isArrayOf_alike hZ.alike ArB.2.1) ArB.2.2 hin11 hat11 (g := (mkF m 23 #[.val (.ref a1), .val (.long q2), .second, .val (.int (Int32.ofNat (own_p q2 d)))] [(.int (Int32.ofNat (own_p q2 d))), (.ref w4), (.int (Int32.ofNat (own_p q2 d))), (.ref w4)])) rfl rfl (hb hby d6_23) _ ?_
    show Steps p.tables e below (T7.setTop (mkF m 24 #[.val (.ref a1), .val (.long q2), .second, .val (.int (Int32.ofNat (own_p q2 d)))] [(.long w6), (.int (Int32.ofNat (own_p q2 d))), (.ref w4)])) _
    refine XS.lconst X7.here hx rfl (hb hby d6_24) ?_
    show Steps p.tables e below (T7.setTop (mkF m 25 #[.val (.ref a1), .val (.long q2), .second, .val (.int (Int32.ofNat (own_p q2 d)))] [(.long (1 : Int64)), (.long w6), (.int (Int32.ofNat (own_p q2 d))), (.ref w4)])) _
    refine XS.ladd X7.here hx rfl (hb hby d6_25) rfl ?_
    show Steps p.tables e below (T7.setTop (mkF m 26 #[.val (.ref a1), .val (.long q2), .second, .val (.int (Int32.ofNat (own_p q2 d)))] [(.long (w6 + (1 : Int64))), (.int (Int32.ofNat (own_p q2 d))), (.ref w4)])) _
    refine st9 _ ?_
    show Steps p.tables e below (T9.setTop (mkF m 27 #[.val (.ref a1), .val (.long q2), .second, .val (.int (Int32.ofNat (own_p q2 d)))] [])) _
    refine XS.goto X9.here hx rfl (pc0 := 27) (pc' := 72) rfl (hb hby d6_27) (by decide) (by decide) ?_
    show Steps p.tables e below (T9.setTop (mkF m 72 #[.val (.ref a1), .val (.long q2), .second, .val (.int (Int32.ofNat (own_p q2 d)))] [])) _
    exact X9.returnOut hx Bd.returns (hb hby d6_72) hr
  · show Q6h Z a1 q2 w4 w6 cl_w4 t ks cs sz d h0 n0 _ T9.heap _
    rw [e9]
    exact ⟨rfl, N9, (Keep.refl h0 [t, w4, a1]).trans K9 (allS (Or.inl (by simp)) all0), ⟨((E_a1.keep K3q).wr W9), ((own_fk.keep K3q nin0).other W9 (Or.inl own_n3)), ((own_fc.keep K3q nin0).other W9 (Or.inl own_n3)), ((own_fs.keep K3q nin0).other W9 (Or.inl own_n3)), ((own_fz.keep K3q nin0).other W9 (Or.inl own_n3)), ⟨_, ((own_fr.keep K3q nin0).other W9 (Or.inl own_n3))⟩, (own_La_other (own_La_keep own_lk K3q nin0) W9 own_n1), (own_La_same (own_La_keep own_lc K3q nin0) own_W), own_n1, own_n2, own_n3⟩⟩
theorem d6_30 : decode prog_58_method_3_code 30 = .ok (.aload_n 0, 1) := by decide +kernel
theorem d6_31 : decode prog_58_method_3_code 31 = .ok (.getfield 21, 3) := by decide +kernel
theorem d6_34 : decode prog_58_method_3_code 34 = .ok (.iload_n 3, 1) := by decide +kernel
theorem d6_35 : decode prog_58_method_3_code 35 = .ok (.lload_n 1, 1) := by decide +kernel
theorem d6_36 : decode prog_58_method_3_code 36 = .ok (.lastore, 1) := by decide +kernel
theorem d6_37 : decode prog_58_method_3_code 37 = .ok (.aload_n 0, 1) := by decide +kernel
theorem d6_38 : decode prog_58_method_3_code 38 = .ok (.getfield 25, 3) := by decide +kernel
theorem d6_41 : decode prog_58_method_3_code 41 = .ok (.iload_n 3, 1) := by decide +kernel
theorem d6_42 : decode prog_58_method_3_code 42 = .ok (.lconst 1, 1) := by decide +kernel
theorem d6_43 : decode prog_58_method_3_code 43 = .ok (.lastore, 1) := by decide +kernel
theorem d6_44 : decode prog_58_method_3_code 44 = .ok (.aload_n 0, 1) := by decide +kernel
theorem d6_45 : decode prog_58_method_3_code 45 = .ok (.dup, 1) := by decide +kernel
theorem d6_46 : decode prog_58_method_3_code 46 = .ok (.getfield 32, 3) := by decide +kernel
theorem d6_49 : decode prog_58_method_3_code 49 = .ok (.iconst 1, 1) := by decide +kernel
theorem d6_50 : decode prog_58_method_3_code 50 = .ok (.iadd, 1) := by decide +kernel
theorem d6_51 : decode prog_58_method_3_code 51 = .ok (.putfield 32, 3) := by decide +kernel
theorem d6_54 : decode prog_58_method_3_code 54 = .ok (.aload_n 0, 1) := by decide +kernel
theorem d6_55 : decode prog_58_method_3_code 55 = .ok (.getfield 32, 3) := by decide +kernel
theorem d6_58 : decode prog_58_method_3_code 58 = .ok (.aload_n 0, 1) := by decide +kernel
theorem d6_59 : decode prog_58_method_3_code 59 = .ok (.getfield 21, 3) := by decide +kernel
theorem d6_62 : decode prog_58_method_3_code 62 = .ok (.arraylength, 1) := by decide +kernel
theorem d6_63 : decode prog_58_method_3_code 63 = .ok (.iconst 2, 1) := by decide +kernel
theorem d6_64 : decode prog_58_method_3_code 64 = .ok (.idiv, 1) := by decide +kernel
theorem d6_65 : decode prog_58_method_3_code 65 = .ok (.if_icmp .le 7, 3) := by decide +kernel
def Q6n (Z : State) (a1 : Addr) (q2 : Int64) (w4 : Addr) (w6 : Int64) (cl_w4 : Cell) (w7 : Addr) (cl_w7 : Cell) (w12 : Int32) (z_w7 : Int32) (ks cs : Nat → Int64) (sz d : Nat) (h0 : Heap) (n0 : Nat) (v : Option Value) (h : Heap) (L : List Loc) : Prop := v = none ∧ Fr n0 L ∧ Keep h0 h [w7, w4, a1] ∧ own_AC Z h a1 w7 w4 (own_upd ks (own_p q2 d) q2) (own_upd cs (own_p q2 d) 1) (sz + 1)
set_option maxRecDepth 65536 in
set_option maxHeartbeats 40000000 in
theorem rm6n (l : Launch) (Z : State) (a0 : Array Value) (hw : ∀ d ∈ tables_1, d.before a0 Z = true) (ws : List Jvm.Cond) (a1 : Addr) (q2 : Int64) (w4 : Addr) (w6 : Int64) (cl_w4 : Cell) (w7 : Addr) (cl_w7 : Cell) (w12 : Int32) (z_w7 : Int32) (h0 : Heap) (n0 : Nat) (Z0 : n0 ≤ h0.size) (E_a1 : Exa Z h0 a1 "com/example/tideshift/tideshift/partition/AccessCounts") (F_counts_a1 : Fld Z h0 a1 "com/example/tideshift/tideshift/partition/AccessCounts" "counts" "[J" (.ref w4)) (Ar_w4 : Arr Z h0 w4 cl_w4 .long) (F_keys_a1 : Fld Z h0 a1 "com/example/tideshift/tideshift/partition/AccessCounts" "keys" "[J" (.ref w7)) (Ar_w7 : Arr Z h0 w7 cl_w7 .long) (g_w7 : n0 ≤ w7) (g_w4 : n0 ≤ w4) (F_size_a1 : Fld Z h0 a1 "com/example/tideshift/tideshift/partition/AccessCounts" "size" "I" (.int w12)) (g_a1 : n0 ≤ a1) (S_w7 : cl_w7.slots.size = z_w7.toNatClampNeg) (N_w7 : ¬ z_w7 < 0) (hc14 : (lcmpW w6 (0 : Int64)) = (0 : Int32)) (hc65 : ¬ ((z_w7 / (2 : Int32)) < (w12 + (1 : Int32)))) (ks cs : Nat → Int64) (sz d : Nat) (hsz : w12 = Int32.ofNat sz) (Aac : own_AC Z h0 a1 w7 w4 ks cs sz) (hp : ∀ i, i < d → cs (own_p q2 i) ≠ 0 ∧ ks (own_p q2 i) ≠ q2) (he : cs (own_p q2 d) = 0 ∨ ks (own_p q2 d) = q2) (hin11 : ¬ ((Int32.ofNat (own_p q2 d)) < 0 ∨ cl_w4.slots.size ≤ ((Int32.ofNat (own_p q2 d))).toNatClampNeg)) (hat11 : cl_w4.slots[((Int32.ofNat (own_p q2 d))).toNatClampNeg]? = some (.long w6)) (hinK : ¬ ((Int32.ofNat (own_p q2 d)) < 0 ∨ cl_w7.slots.size ≤ ((Int32.ofNat (own_p q2 d))).toNatClampNeg)) :
    MetFree l (⟨"com/example/tideshift/tideshift/partition/AccessCounts", "add", "(J)V"⟩ : MethodName) (head1 (Jvm.Cond.code (⟨"com/example/tideshift/tideshift/partition/AccessCounts", "add", "(J)V"⟩ : MethodName) prog_58_method_3_code 4 none :: ws) ({ frames := 1, cells := 0, slots := 0, locals := 16 } : Room)) (fun a U => a = #[(.ref a1), (.long q2)] ∧ Z.Warmed39 U.vm ∧ U.heap = h0) (fun _ _ _ _ _ => True) (fun _ U o U' => ∃ v L, o = .returned v ∧ Q6n Z a1 q2 w4 w6 cl_w4 w7 cl_w7 w12 z_w7 ks cs sz d h0 n0 v U'.heap L ∧ FrameEnd U o U' L ({ frames := 1, cells := 0, slots := 0, locals := 16 } : Room).cells ({ frames := 1, cells := 0, slots := 0, locals := 16 } : Room).slots) := by
  refine MetFree.of_bodySF (plainFor_of_name pn_6) hisR ?_
  intro p e s m args below meth c s₁ Bd hml0 hP hK
  obtain ⟨rfl, hZ, hh⟩ := hP
  have hx := Bd.exec
  have hby := Bd.bytes
  have hml : c.maxLocals = 4 := hml0
  have hown : s.vm.findClass "com/example/tideshift/tideshift/partition/AccessCounts" = some m.cls := findClass_of_methodNamed Bd.named
  have hnm := (name_of_methodNamed Bd.named Bd.method).1
  have X0 : Stand p l e ({ frames := 1, cells := 0, slots := 0, locals := 16 } : Room) s m #[(.ref a1), (.long q2)] below meth c s₁ [] 0 0 := Stand.of_body Bd
  have e0 : s₁.heap = h0 := by rw [← hh, Bd.state]; rfl
  have N0 := Fr.nil n0
  have pre0 : ∀ t, Steps p.tables e below (s₁.setTop (mkF m 0 #[.val (.ref a1), .val (.long q2), .second, .unset] [])) t → Steps p.tables e below (s₁.setTop (entryFrame m #[(.ref a1), (.long q2)] 4)) t := fun t k => castTop (ef_6 m a1 q2) k
  -- 3. LAWS
  -- pc 2: a private method: rm7
  obtain ⟨cq3, q3, q3'⟩ := E_a1.cell
  obtain ⟨_, _, ⟨T3, L3, k3, n3⟩, -, X3, ⟨Lc3, hQ3, l3, y3, z3⟩, st3⟩ := X0.privateBack hx (y := (⟨"com/example/tideshift/tideshift/partition/AccessCounts", "placeOf", "(J)I"⟩ : MethodName)) hown (mvT hZ (hw _ (List.mem_of_getElem? (i := 39) rfl))) (mvT hZ (hw _ (List.mem_of_getElem? (i := 40) rfl))) (mvT hZ (own_sel (hw _ (List.mem_of_getElem? (i := 2) rfl)) (hw _ (List.mem_of_getElem? (i := 41) rfl)) (hw _ (List.mem_of_getElem? (i := 40) rfl)) (by decide))) (Cond.privateMethod_at (mvP hZ (hw _ (List.mem_of_getElem? (i := 41) rfl)) (args := #[]))) (mvT hZ (hw _ (List.mem_of_getElem? (i := 42) rfl))) (by decide) (backOf (W := 0) (rm7 l Z a0 hw [] a1 q2 w7 w4 ks cs sz d h0 n0 Z0 Aac hp he) hZ (hw _ (List.mem_of_getElem? (i := 42) rfl)) (hw _ (List.mem_of_getElem? (i := 3) rfl)) (by decide) (by decide)) (g := (mkF m 2 #[.val (.ref a1), .val (.long q2), .second, .unset] [(.long q2), (.ref a1)])) rfl (by rw [hml]; rfl) (Steps.refl _) (a := a1) (by rw [e0]; exact q3) q3' (argsL := [(.long q2)]) (rest := []) (lenOf pd_6_4 rfl) rfl (by show 2 * 0 + _ ≤ _; exact Nat.le_of_eq rfl) (hb hby d6_2) (fun _ _ => ⟨rfl, e0, (by decide : 0 + 0 ≤ _), (by decide : 0 + 0 ≤ _)⟩)
  dsimp only [Pt.U, Pt.locs, Pt.cells, Pt.slots] at X3 l3 y3 z3 st3 hQ3
  subst l3 y3 z3
  obtain ⟨rfl, N3q, E3q⟩ := hQ3
  have K3q : Keep h0 T3.heap [] := by rw [E3q]; exact Keep.refl _ _
  obtain ⟨-, own_fk, own_fc, own_fs, own_fz, ⟨own_r, own_fr⟩, own_lk, own_lc, own_n1, own_n2, own_n3⟩ := id Aac
  have ArB : Arr Z T3.heap w4 cl_w4 .long := by rw [E3q]; exact Ar_w4
  have ArK : Arr Z T3.heap w7 cl_w7 .long := by rw [E3q]; exact Ar_w7
  have KK3 : Keep h0 T3.heap [w7, w4, a1] := (Keep.refl _ _).trans K3q all0
  have Z3 : n0 ≤ T3.heap.size := Nat.le_trans Z0 K3q.1
  have N3 := Fr.app N0 N3q
  obtain ⟨T5, X5, e5, st5⟩ := getF X3 hx hZ hown (host := "") (Or.inl (hw _ (List.mem_of_getElem? (i := 16) rfl))) Via.refl rfl (F_counts_a1.keep K3q nin0) (g := (mkF m 7 #[.val (.ref a1), .val (.long q2), .second, .val (.int (Int32.ofNat (own_p q2 d)))] [(.ref a1)])) rfl rfl (hb hby d6_7)
  -- ✋ yours, out of the call's Q: hin11 : ¬ ((Int32.ofNat (own_p q2 d)) < 0 ∨ cl_w4.slots.size ≤ ((Int32.ofNat (own_p q2 d))).toNatClampNeg)
  -- ✋ yours, out of the call's Q: hat11 : cl_w4.slots[((Int32.ofNat (own_p q2 d))).toNatClampNeg]? = some (.long w6)
  -- ✋ yours: Ar_w4 must speak of T3.heap here (carried over the writes ahead of it)
  obtain ⟨T8, X8, e8, st8⟩ := getF X5 hx hZ hown (host := "") (Or.inl (hw _ (List.mem_of_getElem? (i := 14) rfl))) Via.refl e5 (F_keys_a1.keep K3q nin0) (g := (mkF m 31 #[.val (.ref a1), .val (.long q2), .second, .val (.int (Int32.ofNat (own_p q2 d)))] [(.ref a1)])) rfl rfl (hb hby d6_31)
  -- ✋ yours, out of the call's Q: hinK : ¬ ((Int32.ofNat (own_p q2 d)) < 0 ∨ cl_w7.slots.size ≤ ((Int32.ofNat (own_p q2 d))).toNatClampNeg)
  -- ✋ yours: ArK must speak of T3.heap here
  obtain ⟨T9, h9, X9, e9, W9, st9⟩ := stJ X8 hx hZ e8 ArK (j := (Int32.ofNat (own_p q2 d))) hinK (g := (mkF m 36 #[.val (.ref a1), .val (.long q2), .second, .val (.int (Int32.ofNat (own_p q2 d)))] [(.long q2), (.int (Int32.ofNat (own_p q2 d))), (.ref w7)])) rfl rfl (hb hby d6_36)
  have own_W : Wr T3.heap h9 w7 (own_p q2 d) (.long q2) := (own_i16 (own_p_lt q2 d)).2 ▸ W9
  have ArC : Arr Z h9 w4 cl_w4 .long := ArB.other W9 (Ne.symm own_n1)
  have Z9 : n0 ≤ h9.size := Nat.le_trans Z3 (Keep.of_wr W9).1
  have N9 := Fr.snoc X9 N3 g_w7
  -- ArK.same W9 : the array with (.long q2) at the place (Int32.ofNat (own_p q2 d))
  have K9 : Keep h0 h9 [w7, w4, a1] := (KK3).wr W9 (Or.inl (List.mem_of_getElem? (i := 0) rfl))
  obtain ⟨T10, X10, e10, st10⟩ := getF X9 hx hZ hown (host := "") (Or.inl (hw _ (List.mem_of_getElem? (i := 16) rfl))) Via.refl e9 ((F_counts_a1.keep K3q nin0).other W9 (Or.inl own_n2)) (g := (mkF m 38 #[.val (.ref a1), .val (.long q2), .second, .val (.int (Int32.ofNat (own_p q2 d)))] [(.ref a1)])) rfl rfl (hb hby d6_38)
  -- ✋ yours, out of the call's Q: hin11 : ¬ ((Int32.ofNat (own_p q2 d)) < 0 ∨ cl_w4.slots.size ≤ ((Int32.ofNat (own_p q2 d))).toNatClampNeg)
  -- ✋ yours: Ar_w4 must speak of h9 here
  obtain ⟨T11, h11, X11, e11, W11, st11⟩ := stJ X10 hx hZ e10 ArC (j := (Int32.ofNat (own_p q2 d))) hin11 (g := (mkF m 43 #[.val (.ref a1), .val (.long q2), .second, .val (.int (Int32.ofNat (own_p q2 d)))] [(.long (1 : Int64)), (.int (Int32.ofNat (own_p q2 d))), (.ref w4)])) rfl rfl (hb hby d6_43)
  have own_V : Wr h9 h11 w4 (own_p q2 d) (.long (1 : Int64)) := (own_i16 (own_p_lt q2 d)).2 ▸ W11
  have Z11 : n0 ≤ h11.size := Nat.le_trans Z9 (Keep.of_wr W11).1
  have N11 := Fr.snoc X11 N9 g_w4
  -- ArC.same W11 : the array with (.long (1 : Int64)) at the place (Int32.ofNat (own_p q2 d))
  have K11 : Keep h0 h11 [w7, w4, a1] := K9.wr W11 (Or.inl (List.mem_of_getElem? (i := 1) rfl))
  obtain ⟨T13, X13, e13, st13⟩ := getF X11 hx hZ hown (host := "") (Or.inl (hw _ (List.mem_of_getElem? (i := 25) rfl))) Via.refl e11 (((F_size_a1.keep K3q nin0).other W9 (Or.inl own_n2)).other W11 (Or.inl own_n3)) (g := (mkF m 46 #[.val (.ref a1), .val (.long q2), .second, .val (.int (Int32.ofNat (own_p q2 d)))] [(.ref a1), (.ref a1)])) rfl rfl (hb hby d6_46)
  obtain ⟨T14, h14, X14, e14, W14, st14⟩ := putF X13 hx hZ hown (host := "") (Or.inl (hw _ (List.mem_of_getElem? (i := 25) rfl))) Via.refl e13 (((F_size_a1.keep K3q nin0).other W9 (Or.inl own_n2)).other W11 (Or.inl own_n3)) (((E_a1.keep K3q).wr W9).wr W11) (Or.inl (hw _ (List.mem_of_getElem? (i := 26) rfl))) (hw _ (List.mem_of_getElem? (i := 2) rfl)) (ty := .int) (by decide) rfl rfl (g := (mkF m 51 #[.val (.ref a1), .val (.long q2), .second, .val (.int (Int32.ofNat (own_p q2 d)))] [(.int (w12 + (1 : Int32))), (.ref a1)])) rfl rfl (hb hby d6_51)
  have ArL : Arr Z h14 w7 (cl_w7.setSlot ((Int32.ofNat (own_p q2 d))).toNatClampNeg (.long q2)) .long := ((ArK.same W9).other W11 own_n1).other W14 (Ne.symm own_n2)
  have own_S : (cl_w7.setSlot ((Int32.ofNat (own_p q2 d))).toNatClampNeg (.long q2)).slots.size = z_w7.toNatClampNeg := by rw [sz_set]; exact S_w7
  have Z14 : n0 ≤ h14.size := Nat.le_trans Z11 (Keep.of_wr W14).1
  have Fw14 := (((F_size_a1.keep K3q nin0).other W9 (Or.inl own_n2)).other W11 (Or.inl own_n3)).same W14      -- the field now holds (.int (w12 + (1 : Int32)))
  have K14 : Keep h0 h14 [w7, w4, a1] := K11.wr W14 (Or.inl (List.mem_of_getElem? (i := 2) rfl))
  have N14 := Fr.snoc X14 N11 g_a1
  obtain ⟨T15, X15, e15, st15⟩ := getF X14 hx hZ hown (host := "") (Or.inl (hw _ (List.mem_of_getElem? (i := 25) rfl))) Via.refl e14 Fw14 (g := (mkF m 55 #[.val (.ref a1), .val (.long q2), .second, .val (.int (Int32.ofNat (own_p q2 d)))] [(.ref a1)])) rfl rfl (hb hby d6_55)
  obtain ⟨T16, X16, e16, st16⟩ := getF X15 hx hZ hown (host := "") (Or.inl (hw _ (List.mem_of_getElem? (i := 14) rfl))) Via.refl e15 ((((F_keys_a1.keep K3q nin0).other W9 (Or.inl own_n2)).other W11 (Or.inl own_n3)).other W14 (Or.inr (slot_ne (Or.inl (hw _ (List.mem_of_getElem? (i := 15) rfl))) (Or.inl (hw _ (List.mem_of_getElem? (i := 26) rfl))) (by decide) (t := (.array .long)) (t' := .int) (by decide) (by decide)))) (g := (mkF m 59 #[.val (.ref a1), .val (.long q2), .second, .val (.int (Int32.ofNat (own_p q2 d)))] [(.ref a1), (.int (w12 + (1 : Int32)))])) rfl rfl (hb hby d6_59)
  -- ✋ yours: ArL must speak of h14 here (Ar.other W.. | .ext E..)
  obtain ⟨fs, hr, hrun, hended, hW, hsame⟩ := X16.leave (v := none) (fun _ => rfl)
  refine ⟨_, _, pre0 _ ?_, hrun, hended, _, _, rfl, ?_, ⟨_, rfl⟩, hW, hsame.mono (by decide) (by decide)⟩
  -- 4. STEPS
  · show Steps p.tables e below (s₁.setTop (mkF m 0 #[.val (.ref a1), .val (.long q2), .second, .unset] [])) _
    refine XS.aloadN X0.here hx rfl (hb hby d6_0) rfl rfl ?_
    show Steps p.tables e below (s₁.setTop (mkF m 1 #[.val (.ref a1), .val (.long q2), .second, .unset] [(.ref a1)])) _
    refine XS.lloadN X0.here hx rfl (hb hby d6_1) rfl ?_
    show Steps p.tables e below (s₁.setTop (mkF m 2 #[.val (.ref a1), .val (.long q2), .second, .unset] [(.long q2), (.ref a1)])) _
    refine st3.trans ?_
    show Steps p.tables e below (T3.setTop (mkF m 5 #[.val (.ref a1), .val (.long q2), .second, .unset] [(.int (Int32.ofNat (own_p q2 d)))])) _
    refine XS.istoreN X3.here hx rfl (hb hby d6_5) rfl (l' := #[.val (.ref a1), .val (.long q2), .second, .val (.int (Int32.ofNat (own_p q2 d)))]) rfl ?_
    show Steps p.tables e below (T3.setTop (mkF m 6 #[.val (.ref a1), .val (.long q2), .second, .val (.int (Int32.ofNat (own_p q2 d)))] [])) _
    refine XS.aloadN X3.here hx rfl (hb hby d6_6) rfl rfl ?_
    show Steps p.tables e below (T3.setTop (mkF m 7 #[.val (.ref a1), .val (.long q2), .second, .val (.int (Int32.ofNat (own_p q2 d)))] [(.ref a1)])) _
    refine st5 _ ?_
    show Steps p.tables e below (T5.setTop (mkF m 10 #[.val (.ref a1), .val (.long q2), .second, .val (.int (Int32.ofNat (own_p q2 d)))] [(.ref w4)])) _
    refine XS.iloadN X5.here hx rfl (hb hby d6_10) rfl ?_
    show Steps p.tables e below (T5.setTop (mkF m 11 #[.val (.ref a1), .val (.long q2), .second, .val (.int (Int32.ofNat (own_p q2 d)))] [(.int (Int32.ofNat (own_p q2 d))), (.ref w4)])) _
    refine X5.laload hx (j := (Int32.ofNat (own_p q2 d))) (v := (.long w6)) (by rw [e5]; exact ArB.1) (State.isArrayOf_alike hZ.alike ArB.2.1) ArB.2.2 hin11 hat11 (g := (mkF m 11 #[.val (.ref a1), .val (.long q2), .second, .val (.int (Int32.ofNat (own_p q2 d)))] [(.int (Int32.ofNat (own_p q2 d))), (.ref w4)])) rfl rfl (hb hby d6_11) _ ?_
    show Steps p.tables e below (T5.setTop (mkF m 12 #[.val (.ref a1), .val (.long q2), .second, .val (.int (Int32.ofNat (own_p q2 d)))] [(.long w6)])) _
    refine XS.lconst X5.here hx rfl (hb hby d6_12) ?_
    show Steps p.tables e below (T5.setTop (mkF m 13 #[.val (.ref a1), .val (.long q2), .second, .val (.int (Int32.ofNat (own_p q2 d)))] [(.long (0 : Int64)), (.long w6)])) _
    refine XS.lcmp X5.here hx rfl (hb hby d6_13) rfl ?_
    show Steps p.tables e below (T5.setTop (mkF m 14 #[.val (.ref a1), .val (.long q2), .second, .val (.int (Int32.ofNat (own_p q2 d)))] [(.int (lcmpW w6 (0 : Int64)))])) _
    refine XS.ifYes X5.here hx rfl (pc0 := 14) (pc' := 30) rfl (hb hby d6_14) rfl ((if0 _ _).trans (teq hc14).1) (by decide) (by decide) ?_
    show Steps p.tables e below (T5.setTop (mkF m 30 #[.val (.ref a1), .val (.long q2), .second, .val (.int (Int32.ofNat (own_p q2 d)))] [])) _
    refine XS.aloadN X5.here hx rfl (hb hby d6_30) rfl rfl ?_
    show Steps p.tables e below (T5.setTop (mkF m 31 #[.val (.ref a1), .val (.long q2), .second, .val (.int (Int32.ofNat (own_p q2 d)))] [(.ref a1)])) _
    refine st8 _ ?_
    show Steps p.tables e below (T8.setTop (mkF m 34 #[.val (.ref a1), .val (.long q2), .second, .val (.int (Int32.ofNat (own_p q2 d)))] [(.ref w7)])) _
    refine XS.iloadN X8.here hx rfl (hb hby d6_34) rfl ?_
    show Steps p.tables e below (T8.setTop (mkF m 35 #[.val (.ref a1), .val (.long q2), .second, .val (.int (Int32.ofNat (own_p q2 d)))] [(.int (Int32.ofNat (own_p q2 d))), (.ref w7)])) _
    refine XS.lloadN X8.here hx rfl (hb hby d6_35) rfl ?_
    show Steps p.tables e below (T8.setTop (mkF m 36 #[.val (.ref a1), .val (.long q2), .second, .val (.int (Int32.ofNat (own_p q2 d)))] [(.long q2), (.int (Int32.ofNat (own_p q2 d))), (.ref w7)])) _
    refine st9 _ ?_
    show Steps p.tables e below (T9.setTop (mkF m 37 #[.val (.ref a1), .val (.long q2), .second, .val (.int (Int32.ofNat (own_p q2 d)))] [])) _
    refine XS.aloadN X9.here hx rfl (hb hby d6_37) rfl rfl ?_
    show Steps p.tables e below (T9.setTop (mkF m 38 #[.val (.ref a1), .val (.long q2), .second, .val (.int (Int32.ofNat (own_p q2 d)))] [(.ref a1)])) _
    refine st10 _ ?_
    show Steps p.tables e below (T10.setTop (mkF m 41 #[.val (.ref a1), .val (.long q2), .second, .val (.int (Int32.ofNat (own_p q2 d)))] [(.ref w4)])) _
    refine XS.iloadN X10.here hx rfl (hb hby d6_41) rfl ?_
    show Steps p.tables e below (T10.setTop (mkF m 42 #[.val (.ref a1), .val (.long q2), .second, .val (.int (Int32.ofNat (own_p q2 d)))] [(.int (Int32.ofNat (own_p q2 d))), (.ref w4)])) _
    refine XS.lconst X10.here hx rfl (hb hby d6_42) ?_
    show Steps p.tables e below (T10.setTop (mkF m 43 #[.val (.ref a1), .val (.long q2), .second, .val (.int (Int32.ofNat (own_p q2 d)))] [(.long (1 : Int64)), (.int (Int32.ofNat (own_p q2 d))), (.ref w4)])) _
    refine st11 _ ?_
    show Steps p.tables e below (T11.setTop (mkF m 44 #[.val (.ref a1), .val (.long q2), .second, .val (.int (Int32.ofNat (own_p q2 d)))] [])) _
    refine XS.aloadN X11.here hx rfl (hb hby d6_44) rfl rfl ?_
    show Steps p.tables e below (T11.setTop (mkF m 45 #[.val (.ref a1), .val (.long q2), .second, .val (.int (Int32.ofNat (own_p q2 d)))] [(.ref a1)])) _
    refine XS.dup X11.here hx rfl (hb hby d6_45) rfl rfl ?_
    show Steps p.tables e below (T11.setTop (mkF m 46 #[.val (.ref a1), .val (.long q2), .second, .val (.int (Int32.ofNat (own_p q2 d)))] [(.ref a1), (.ref a1)])) _
    refine st13 _ ?_
    show Steps p.tables e below (T13.setTop (mkF m 49 #[.val (.ref a1), .val (.long q2), .second, .val (.int (Int32.ofNat (own_p q2 d)))] [(.int w12), (.ref a1)])) _
    refine XS.iconst X13.here hx rfl (hb hby d6_49) ?_
    show Steps p.tables e below (T13.setTop (mkF m 50 #[.val (.ref a1), .val (.long q2), .second, .val (.int (Int32.ofNat (own_p q2 d)))] [(.int (1 : Int32)), (.int w12), (.ref a1)])) _
    refine XS.iadd X13.here hx rfl (hb hby d6_50) rfl ?_
    show Steps p.tables e below (T13.setTop (mkF m 51 #[.val (.ref a1), .val (.long q2), .second, .val (.int (Int32.ofNat (own_p q2 d)))] [(.int (w12 + (1 : Int32))), (.ref a1)])) _
    refine st14 _ ?_
    show Steps p.tables e below (T14.setTop (mkF m 54 #[.val (.ref a1), .val (.long q2), .second, .val (.int (Int32.ofNat (own_p q2 d)))] [])) _
    refine XS.aloadN X14.here hx rfl (hb hby d6_54) rfl rfl ?_
    show Steps p.tables e below (T14.setTop (mkF m 55 #[.val (.ref a1), .val (.long q2), .second, .val (.int (Int32.ofNat (own_p q2 d)))] [(.ref a1)])) _
    refine st15 _ ?_
    show Steps p.tables e below (T15.setTop (mkF m 58 #[.val (.ref a1), .val (.long q2), .second, .val (.int (Int32.ofNat (own_p q2 d)))] [(.int (w12 + (1 : Int32)))])) _
    refine XS.aloadN X15.here hx rfl (hb hby d6_58) rfl rfl ?_
    show Steps p.tables e below (T15.setTop (mkF m 59 #[.val (.ref a1), .val (.long q2), .second, .val (.int (Int32.ofNat (own_p q2 d)))] [(.ref a1), (.int (w12 + (1 : Int32)))])) _
    refine st16 _ ?_
    show Steps p.tables e below (T16.setTop (mkF m 62 #[.val (.ref a1), .val (.long q2), .second, .val (.int (Int32.ofNat (own_p q2 d)))] [(.ref w7), (.int (w12 + (1 : Int32)))])) _
    refine X16.arraylength hx (by rw [e16]; exact ArL.1) (State.isArrayOf_alike hZ.alike ArL.2.1) (g := (mkF m 62 #[.val (.ref a1), .val (.long q2), .second, .val (.int (Int32.ofNat (own_p q2 d)))] [(.ref w7), (.int (w12 + (1 : Int32)))])) rfl rfl (hb hby d6_62) _ ?_
    rw [len_of own_S N_w7]
    show Steps p.tables e below (T16.setTop (mkF m 63 #[.val (.ref a1), .val (.long q2), .second, .val (.int (Int32.ofNat (own_p q2 d)))] [(.int z_w7), (.int (w12 + (1 : Int32)))])) _
    refine XS.iconst X16.here hx rfl (hb hby d6_63) ?_
    show Steps p.tables e below (T16.setTop (mkF m 64 #[.val (.ref a1), .val (.long q2), .second, .val (.int (Int32.ofNat (own_p q2 d)))] [(.int (2 : Int32)), (.int z_w7), (.int (w12 + (1 : Int32)))])) _
    refine XS.idiv X16.here hx rfl (hb hby d6_64) rfl (by decide) ?_
    show Steps p.tables e below (T16.setTop (mkF m 65 #[.val (.ref a1), .val (.long q2), .second, .val (.int (Int32.ofNat (own_p q2 d)))] [(.int (z_w7 / (2 : Int32))), (.int (w12 + (1 : Int32)))])) _
    refine XS.icmpYes X16.here hx rfl (pc0 := 65) (pc' := 72) rfl (hb hby d6_65) rfl (flt hc65).2.2.2 (by decide) (by decide) ?_
    show Steps p.tables e below (T16.setTop (mkF m 72 #[.val (.ref a1), .val (.long q2), .second, .val (.int (Int32.ofNat (own_p q2 d)))] [])) _
    exact X16.returnOut hx Bd.returns (hb hby d6_72) hr
  · show Q6n Z a1 q2 w4 w6 cl_w4 w7 cl_w7 w12 z_w7 ks cs sz d h0 n0 _ T16.heap _
    rw [e16]
    exact ⟨rfl, N14, K14, ⟨((((E_a1.keep K3q).wr W9).wr W11).wr W14), ((((own_fk.keep K3q nin0).other W9 (Or.inl own_n2)).other W11 (Or.inl own_n3)).other W14 (Or.inr (slot_ne (Or.inl (hw _ (List.mem_of_getElem? (i := 15) rfl))) (Or.inl (hw _ (List.mem_of_getElem? (i := 26) rfl))) (by decide) (t := (.array .long)) (t' := .int) (by decide) (by decide)))), ((((own_fc.keep K3q nin0).other W9 (Or.inl own_n2)).other W11 (Or.inl own_n3)).other W14 (Or.inr (slot_ne (Or.inl (hw _ (List.mem_of_getElem? (i := 17) rfl))) (Or.inl (hw _ (List.mem_of_getElem? (i := 26) rfl))) (by decide) (t := (.array .long)) (t' := .int) (by decide) (by decide)))), ((((own_fs.keep K3q nin0).other W9 (Or.inl own_n2)).other W11 (Or.inl own_n3)).other W14 (Or.inr (slot_ne (Or.inl (hw _ (List.mem_of_getElem? (i := 24) rfl))) (Or.inl (hw _ (List.mem_of_getElem? (i := 26) rfl))) (by decide) (t := .int) (t' := .int) (by decide) (by decide)))), (by rw [← own_one, ← hsz]; exact Fw14), ⟨_, ((((own_fr.keep K3q nin0).other W9 (Or.inl own_n2)).other W11 (Or.inl own_n3)).other W14 (Or.inr (slot_ne (Or.inl (hw _ (List.mem_of_getElem? (i := 33) rfl))) (Or.inl (hw _ (List.mem_of_getElem? (i := 26) rfl))) (by decide) (t := (.object "java/util/Optional")) (t' := .int) (by decide) (by decide))))⟩, (own_La_other (own_La_other (own_La_same (own_La_keep own_lk K3q nin0) own_W) W11 own_n1) W14 (Ne.symm own_n2)), (own_La_other (own_La_same (own_La_other (own_La_keep own_lc K3q nin0) W9 (Ne.symm own_n1)) own_V) W14 (Ne.symm own_n3)), own_n1, own_n2, own_n3⟩⟩
def Q6 (Z : State) (a1 t u : Addr) (xs : List Int64) (h0 : Heap) (n0 : Nat) (v : Option Value) (h : Heap) (L : List Loc) : Prop := v = none ∧ Fr n0 L ∧ Keep h0 h [t, u, a1] ∧ ∃ (ks cs : Nat → Int64) (sz : Nat), own_AC Z h a1 t u ks cs sz ∧ own_Inv ks cs sz xs
theorem rm6 (l : Launch) (Z : State) (a0 : Array Value) (hw : ∀ d ∈ tables_1, d.before a0 Z = true) (ws : List Jvm.Cond) (a1 : Addr) (q2 : Int64) (t u : Addr) (ks cs : Nat → Int64) (sz : Nat) (xs : List Int64) (h0 : Heap) (n0 : Nat) (Z0 : n0 ≤ h0.size) (A : own_AC Z h0 a1 t u ks cs sz) (I : own_Inv ks cs sz xs) (hl : xs.length ≤ 2) (g1 : n0 ≤ a1) (g2 : n0 ≤ t) (g3 : n0 ≤ u) :
    MetFree l (⟨"com/example/tideshift/tideshift/partition/AccessCounts", "add", "(J)V"⟩ : MethodName) (head1 (Jvm.Cond.code (⟨"com/example/tideshift/tideshift/partition/AccessCounts", "add", "(J)V"⟩ : MethodName) prog_58_method_3_code 4 none :: ws) ({ frames := 1, cells := 0, slots := 0, locals := 16 } : Room)) (fun a U => a = #[(.ref a1), (.long q2)] ∧ Z.Warmed39 U.vm ∧ U.heap = h0) (fun _ _ _ _ _ => True) (fun _ U o U' => ∃ v L, o = .returned v ∧ Q6 Z a1 t u (xs ++ [q2]) h0 n0 v U'.heap L ∧ FrameEnd U o U' L ({ frames := 1, cells := 0, slots := 0, locals := 16 } : Room).cells ({ frames := 1, cells := 0, slots := 0, locals := 16 } : Room).slots) := by
  obtain ⟨d, d1, hp, he⟩ := own_place I (by omega) q2
  have A' := A
  obtain ⟨E, Fk, Fc, Fs, Fz, -, ⟨c1, A1, S1, H1⟩, ⟨c2, A2, S2, H2⟩, -, -, -⟩ := A'
  obtain ⟨i1, i2⟩ := own_i16 (own_p_lt q2 d)
  have b := own_p_lt q2 d
  have hin2 : ¬ (Int32.ofNat (own_p q2 d) < 0 ∨ c2.slots.size ≤ (Int32.ofNat (own_p q2 d)).toNatClampNeg) := by
    rw [S2, i2]; exact fun z => z.elim i1 (fun z => by omega)
  have hin1 : ¬ (Int32.ofNat (own_p q2 d) < 0 ∨ c1.slots.size ≤ (Int32.ofNat (own_p q2 d)).toNatClampNeg) := by
    rw [S1, i2]; exact fun z => z.elim i1 (fun z => by omega)
  have hat2 : c2.slots[(Int32.ofNat (own_p q2 d)).toNatClampNeg]? = some (.long (cs (own_p q2 d))) := by rw [i2]; exact H2 _ b
  by_cases hc : cs (own_p q2 d) = 0
  · have hsz : sz ≤ 2 := Nat.le_trans I.2.2.2.2.1 hl
    have h65 : ¬ (((16 : Int32) / (2 : Int32)) < (Int32.ofNat sz + (1 : Int32))) := by
      rw [own_one, Int32.lt_iff_toInt_lt, Int32.toInt_ofNat_of_lt (by omega), show ((16 : Int32) / (2 : Int32)).toInt = 8 by decide]
      omega
    refine (rm6n l Z a0 hw ws a1 q2 u (cs (own_p q2 d)) c2 t c1 (Int32.ofNat sz) 16 h0 n0 Z0 E Fc A2 Fk A1 g2 g3 Fz g1 (by rw [S1]; rfl) (by decide) ((lw_eq _ _).mpr hc) h65 ks cs sz d rfl A hp he hin2 hat2 hin1).mono (fun _ _ h => h) (fun _ _ _ _ _ h => h) (fun _ _ _ _ _ h => ?_)
    obtain ⟨v, L, r1, ⟨r2, r3, r4, r5⟩, r6⟩ := h
    exact ⟨v, L, r1, ⟨r2, r3, r4, _, _, _, r5, own_Inv_new I d1 hp hc⟩, r6⟩
  · have hk : ks (own_p q2 d) = q2 := he.resolve_left hc
    refine (rm6h l Z a0 hw ws a1 q2 u (cs (own_p q2 d)) c2 h0 n0 Z0 E Fc A2 g3 (fun z => hc ((lw_eq _ _).mp z)) t ks cs sz d A hp he hin2 hat2).mono (fun _ _ h => h) (fun _ _ _ _ _ h => h) (fun _ _ _ _ _ h => ?_)
    obtain ⟨v, L, r1, ⟨r2, r3, r4, r5⟩, r6⟩ := h
    have J := own_Inv_hit I hl b hc
    rw [hk] at J
    exact ⟨v, L, r1, ⟨r2, r3, r4, _, _, _, r5, J⟩, r6⟩
theorem d8_11 : decode prog_58_method_6_code 11 = .ok (.iload_n 3, 1) := by decide +kernel
theorem d8_12 : decode prog_58_method_6_code 12 = .ok (.aload_n 0, 1) := by decide +kernel
theorem d8_13 : decode prog_58_method_6_code 13 = .ok (.getfield 25, 3) := by decide +kernel
theorem d8_16 : decode prog_58_method_6_code 16 = .ok (.arraylength, 1) := by decide +kernel
theorem d8_17 : decode prog_58_method_6_code 17 = .ok (.if_icmp .ge 32, 3) := by decide +kernel
theorem d8_20 : decode prog_58_method_6_code 20 = .ok (.aload_n 0, 1) := by decide +kernel
theorem d8_21 : decode prog_58_method_6_code 21 = .ok (.getfield 25, 3) := by decide +kernel
theorem d8_24 : decode prog_58_method_6_code 24 = .ok (.iload_n 3, 1) := by decide +kernel
theorem d8_25 : decode prog_58_method_6_code 25 = .ok (.laload, 1) := by decide +kernel
theorem d8_26 : decode prog_58_method_6_code 26 = .ok (.lconst 0, 1) := by decide +kernel
theorem d8_27 : decode prog_58_method_6_code 27 = .ok (.lcmp, 1) := by decide +kernel
theorem d8_28 : decode prog_58_method_6_code 28 = .ok (.ifCond .eq 15, 3) := by decide +kernel
theorem d8_31 : decode prog_58_method_6_code 31 = .ok (.aload_n 1, 1) := by decide +kernel
theorem d8_32 : decode prog_58_method_6_code 32 = .ok (.iload_n 2, 1) := by decide +kernel
theorem d8_33 : decode prog_58_method_6_code 33 = .ok (.iinc 2 1, 3) := by decide +kernel
theorem d8_36 : decode prog_58_method_6_code 36 = .ok (.aload_n 0, 1) := by decide +kernel
theorem d8_37 : decode prog_58_method_6_code 37 = .ok (.getfield 21, 3) := by decide +kernel
theorem d8_40 : decode prog_58_method_6_code 40 = .ok (.iload_n 3, 1) := by decide +kernel
theorem d8_41 : decode prog_58_method_6_code 41 = .ok (.laload, 1) := by decide +kernel
theorem d8_42 : decode prog_58_method_6_code 42 = .ok (.lastore, 1) := by decide +kernel
theorem d8_43 : decode prog_58_method_6_code 43 = .ok (.iinc 3 1, 3) := by decide +kernel
theorem d8_46 : decode prog_58_method_6_code 46 = .ok (.goto (-35), 3) := by decide +kernel
set_option maxRecDepth 65536 in
set_option maxHeartbeats 40000000 in
theorem tn8s {p : Program} {l : Launch} {e : Env} {R : Room} {s : State} {m : MethodId} {args : Array Value} {below : List Frame} {meth : Method} {c : Code} {T0 : State} {locs : List Loc} {cells slots : Nat} {Z : State} {a0 : Array Value} {h0 : Heap} (o0 : Addr) (o1 : Addr) (i2 : Int32) (i3 : Int32) (w2 : Addr) (cl_w2 : Cell) (z_w2 : Int32) (w5 : Int64) (w6 : Addr) (w8 : Int64) (cl_w6 : Cell) (cl_o1 : Cell)
    (X0 : Stand p l e R s m args below meth c T0 locs cells slots) (hx : p.tables.exec = Jvm.exec) (hZ : Z.Warmed39 s.vm) (hw : ∀ d ∈ tables_1, d.before a0 Z = true) (hby : c.code = prog_58_method_6_code) (hml : c.maxLocals = 4) (hown : s.vm.findClass "com/example/tideshift/tideshift/partition/AccessCounts" = some m.cls) (e0 : T0.heap = h0) (F_counts_o0 : Fld Z h0 o0 "com/example/tideshift/tideshift/partition/AccessCounts" "counts" "[J" (.ref w2)) (Ar_w2 : Arr Z h0 w2 cl_w2 .long) (S_w2 : cl_w2.slots.size = z_w2.toNatClampNeg) (N_w2 : ¬ z_w2 < 0) (hin25 : ¬ (i3 < 0 ∨ cl_w2.slots.size ≤ (i3).toNatClampNeg)) (hat25 : cl_w2.slots[(i3).toNatClampNeg]? = some (.long w5)) (F_keys_o0 : Fld Z h0 o0 "com/example/tideshift/tideshift/partition/AccessCounts" "keys" "[J" (.ref w6)) (Ar_w6 : Arr Z h0 w6 cl_w6 .long) (hin41 : ¬ (i3 < 0 ∨ cl_w6.slots.size ≤ (i3).toNatClampNeg)) (hat41 : cl_w6.slots[(i3).toNatClampNeg]? = some (.long w8)) (Ar_o1 : Arr Z h0 o1 cl_o1 .long) (hin42 : ¬ (i2 < 0 ∨ cl_o1.slots.size ≤ (i2).toNatClampNeg)) (hc17 : i3 < z_w2) (hc28 : ¬ ((lcmpW w5 (0 : Int64)) = (0 : Int32))) :
    ∃ (T' : State) (h' : Heap), Stand p l e R s m args below meth c T' (locs ++ [⟨o1, (i2).toNatClampNeg⟩]) cells slots ∧ T'.heap = h' ∧ Wr h0 h' o1 (i2).toNatClampNeg (.long w8) ∧
      ∀ target, Steps p.tables e below (T'.setTop (mkF m 11 #[.val (.ref o0), .val (.ref o1), .val (.int (i2 + (1 : Int32))), .val (.int (i3 + (1 : Int32)))] [])) target → Steps p.tables e below (T0.setTop (mkF m 11 #[.val (.ref o0), .val (.ref o1), .val (.int i2), .val (.int i3)] [])) target := by
  -- 3. LAWS
  obtain ⟨T3, X3, e3, st3⟩ := getF X0 hx hZ hown (host := "") (Or.inl (hw _ (List.mem_of_getElem? (i := 16) rfl))) Via.refl e0 F_counts_o0 (g := (mkF m 13 #[.val (.ref o0), .val (.ref o1), .val (.int i2), .val (.int i3)] [(.ref o0), (.int i3)])) rfl rfl (hb hby d8_13)
  obtain ⟨T4, X4, e4, st4⟩ := getF X3 hx hZ hown (host := "") (Or.inl (hw _ (List.mem_of_getElem? (i := 16) rfl))) Via.refl e3 F_counts_o0 (g := (mkF m 21 #[.val (.ref o0), .val (.ref o1), .val (.int i2), .val (.int i3)] [(.ref o0)])) rfl rfl (hb hby d8_21)
  obtain ⟨T7, X7, e7, st7⟩ := getF X4 hx hZ hown (host := "") (Or.inl (hw _ (List.mem_of_getElem? (i := 14) rfl))) Via.refl e4 F_keys_o0 (g := (mkF m 37 #[.val (.ref o0), .val (.ref o1), .val (.int (i2 + (1 : Int32))), .val (.int i3)] [(.ref o0), (.int i2), (.ref o1)])) rfl rfl (hb hby d8_37)
  obtain ⟨T9, h9, X9, e9, W9, st9⟩ := stJ X7 hx hZ e7 Ar_o1 (j := i2) hin42 (g := (mkF m 42 #[.val (.ref o0), .val (.ref o1), .val (.int (i2 + (1 : Int32))), .val (.int i3)] [(.long w8), (.int i2), (.ref o1)])) rfl rfl (hb hby d8_42)
  -- Ar_o1.same W9 : the array with (.long w8) at the place i2
  refine ⟨T9, _, X9, e9, W9, fun target kt => ?_⟩
  -- 4. STEPS
  show Steps p.tables e below (T0.setTop (mkF m 11 #[.val (.ref o0), .val (.ref o1), .val (.int i2), .val (.int i3)] [])) _
  refine XS.iloadN X0.here hx rfl (hb hby d8_11) rfl ?_
  show Steps p.tables e below (T0.setTop (mkF m 12 #[.val (.ref o0), .val (.ref o1), .val (.int i2), .val (.int i3)] [(.int i3)])) _
  refine XS.aloadN X0.here hx rfl (hb hby d8_12) rfl rfl ?_
  show Steps p.tables e below (T0.setTop (mkF m 13 #[.val (.ref o0), .val (.ref o1), .val (.int i2), .val (.int i3)] [(.ref o0), (.int i3)])) _
  refine st3 _ ?_
  show Steps p.tables e below (T3.setTop (mkF m 16 #[.val (.ref o0), .val (.ref o1), .val (.int i2), .val (.int i3)] [(.ref w2), (.int i3)])) _
  refine X3.arraylength hx (by rw [e3]; exact Ar_w2.1) (State.isArrayOf_alike hZ.alike Ar_w2.2.1) (g := (mkF m 16 #[.val (.ref o0), .val (.ref o1), .val (.int i2), .val (.int i3)] [(.ref w2), (.int i3)])) rfl rfl (hb hby d8_16) _ ?_
  rw [len_of S_w2 N_w2]
  show Steps p.tables e below (T3.setTop (mkF m 17 #[.val (.ref o0), .val (.ref o1), .val (.int i2), .val (.int i3)] [(.int z_w2), (.int i3)])) _
  refine XS.icmpNo X3.here hx rfl (hb hby d8_17) rfl (tlt hc17).2.1 ?_
  show Steps p.tables e below (T3.setTop (mkF m 20 #[.val (.ref o0), .val (.ref o1), .val (.int i2), .val (.int i3)] [])) _
  refine XS.aloadN X3.here hx rfl (hb hby d8_20) rfl rfl ?_
  show Steps p.tables e below (T3.setTop (mkF m 21 #[.val (.ref o0), .val (.ref o1), .val (.int i2), .val (.int i3)] [(.ref o0)])) _
  refine st4 _ ?_
  show Steps p.tables e below (T4.setTop (mkF m 24 #[.val (.ref o0), .val (.ref o1), .val (.int i2), .val (.int i3)] [(.ref w2)])) _
  refine XS.iloadN X4.here hx rfl (hb hby d8_24) rfl ?_
  show Steps p.tables e below (T4.setTop (mkF m 25 #[.val (.ref o0), .val (.ref o1), .val (.int i2), .val (.int i3)] [(.int i3), (.ref w2)])) _
  refine X4.laload hx (j := i3) (v := (.long w5)) (by rw [e4]; exact Ar_w2.1) (State.isArrayOf_alike hZ.alike Ar_w2.2.1) Ar_w2.2.2 hin25 hat25 (g := (mkF m 25 #[.val (.ref o0), .val (.ref o1), .val (.int i2), .val (.int i3)] [(.int i3), (.ref w2)])) rfl rfl (hb hby d8_25) _ ?_
  show Steps p.tables e below (T4.setTop (mkF m 26 #[.val (.ref o0), .val (.ref o1), .val (.int i2), .val (.int i3)] [(.long w5)])) _
  refine XS.lconst X4.here hx rfl (hb hby d8_26) ?_
  show Steps p.tables e below (T4.setTop (mkF m 27 #[.val (.ref o0), .val (.ref o1), .val (.int i2), .val (.int i3)] [(.long (0 : Int64)), (.long w5)])) _
  refine XS.lcmp X4.here hx rfl (hb hby d8_27) rfl ?_
  show Steps p.tables e below (T4.setTop (mkF m 28 #[.val (.ref o0), .val (.ref o1), .val (.int i2), .val (.int i3)] [(.int (lcmpW w5 (0 : Int64)))])) _
  refine XS.ifNo X4.here hx rfl (hb hby d8_28) rfl ((if0 _ _).trans (feq hc28).1) ?_
  show Steps p.tables e below (T4.setTop (mkF m 31 #[.val (.ref o0), .val (.ref o1), .val (.int i2), .val (.int i3)] [])) _
  refine XS.aloadN X4.here hx rfl (hb hby d8_31) rfl rfl ?_
  show Steps p.tables e below (T4.setTop (mkF m 32 #[.val (.ref o0), .val (.ref o1), .val (.int i2), .val (.int i3)] [(.ref o1)])) _
  refine XS.iloadN X4.here hx rfl (hb hby d8_32) rfl ?_
  show Steps p.tables e below (T4.setTop (mkF m 33 #[.val (.ref o0), .val (.ref o1), .val (.int i2), .val (.int i3)] [(.int i2), (.ref o1)])) _
  refine XS.iinc X4.here hx rfl (hb hby d8_33) rfl (l' := #[.val (.ref o0), .val (.ref o1), .val (.int (i2 + (1 : Int32))), .val (.int i3)]) rfl ?_
  show Steps p.tables e below (T4.setTop (mkF m 36 #[.val (.ref o0), .val (.ref o1), .val (.int (i2 + (1 : Int32))), .val (.int i3)] [(.int i2), (.ref o1)])) _
  refine XS.aloadN X4.here hx rfl (hb hby d8_36) rfl rfl ?_
  show Steps p.tables e below (T4.setTop (mkF m 37 #[.val (.ref o0), .val (.ref o1), .val (.int (i2 + (1 : Int32))), .val (.int i3)] [(.ref o0), (.int i2), (.ref o1)])) _
  refine st7 _ ?_
  show Steps p.tables e below (T7.setTop (mkF m 40 #[.val (.ref o0), .val (.ref o1), .val (.int (i2 + (1 : Int32))), .val (.int i3)] [(.ref w6), (.int i2), (.ref o1)])) _
  refine XS.iloadN X7.here hx rfl (hb hby d8_40) rfl ?_
  show Steps p.tables e below (T7.setTop (mkF m 41 #[.val (.ref o0), .val (.ref o1), .val (.int (i2 + (1 : Int32))), .val (.int i3)] [(.int i3), (.ref w6), (.int i2), (.ref o1)])) _
  refine X7.laload hx (j := i3) (v := (.long w8)) (by rw [e7]; exact Ar_w6.1) (State.isArrayOf_alike hZ.alike Ar_w6.2.1) Ar_w6.2.2 hin41 hat41 (g := (mkF m 41 #[.val (.ref o0), .val (.ref o1), .val (.int (i2 + (1 : Int32))), .val (.int i3)] [(.int i3), (.ref w6), (.int i2), (.ref o1)])) rfl rfl (hb hby d8_41) _ ?_
  show Steps p.tables e below (T7.setTop (mkF m 42 #[.val (.ref o0), .val (.ref o1), .val (.int (i2 + (1 : Int32))), .val (.int i3)] [(.long w8), (.int i2), (.ref o1)])) _
  refine st9 _ ?_
  show Steps p.tables e below (T9.setTop (mkF m 43 #[.val (.ref o0), .val (.ref o1), .val (.int (i2 + (1 : Int32))), .val (.int i3)] [])) _
  refine XS.iinc X9.here hx rfl (hb hby d8_43) rfl (l' := #[.val (.ref o0), .val (.ref o1), .val (.int (i2 + (1 : Int32))), .val (.int (i3 + (1 : Int32)))]) rfl ?_
  show Steps p.tables e below (T9.setTop (mkF m 46 #[.val (.ref o0), .val (.ref o1), .val (.int (i2 + (1 : Int32))), .val (.int (i3 + (1 : Int32)))] [])) _
  refine XS.goto X9.here hx rfl (pc0 := 46) (pc' := 11) rfl (hb hby d8_46) (by decide) (by decide) ?_
  exact kt
set_option maxRecDepth 65536 in
set_option maxHeartbeats 40000000 in
theorem tn8n {p : Program} {l : Launch} {e : Env} {R : Room} {s : State} {m : MethodId} {args : Array Value} {below : List Frame} {meth : Method} {c : Code} {T0 : State} {locs : List Loc} {cells slots : Nat} {Z : State} {a0 : Array Value} {h0 : Heap} (o0 : Addr) (s1 : Slot) (s2 : Slot) (i3 : Int32) (w2 : Addr) (cl_w2 : Cell) (z_w2 : Int32) (w5 : Int64)
    (X0 : Stand p l e R s m args below meth c T0 locs cells slots) (hx : p.tables.exec = Jvm.exec) (hZ : Z.Warmed39 s.vm) (hw : ∀ d ∈ tables_1, d.before a0 Z = true) (hby : c.code = prog_58_method_6_code) (hml : c.maxLocals = 4) (hown : s.vm.findClass "com/example/tideshift/tideshift/partition/AccessCounts" = some m.cls) (e0 : T0.heap = h0) (F_counts_o0 : Fld Z h0 o0 "com/example/tideshift/tideshift/partition/AccessCounts" "counts" "[J" (.ref w2)) (Ar_w2 : Arr Z h0 w2 cl_w2 .long) (S_w2 : cl_w2.slots.size = z_w2.toNatClampNeg) (N_w2 : ¬ z_w2 < 0) (hin25 : ¬ (i3 < 0 ∨ cl_w2.slots.size ≤ (i3).toNatClampNeg)) (hat25 : cl_w2.slots[(i3).toNatClampNeg]? = some (.long w5)) (hc17 : i3 < z_w2) (hc28 : (lcmpW w5 (0 : Int64)) = (0 : Int32)) :
    ∃ (T' : State), Stand p l e R s m args below meth c T' locs cells slots ∧ T'.heap = h0 ∧
      ∀ target, Steps p.tables e below (T'.setTop (mkF m 11 #[.val (.ref o0), s1, s2, .val (.int (i3 + (1 : Int32)))] [])) target → Steps p.tables e below (T0.setTop (mkF m 11 #[.val (.ref o0), s1, s2, .val (.int i3)] [])) target := by
  -- 3. LAWS
  obtain ⟨T3, X3, e3, st3⟩ := getF X0 hx hZ hown (host := "") (Or.inl (hw _ (List.mem_of_getElem? (i := 16) rfl))) Via.refl e0 F_counts_o0 (g := (mkF m 13 #[.val (.ref o0), s1, s2, .val (.int i3)] [(.ref o0), (.int i3)])) rfl rfl (hb hby d8_13)
  obtain ⟨T4, X4, e4, st4⟩ := getF X3 hx hZ hown (host := "") (Or.inl (hw _ (List.mem_of_getElem? (i := 16) rfl))) Via.refl e3 F_counts_o0 (g := (mkF m 21 #[.val (.ref o0), s1, s2, .val (.int i3)] [(.ref o0)])) rfl rfl (hb hby d8_21)
  refine ⟨T4, X4, e4, fun target kt => ?_⟩
  -- 4. STEPS
  show Steps p.tables e below (T0.setTop (mkF m 11 #[.val (.ref o0), s1, s2, .val (.int i3)] [])) _
  refine XS.iloadN X0.here hx rfl (hb hby d8_11) rfl ?_
  show Steps p.tables e below (T0.setTop (mkF m 12 #[.val (.ref o0), s1, s2, .val (.int i3)] [(.int i3)])) _
  refine XS.aloadN X0.here hx rfl (hb hby d8_12) rfl rfl ?_
  show Steps p.tables e below (T0.setTop (mkF m 13 #[.val (.ref o0), s1, s2, .val (.int i3)] [(.ref o0), (.int i3)])) _
  refine st3 _ ?_
  show Steps p.tables e below (T3.setTop (mkF m 16 #[.val (.ref o0), s1, s2, .val (.int i3)] [(.ref w2), (.int i3)])) _
  refine X3.arraylength hx (by rw [e3]; exact Ar_w2.1) (State.isArrayOf_alike hZ.alike Ar_w2.2.1) (g := (mkF m 16 #[.val (.ref o0), s1, s2, .val (.int i3)] [(.ref w2), (.int i3)])) rfl rfl (hb hby d8_16) _ ?_
  rw [len_of S_w2 N_w2]
  show Steps p.tables e below (T3.setTop (mkF m 17 #[.val (.ref o0), s1, s2, .val (.int i3)] [(.int z_w2), (.int i3)])) _
  refine XS.icmpNo X3.here hx rfl (hb hby d8_17) rfl (tlt hc17).2.1 ?_
  show Steps p.tables e below (T3.setTop (mkF m 20 #[.val (.ref o0), s1, s2, .val (.int i3)] [])) _
  refine XS.aloadN X3.here hx rfl (hb hby d8_20) rfl rfl ?_
  show Steps p.tables e below (T3.setTop (mkF m 21 #[.val (.ref o0), s1, s2, .val (.int i3)] [(.ref o0)])) _
  refine st4 _ ?_
  show Steps p.tables e below (T4.setTop (mkF m 24 #[.val (.ref o0), s1, s2, .val (.int i3)] [(.ref w2)])) _
  refine XS.iloadN X4.here hx rfl (hb hby d8_24) rfl ?_
  show Steps p.tables e below (T4.setTop (mkF m 25 #[.val (.ref o0), s1, s2, .val (.int i3)] [(.int i3), (.ref w2)])) _
  refine X4.laload hx (j := i3) (v := (.long w5)) (by rw [e4]; exact Ar_w2.1) (State.isArrayOf_alike hZ.alike Ar_w2.2.1) Ar_w2.2.2 hin25 hat25 (g := (mkF m 25 #[.val (.ref o0), s1, s2, .val (.int i3)] [(.int i3), (.ref w2)])) rfl rfl (hb hby d8_25) _ ?_
  show Steps p.tables e below (T4.setTop (mkF m 26 #[.val (.ref o0), s1, s2, .val (.int i3)] [(.long w5)])) _
  refine XS.lconst X4.here hx rfl (hb hby d8_26) ?_
  show Steps p.tables e below (T4.setTop (mkF m 27 #[.val (.ref o0), s1, s2, .val (.int i3)] [(.long (0 : Int64)), (.long w5)])) _
  refine XS.lcmp X4.here hx rfl (hb hby d8_27) rfl ?_
  show Steps p.tables e below (T4.setTop (mkF m 28 #[.val (.ref o0), s1, s2, .val (.int i3)] [(.int (lcmpW w5 (0 : Int64)))])) _
  refine XS.ifYes X4.here hx rfl (pc0 := 28) (pc' := 43) rfl (hb hby d8_28) rfl ((if0 _ _).trans (teq hc28).1) (by decide) (by decide) ?_
  show Steps p.tables e below (T4.setTop (mkF m 43 #[.val (.ref o0), s1, s2, .val (.int i3)] [])) _
  refine XS.iinc X4.here hx rfl (hb hby d8_43) rfl (l' := #[.val (.ref o0), s1, s2, .val (.int (i3 + (1 : Int32)))]) rfl ?_
  show Steps p.tables e below (T4.setTop (mkF m 46 #[.val (.ref o0), s1, s2, .val (.int (i3 + (1 : Int32)))] [])) _
  refine XS.goto X4.here hx rfl (pc0 := 46) (pc' := 11) rfl (hb hby d8_46) (by decide) (by decide) ?_
  exact kt
set_option maxRecDepth 65536 in
set_option maxHeartbeats 40000000 in
theorem tn8t {p : Program} {l : Launch} {e : Env} {R : Room} {s : State} {m : MethodId} {args : Array Value} {below : List Frame} {meth : Method} {c : Code} {T0 : State} {locs : List Loc} {cells slots : Nat} {Z : State} {a0 : Array Value} {h0 : Heap} (o0 : Addr) (s1 : Slot) (s2 : Slot) (i3 : Int32) (w2 : Addr) (cl_w2 : Cell) (z_w2 : Int32)
    (X0 : Stand p l e R s m args below meth c T0 locs cells slots) (hx : p.tables.exec = Jvm.exec) (hZ : Z.Warmed39 s.vm) (hw : ∀ d ∈ tables_1, d.before a0 Z = true) (hby : c.code = prog_58_method_6_code) (hml : c.maxLocals = 4) (hown : s.vm.findClass "com/example/tideshift/tideshift/partition/AccessCounts" = some m.cls) (e0 : T0.heap = h0) (F_counts_o0 : Fld Z h0 o0 "com/example/tideshift/tideshift/partition/AccessCounts" "counts" "[J" (.ref w2)) (Ar_w2 : Arr Z h0 w2 cl_w2 .long) (S_w2 : cl_w2.slots.size = z_w2.toNatClampNeg) (N_w2 : ¬ z_w2 < 0) (hc17 : ¬ (i3 < z_w2)) :
    ∃ (T' : State), Stand p l e R s m args below meth c T' locs cells slots ∧ T'.heap = h0 ∧
      ∀ target, Steps p.tables e below (T'.setTop (mkF m 49 #[.val (.ref o0), s1, s2, .val (.int i3)] [])) target → Steps p.tables e below (T0.setTop (mkF m 11 #[.val (.ref o0), s1, s2, .val (.int i3)] [])) target := by
  -- 3. LAWS
  obtain ⟨T3, X3, e3, st3⟩ := getF X0 hx hZ hown (host := "") (Or.inl (hw _ (List.mem_of_getElem? (i := 16) rfl))) Via.refl e0 F_counts_o0 (g := (mkF m 13 #[.val (.ref o0), s1, s2, .val (.int i3)] [(.ref o0), (.int i3)])) rfl rfl (hb hby d8_13)
  refine ⟨T3, X3, e3, fun target kt => ?_⟩
  -- 4. STEPS
  show Steps p.tables e below (T0.setTop (mkF m 11 #[.val (.ref o0), s1, s2, .val (.int i3)] [])) _
  refine XS.iloadN X0.here hx rfl (hb hby d8_11) rfl ?_
  show Steps p.tables e below (T0.setTop (mkF m 12 #[.val (.ref o0), s1, s2, .val (.int i3)] [(.int i3)])) _
  refine XS.aloadN X0.here hx rfl (hb hby d8_12) rfl rfl ?_
  show Steps p.tables e below (T0.setTop (mkF m 13 #[.val (.ref o0), s1, s2, .val (.int i3)] [(.ref o0), (.int i3)])) _
  refine st3 _ ?_
  show Steps p.tables e below (T3.setTop (mkF m 16 #[.val (.ref o0), s1, s2, .val (.int i3)] [(.ref w2), (.int i3)])) _
  refine X3.arraylength hx (by rw [e3]; exact Ar_w2.1) (State.isArrayOf_alike hZ.alike Ar_w2.2.1) (g := (mkF m 16 #[.val (.ref o0), s1, s2, .val (.int i3)] [(.ref w2), (.int i3)])) rfl rfl (hb hby d8_16) _ ?_
  rw [len_of S_w2 N_w2]
  show Steps p.tables e below (T3.setTop (mkF m 17 #[.val (.ref o0), s1, s2, .val (.int i3)] [(.int z_w2), (.int i3)])) _
  refine XS.icmpYes X3.here hx rfl (pc0 := 17) (pc' := 49) rfl (hb hby d8_17) rfl (flt hc17).2.1 (by decide) (by decide) ?_
  exact kt
theorem own_getD_snoc (l : List Int64) (v : Int64) : own_upd (fun j => l.getD j 0) l.length v = fun j => (l ++ [v]).getD j 0 := by
  funext j
  by_cases h : j = l.length
  · subst h; rw [own_upd_at]; simp
  · rw [own_upd_ne _ _ h]
    rcases Nat.lt_or_ge j l.length with h1 | h1
    · simp [List.getD_eq_getElem?_getD, List.getElem?_append_left h1]
    · have h2 : (l ++ [v]).length ≤ j := by rw [List.length_append, List.length_singleton]; omega
      rw [List.getD_eq_getElem?_getD, List.getD_eq_getElem?_getD, List.getElem?_eq_none h1, List.getElem?_eq_none h2]
theorem loop8 {p : Program} {l : Launch} {e : Env} {R : Room} {s : State} {m : MethodId} {args : Array Value} {below : List Frame} {meth : Method} {c : Code} {cells slots : Nat} {Z : State} {a0 : Array Value} {h0 : Heap} (o0 o1 t u : Addr) (ks cs : Nat → Int64) (sz : Nat) (hsz : own_cnt (own_occ cs) 16 = sz) (hx : p.tables.exec = Jvm.exec) (hZ : Z.Warmed39 s.vm) (hw : ∀ d ∈ tables_1, d.before a0 Z = true) (hby : c.code = prog_58_method_6_code) (hml : c.maxLocals = 4) (hown : s.vm.findClass "com/example/tideshift/tideshift/partition/AccessCounts" = some m.cls) (Fk : Fld Z h0 o0 "com/example/tideshift/tideshift/partition/AccessCounts" "keys" "[J" (.ref t)) (Fc : Fld Z h0 o0 "com/example/tideshift/tideshift/partition/AccessCounts" "counts" "[J" (.ref u)) (c1 c2 : Cell) (A1 : Arr Z h0 t c1 .long) (S1 : c1.slots.size = 16) (H1 : ∀ j, j < 16 → c1.slots[j]? = some (.long (ks j))) (A2 : Arr Z h0 u c2 .long) (S2 : c2.slots.size = 16) (H2 : ∀ j, j < 16 → c2.slots[j]? = some (.long (cs j)))
    (n1 : o0 ≠ o1) (n2 : t ≠ o1) (n3 : u ≠ o1) (n0 : Nat) (g : n0 ≤ o1) :
    ∀ (k i : Nat) (T0 : State) (h1 : Heap) (locs : List Loc), i + k = 16 → Stand p l e R s m args below meth c T0 locs cells slots → T0.heap = h1 → Keep h0 h1 [o1] → Fr n0 locs → own_La Z h1 o1 sz (fun j => (own_lst ks (own_occ cs) i).getD j 0) →
      ∃ (T' : State) (h' : Heap) (locs' : List Loc), Stand p l e R s m args below meth c T' locs' cells slots ∧ T'.heap = h' ∧ Keep h0 h' [o1] ∧ Fr n0 locs' ∧ own_La Z h' o1 sz (fun j => (own_lst ks (own_occ cs) 16).getD j 0) ∧
        ∀ target, Steps p.tables e below (T'.setTop (mkF m 49 #[.val (.ref o0), .val (.ref o1), .val (.int (Int32.ofNat sz)), .val (.int (Int32.ofNat 16))] [])) target → Steps p.tables e below (T0.setTop (mkF m 11 #[.val (.ref o0), .val (.ref o1), .val (.int (Int32.ofNat (own_cnt (own_occ cs) i))), .val (.int (Int32.ofNat i))] [])) target := by
  intro k
  induction k with
  | zero =>
    intro i T0 h1 locs hi X0 e0 K N La
    have hi' : i = 16 := by omega
    subst hi'
    obtain ⟨T', X', e', st⟩ := tn8t o0 (.val (.ref o1)) (.val (.int (Int32.ofNat sz))) (Int32.ofNat 16) u c2 16 X0 hx hZ hw hby hml hown e0 (Fc.keep K (ninS n1 nin0)) ⟨K.2.1 u c2 A2.1 (ninS n3 nin0), A2.2⟩ (by rw [S2]; rfl) (by decide) (by decide)
    rw [hsz]
    exact ⟨T', h1, locs, X', e', K, N, La, st⟩
  | succ k ih =>
    intro i T0 h1 locs hi X0 e0 K N La
    have i16 : i < 16 := by omega
    obtain ⟨q1, q2⟩ := own_i16 i16
    have FcK := Fc.keep K (ninS n1 nin0)
    have FkK := Fk.keep K (ninS n1 nin0)
    have A1K : Arr Z h1 t c1 .long := ⟨K.2.1 t c1 A1.1 (ninS n2 nin0), A1.2⟩
    have A2K : Arr Z h1 u c2 .long := ⟨K.2.1 u c2 A2.1 (ninS n3 nin0), A2.2⟩
    have hin1 : ¬ (Int32.ofNat i < 0 ∨ c1.slots.size ≤ (Int32.ofNat i).toNatClampNeg) := by rw [S1, q2]; exact fun z => z.elim q1 (fun z => by omega)
    have hin2 : ¬ (Int32.ofNat i < 0 ∨ c2.slots.size ≤ (Int32.ofNat i).toNatClampNeg) := by rw [S2, q2]; exact fun z => z.elim q1 (fun z => by omega)
    have hat1 : c1.slots[(Int32.ofNat i).toNatClampNeg]? = some (.long (ks i)) := by rw [q2]; exact H1 i i16
    have hat2 : c2.slots[(Int32.ofNat i).toNatClampNeg]? = some (.long (cs i)) := by rw [q2]; exact H2 i i16
    have lt : Int32.ofNat i < (16 : Int32) := own_lt (n := 16) i16 (by decide)
    by_cases hc : cs i = 0
    · have of : own_occ cs i = false := own_occ_f hc
      have ec : own_cnt (own_occ cs) (i + 1) = own_cnt (own_occ cs) i := by rw [own_cnt, of]; rfl
      have el : own_lst ks (own_occ cs) (i + 1) = own_lst ks (own_occ cs) i := by rw [own_lst, of]; simp
      obtain ⟨T1, X1, e1, st1⟩ := tn8n o0 (.val (.ref o1)) (.val (.int (Int32.ofNat (own_cnt (own_occ cs) i)))) (Int32.ofNat i) u c2 16 (cs i) X0 hx hZ hw hby hml hown e0 FcK A2K (by rw [S2]; rfl) (by decide) hin2 hat2 lt ((lw_eq _ _).mpr hc)
      obtain ⟨T', h', locs', X', e', K', N', La', st⟩ := ih (i + 1) T1 h1 locs (by omega) X1 e1 K N (by rw [el]; exact La)
      refine ⟨T', h', locs', X', e', K', N', La', fun target h => st1 target ?_⟩
      rw [own_one, ← ec]
      exact st target h
    · have of : own_occ cs i = true := own_occ_t hc
      have ec : own_cnt (own_occ cs) (i + 1) = own_cnt (own_occ cs) i + 1 := by rw [own_cnt, of]; rfl
      have el : own_lst ks (own_occ cs) (i + 1) = own_lst ks (own_occ cs) i ++ [ks i] := by rw [own_lst, of]; simp
      have hlt : own_cnt (own_occ cs) i < sz := by
        have := own_cnt_le (own_occ cs) (i + 1) 16 (by omega)
        omega
      have h16 : own_cnt (own_occ cs) i < 16 := by
        have : ∀ n, own_cnt (own_occ cs) n ≤ n := fun n => by
          induction n with
          | zero => exact Nat.le_refl _
          | succ n ihn => rw [own_cnt]; split <;> omega
        have := this i
        omega
      obtain ⟨r1, r2⟩ := own_i16 h16
      have La0 := La
      obtain ⟨c3, A3, S3, H3⟩ := La
      obtain ⟨T1, h2, X1, e1, W1, st1⟩ := tn8s o0 o1 (Int32.ofNat (own_cnt (own_occ cs) i)) (Int32.ofNat i) u c2 16 (cs i) t (ks i) c1 c3 X0 hx hZ hw hby hml hown e0 FcK A2K (by rw [S2]; rfl) (by decide) hin2 hat2 FkK A1K hin1 hat1 A3 (by rw [S3, r2]; exact fun z => z.elim r1 (fun z => by omega)) lt (fun z => hc ((lw_eq _ _).mp z))
      have W2 : Wr h1 h2 o1 (own_lst ks (own_occ cs) i).length (.long (ks i)) := by rw [own_lst_len, ← r2]; exact W1
      have La2 := own_La_same La0 W2
      rw [own_getD_snoc, ← el] at La2
      obtain ⟨T', h', locs', X', e', K', N', La', st⟩ := ih (i + 1) T1 h2 _ (by omega) X1 e1 (K.wr W1 (Or.inl (List.mem_cons_self ..))) (Fr.snoc X1 N g) La2
      refine ⟨T', h', locs', X', e', K', N', La', fun target h => st1 target ?_⟩
      rw [own_one, own_one, ← ec]
      exact st target h
theorem d8_0 : decode prog_58_method_6_code 0 = .ok (.aload_n 0, 1) := by decide +kernel
theorem d8_1 : decode prog_58_method_6_code 1 = .ok (.getfield 32, 3) := by decide +kernel
theorem d8_4 : decode prog_58_method_6_code 4 = .ok (.newarray .long, 2) := by decide +kernel
theorem d8_6 : decode prog_58_method_6_code 6 = .ok (.astore_n 1, 1) := by decide +kernel
theorem d8_7 : decode prog_58_method_6_code 7 = .ok (.iconst 0, 1) := by decide +kernel
theorem d8_8 : decode prog_58_method_6_code 8 = .ok (.istore_n 2, 1) := by decide +kernel
theorem d8_9 : decode prog_58_method_6_code 9 = .ok (.iconst 0, 1) := by decide +kernel
theorem d8_10 : decode prog_58_method_6_code 10 = .ok (.istore_n 3, 1) := by decide +kernel
theorem d8_49 : decode prog_58_method_6_code 49 = .ok (.aload_n 1, 1) := by decide +kernel
theorem d8_50 : decode prog_58_method_6_code 50 = .ok (.areturn, 1) := by decide +kernel
theorem pn_8 : plainName "com/example/tideshift/tideshift/partition/AccessCounts" = true := by first | (simp [plainName, overriddenIn]; done) | decide +kernel
theorem ef_8 (m : MethodId) (x0 : Addr) : entryFrame m #[(.ref x0)] 4 = mkF m 0 #[.val (.ref x0), .unset, .unset, .unset] [] := by first | (simp [entryFrame, mkF, argsToLocals, Value.category]; done) | rfl
def Q8 (Z : State) (a1 : Addr) (w2 : Int32) (ks cs : Nat → Int64) (sz : Nat) (h0 : Heap) (n0 : Nat) (v : Option Value) (h : Heap) (L : List Loc) : Prop := ∃ r : Addr, v = some (.ref r) ∧ Fr n0 L ∧ Keep h0 h [] ∧ own_La Z h r sz (fun j => (own_lst ks (own_occ cs) 16).getD j 0) ∧ h0.size ≤ r
set_option maxRecDepth 65536 in
set_option maxHeartbeats 40000000 in
theorem rm8 (l : Launch) (Z : State) (a0 : Array Value) (hw : ∀ d ∈ tables_1, d.before a0 Z = true) (ws : List Jvm.Cond) (a1 : Addr) (w2 : Int32) (h0 : Heap) (n0 : Nat) (Z0 : n0 ≤ h0.size) (F_size_a1 : Fld Z h0 a1 "com/example/tideshift/tideshift/partition/AccessCounts" "size" "I" (.int w2)) (t u : Addr) (ks cs : Nat → Int64) (sz : Nat) (hsz : own_cnt (own_occ cs) 16 = sz) (hsz3 : sz ≤ 3) (hw2 : w2 = Int32.ofNat sz) (Fk : Fld Z h0 a1 "com/example/tideshift/tideshift/partition/AccessCounts" "keys" "[J" (.ref t)) (Fc : Fld Z h0 a1 "com/example/tideshift/tideshift/partition/AccessCounts" "counts" "[J" (.ref u)) (Lk : own_La Z h0 t 16 ks) (Lc : own_La Z h0 u 16 cs) :
    MetFree l (⟨"com/example/tideshift/tideshift/partition/AccessCounts", "keys", "()[J"⟩ : MethodName) (head1 (Jvm.Cond.code (⟨"com/example/tideshift/tideshift/partition/AccessCounts", "keys", "()[J"⟩ : MethodName) prog_58_method_6_code 4 (some (.array .long)) :: ws) ({ frames := 0, cells := 1, slots := 3, locals := 0 } : Room)) (fun a U => a = #[(.ref a1)] ∧ Z.Warmed39 U.vm ∧ U.heap = h0) (fun _ _ _ _ _ => True) (fun _ U o U' => ∃ v L, o = .returned v ∧ Q8 Z a1 w2 ks cs sz h0 n0 v U'.heap L ∧ FrameEnd U o U' L ({ frames := 0, cells := 1, slots := 3, locals := 0 } : Room).cells ({ frames := 0, cells := 1, slots := 3, locals := 0 } : Room).slots) := by
  refine MetFree.of_bodySF (plainFor_of_name pn_8) hisR ?_
  intro p e s m args below meth c s₁ Bd hml0 hP hK
  obtain ⟨rfl, hZ, hh⟩ := hP
  have hx := Bd.exec
  have hby := Bd.bytes
  have hml : c.maxLocals = 4 := hml0
  have hown : s.vm.findClass "com/example/tideshift/tideshift/partition/AccessCounts" = some m.cls := findClass_of_methodNamed Bd.named
  have hnm := (name_of_methodNamed Bd.named Bd.method).1
  have X0 : Stand p l e ({ frames := 0, cells := 1, slots := 3, locals := 0 } : Room) s m #[(.ref a1)] below meth c s₁ [] 0 0 := Stand.of_body Bd
  have e0 : s₁.heap = h0 := by rw [← hh, Bd.state]; rfl
  have N0 := Fr.nil n0
  have own_neg : ¬ w2 < 0 := by rw [hw2]; exact (own_i16 (by omega)).1
  have own_cap : w2.toNatClampNeg ≤ 3 := by rw [hw2, (own_i16 (by omega)).2]; exact hsz3
  obtain ⟨c1, A1, S1, H1⟩ := Lk
  obtain ⟨c2, A2, S2, H2⟩ := Lc
  have pre0 : ∀ t, Steps p.tables e below (s₁.setTop (mkF m 0 #[.val (.ref a1), .unset, .unset, .unset] [])) t → Steps p.tables e below (s₁.setTop (entryFrame m #[(.ref a1)] 4)) t := fun t k => castTop (ef_8 m a1) k
  -- 3. LAWS
  obtain ⟨T3, X3, e3, st3⟩ := getF X0 hx hZ hown (host := "") (Or.inl (hw _ (List.mem_of_getElem? (i := 25) rfl))) Via.refl e0 F_size_a1 (g := (mkF m 1 #[.val (.ref a1), .unset, .unset, .unset] [(.ref a1)])) rfl rfl (hb hby d8_1)
  obtain ⟨T4, h4, k4, X4, e4, E4, A4, st4⟩ := newP X3 hx hZ (hw _ (List.mem_of_getElem? (i := 0) rfl)) e3 (g := (mkF m 4 #[.val (.ref a1), .unset, .unset, .unset] [(.int w2)])) rfl (hb hby d8_4) rfl own_neg (cap := 3) own_cap (by decide) (by decide) (by decide)
  obtain ⟨b4, g4⟩ : ∃ z, z = h0.size := ⟨_, rfl⟩      -- the fresh array's address
  have Z4 : n0 ≤ h4.size := Nat.le_trans Z0 E4.1
  rw [← g4] at A4 st4
  have V_b4 := Arv.new A4 own_neg      -- Arv Z h4 b4 k4 .long w2 [] (its first value); a place must be in the list before it's written: Arv.pad with pad_rep
  have g_b4 : n0 ≤ b4 := Nat.le_trans Z0 (Nat.le_of_eq g4.symm)
  have sz_b4 : h0.size ≤ b4 := (Nat.le_trans (Keep.refl h0 []).1 (Nat.le_of_eq g4.symm))
  have K4 : Keep h0 h4 [] := (Keep.refl h0 []).ext E4
  -- newarray of at most cap (3: the greatest length): this body's room: slots + cap; its caller's figures: cells + 1, slots + cap
  obtain ⟨T5, h5, locs5, X5, e5, K5q, N5, R5, st5⟩ := loop8 a1 b4 t u ks cs sz hsz hx hZ hw hby hml hown (Fk.ext E4) (Fc.ext E4) c1 c2 (A1.ext E4) S1 H1 (A2.ext E4) S2 H2 (Nat.ne_of_lt (Nat.lt_of_lt_of_le F_size_a1.lt (Nat.le_of_eq g4.symm))) (Nat.ne_of_lt (Nat.lt_of_lt_of_le A1.lt (Nat.le_of_eq g4.symm))) (Nat.ne_of_lt (Nat.lt_of_lt_of_le A2.lt (Nat.le_of_eq g4.symm))) n0 g_b4 16 0 T4 h4 [] (by omega) X4 e4 (Keep.refl _ _) N0 (own_La_new A4 (by rw [hw2]; exact (own_i16 (by omega)).2))
  obtain ⟨fs, hr, hrun, hended, hW, hsame⟩ := X5.leave (v := some (.ref b4)) (fun h => by rw [Bd.returns] at h; cases h)
  refine ⟨_, _, pre0 _ ?_, hrun, hended, _, _, rfl, ?_, ⟨_, rfl⟩, hW, hsame.mono (by decide) (by decide)⟩
  -- 4. STEPS
  · show Steps p.tables e below (s₁.setTop (mkF m 0 #[.val (.ref a1), .unset, .unset, .unset] [])) _
    refine XS.aloadN X0.here hx rfl (hb hby d8_0) rfl rfl ?_
    show Steps p.tables e below (s₁.setTop (mkF m 1 #[.val (.ref a1), .unset, .unset, .unset] [(.ref a1)])) _
    refine st3 _ ?_
    show Steps p.tables e below (T3.setTop (mkF m 4 #[.val (.ref a1), .unset, .unset, .unset] [(.int w2)])) _
    refine st4 _ ?_
    show Steps p.tables e below (T4.setTop (mkF m 6 #[.val (.ref a1), .unset, .unset, .unset] [(.ref b4)])) _
    refine XS.astoreN X4.here hx rfl (hb hby d8_6) rfl rfl (l' := #[.val (.ref a1), .val (.ref b4), .unset, .unset]) rfl ?_
    show Steps p.tables e below (T4.setTop (mkF m 7 #[.val (.ref a1), .val (.ref b4), .unset, .unset] [])) _
    refine XS.iconst X4.here hx rfl (hb hby d8_7) ?_
    show Steps p.tables e below (T4.setTop (mkF m 8 #[.val (.ref a1), .val (.ref b4), .unset, .unset] [(.int (0 : Int32))])) _
    refine XS.istoreN X4.here hx rfl (hb hby d8_8) rfl (l' := #[.val (.ref a1), .val (.ref b4), .val (.int (0 : Int32)), .unset]) rfl ?_
    show Steps p.tables e below (T4.setTop (mkF m 9 #[.val (.ref a1), .val (.ref b4), .val (.int (0 : Int32)), .unset] [])) _
    refine XS.iconst X4.here hx rfl (hb hby d8_9) ?_
    show Steps p.tables e below (T4.setTop (mkF m 10 #[.val (.ref a1), .val (.ref b4), .val (.int (0 : Int32)), .unset] [(.int (0 : Int32))])) _
    refine XS.istoreN X4.here hx rfl (hb hby d8_10) rfl (l' := #[.val (.ref a1), .val (.ref b4), .val (.int (0 : Int32)), .val (.int (0 : Int32))]) rfl ?_
    show Steps p.tables e below (T4.setTop (mkF m 11 #[.val (.ref a1), .val (.ref b4), .val (.int (0 : Int32)), .val (.int (0 : Int32))] [])) _
    refine st5 _ ?_
    show Steps p.tables e below (T5.setTop (mkF m 49 #[.val (.ref a1), .val (.ref b4), .val (.int (Int32.ofNat sz)), .val (.int (Int32.ofNat 16))] [])) _
    refine XS.aloadN X5.here hx rfl (hb hby d8_49) rfl rfl ?_
    show Steps p.tables e below (T5.setTop (mkF m 50 #[.val (.ref a1), .val (.ref b4), .val (.int (Int32.ofNat sz)), .val (.int (Int32.ofNat 16))] [(.ref b4)])) _
    jvm_step X5.here [X5.here.top, hx, (hb hby d8_50), X5.method', Bd.returns, Value.isRef, FieldType.isReference]
    first | (intro acts; rw [hr _ acts rfl rfl rfl]) | rw [hr _ _ rfl rfl rfl]
    exact Steps.refl _
  · show Q8 Z a1 w2 ks cs sz h0 n0 _ T5.heap _
    rw [e5]
    exact ⟨b4, rfl, N5, K4.trans K5q (allS (Or.inr sz_b4) all0), R5, sz_b4⟩
theorem d9_0 : decode method_3_code 0 = .ok (.iload_n 3, 1) := by decide +kernel
theorem d9_1 : decode method_3_code 1 = .ok (.ifCond .le 11, 3) := by decide +kernel
theorem d9_4 : decode method_3_code 4 = .ok (.aload_n 2, 1) := by decide +kernel
theorem d9_5 : decode method_3_code 5 = .ok (.iconst 0, 1) := by decide +kernel
theorem d9_6 : decode method_3_code 6 = .ok (.laload, 1) := by decide +kernel
theorem d9_7 : decode method_3_code 7 = .ok (.lload_n 0, 1) := by decide +kernel
theorem d9_8 : decode method_3_code 8 = .ok (.lcmp, 1) := by decide +kernel
theorem d9_9 : decode method_3_code 9 = .ok (.ifCond .eq 29, 3) := by decide +kernel
theorem d9_38 : decode method_3_code 38 = .ok (.iconst 1, 1) := by decide +kernel
theorem d9_39 : decode method_3_code 39 = .ok (.goto 4, 3) := by decide +kernel
theorem d9_43 : decode method_3_code 43 = .ok (.ireturn, 1) := by decide +kernel
theorem pn_9 : plainName "com/example/tideshift/tideshift/partition/AccessCountsKeysPinLaw" = true := by first | (simp [plainName, overriddenIn]; done) | decide +kernel
theorem ef_9 (m : MethodId) (x0 : Int64) (x1 : Addr) (x2 : Int32) : entryFrame m #[(.long x0), (.ref x1), (.int x2)] 4 = mkF m 0 #[.val (.long x0), .second, .val (.ref x1), .val (.int x2)] [] := by first | (simp [entryFrame, mkF, argsToLocals, Value.category]; done) | rfl
def Q9a (Z : State) (q1 : Int64) (a2 : Addr) (p3 : Int32) (w4 : Int64) (cl_a2 : Cell) (h0 : Heap) (n0 : Nat) (v : Option Value) (h : Heap) (L : List Loc) : Prop := v = some (.int (1 : Int32)) ∧ Fr n0 L ∧ h = h0
set_option maxRecDepth 65536 in
set_option maxHeartbeats 40000000 in
theorem rm9a (l : Launch) (Z : State) (a0 : Array Value) (hw : ∀ d ∈ tables_1, d.before a0 Z = true) (ws : List Jvm.Cond) (q1 : Int64) (a2 : Addr) (p3 : Int32) (w4 : Int64) (cl_a2 : Cell) (h0 : Heap) (n0 : Nat) (Z0 : n0 ≤ h0.size) (Ar_a2 : Arr Z h0 a2 cl_a2 .long) (hin6 : ¬ ((0 : Int32) < 0 ∨ cl_a2.slots.size ≤ ((0 : Int32)).toNatClampNeg)) (hat6 : cl_a2.slots[((0 : Int32)).toNatClampNeg]? = some (.long w4)) (hc1 : (0 : Int32) < p3) (hc9 : (lcmpW w4 q1) = (0 : Int32)) :
    MetFree l (⟨"com/example/tideshift/tideshift/partition/AccessCountsKeysPinLaw", "inE", "(J[JI)Z"⟩ : MethodName) (head1 (Jvm.Cond.code (⟨"com/example/tideshift/tideshift/partition/AccessCountsKeysPinLaw", "inE", "(J[JI)Z"⟩ : MethodName) method_3_code 4 (some .boolean) :: ws) ({ frames := 0, cells := 0, slots := 0, locals := 0 } : Room)) (fun a U => a = #[(.long q1), (.ref a2), (.int p3)] ∧ Z.Warmed39 U.vm ∧ U.heap = h0) (fun _ _ _ _ _ => True) (fun _ U o U' => ∃ v L, o = .returned v ∧ Q9a Z q1 a2 p3 w4 cl_a2 h0 n0 v U'.heap L ∧ FrameEnd U o U' L ({ frames := 0, cells := 0, slots := 0, locals := 0 } : Room).cells ({ frames := 0, cells := 0, slots := 0, locals := 0 } : Room).slots) := by
  refine MetFree.of_bodySF (plainFor_of_name pn_9) hisR ?_
  intro p e s m args below meth c s₁ Bd hml0 hP hK
  obtain ⟨rfl, hZ, hh⟩ := hP
  have hx := Bd.exec
  have hby := Bd.bytes
  have hml : c.maxLocals = 4 := hml0
  have hown : s.vm.findClass "com/example/tideshift/tideshift/partition/AccessCountsKeysPinLaw" = some m.cls := findClass_of_methodNamed Bd.named
  have hnm := (name_of_methodNamed Bd.named Bd.method).1
  have X0 : Stand p l e ({ frames := 0, cells := 0, slots := 0, locals := 0 } : Room) s m #[(.long q1), (.ref a2), (.int p3)] below meth c s₁ [] 0 0 := Stand.of_body Bd
  have e0 : s₁.heap = h0 := by rw [← hh, Bd.state]; rfl
  have N0 := Fr.nil n0
  have pre0 : ∀ t, Steps p.tables e below (s₁.setTop (mkF m 0 #[.val (.long q1), .second, .val (.ref a2), .val (.int p3)] [])) t → Steps p.tables e below (s₁.setTop (entryFrame m #[(.long q1), (.ref a2), (.int p3)] 4)) t := fun t k => castTop (ef_9 m q1 a2 p3) k
  -- 3. LAWS

  obtain ⟨fs, hr, hrun, hended, hW, hsame⟩ := X0.leave (v := some (.int (1 : Int32))) (fun h => by rw [Bd.returns] at h; cases h)
  refine ⟨_, _, pre0 _ ?_, hrun, hended, _, _, rfl, ?_, ⟨_, rfl⟩, hW, hsame.mono (by decide) (by decide)⟩
  -- 4. STEPS
  · show Steps p.tables e below (s₁.setTop (mkF m 0 #[.val (.long q1), .second, .val (.ref a2), .val (.int p3)] [])) _
    refine XS.iloadN X0.here hx rfl (hb hby d9_0) rfl ?_
    show Steps p.tables e below (s₁.setTop (mkF m 1 #[.val (.long q1), .second, .val (.ref a2), .val (.int p3)] [(.int p3)])) _
    refine XS.ifNo X0.here hx rfl (hb hby d9_1) rfl ((if0 _ _).trans (tlt hc1).2.2.2) ?_
    show Steps p.tables e below (s₁.setTop (mkF m 4 #[.val (.long q1), .second, .val (.ref a2), .val (.int p3)] [])) _
    refine XS.aloadN X0.here hx rfl (hb hby d9_4) rfl rfl ?_
    show Steps p.tables e below (s₁.setTop (mkF m 5 #[.val (.long q1), .second, .val (.ref a2), .val (.int p3)] [(.ref a2)])) _
    refine XS.iconst X0.here hx rfl (hb hby d9_5) ?_
    show Steps p.tables e below (s₁.setTop (mkF m 6 #[.val (.long q1), .second, .val (.ref a2), .val (.int p3)] [(.int (0 : Int32)), (.ref a2)])) _
    refine X0.laload hx (j := (0 : Int32)) (v := (.long w4)) (by rw [e0]; exact Ar_a2.1) (State.isArrayOf_alike hZ.alike Ar_a2.2.1) Ar_a2.2.2 hin6 hat6 (g := (mkF m 6 #[.val (.long q1), .second, .val (.ref a2), .val (.int p3)] [(.int (0 : Int32)), (.ref a2)])) rfl rfl (hb hby d9_6) _ ?_
    show Steps p.tables e below (s₁.setTop (mkF m 7 #[.val (.long q1), .second, .val (.ref a2), .val (.int p3)] [(.long w4)])) _
    refine XS.lloadN X0.here hx rfl (hb hby d9_7) rfl ?_
    show Steps p.tables e below (s₁.setTop (mkF m 8 #[.val (.long q1), .second, .val (.ref a2), .val (.int p3)] [(.long q1), (.long w4)])) _
    refine XS.lcmp X0.here hx rfl (hb hby d9_8) rfl ?_
    show Steps p.tables e below (s₁.setTop (mkF m 9 #[.val (.long q1), .second, .val (.ref a2), .val (.int p3)] [(.int (lcmpW w4 q1))])) _
    refine XS.ifYes X0.here hx rfl (pc0 := 9) (pc' := 38) rfl (hb hby d9_9) rfl ((if0 _ _).trans (teq hc9).1) (by decide) (by decide) ?_
    show Steps p.tables e below (s₁.setTop (mkF m 38 #[.val (.long q1), .second, .val (.ref a2), .val (.int p3)] [])) _
    refine XS.iconst X0.here hx rfl (hb hby d9_38) ?_
    show Steps p.tables e below (s₁.setTop (mkF m 39 #[.val (.long q1), .second, .val (.ref a2), .val (.int p3)] [(.int (1 : Int32))])) _
    refine XS.goto X0.here hx rfl (pc0 := 39) (pc' := 43) rfl (hb hby d9_39) (by decide) (by decide) ?_
    show Steps p.tables e below (s₁.setTop (mkF m 43 #[.val (.long q1), .second, .val (.ref a2), .val (.int p3)] [(.int (1 : Int32))])) _
    exact retN X0 hx (t := .boolean) Bd.returns (by simp) (hb hby d9_43) hr
  · show Q9a Z q1 a2 p3 w4 cl_a2 h0 n0 _ s₁.heap _
    rw [e0]
    exact ⟨rfl, N0, rfl⟩
theorem d10_0 : decode method_4_code 0 = .ok (.aload_n 2, 1) := by decide +kernel
theorem d10_1 : decode method_4_code 1 = .ok (.arraylength, 1) := by decide +kernel
theorem d10_2 : decode method_4_code 2 = .ok (.ifCond .le 11, 3) := by decide +kernel
theorem d10_5 : decode method_4_code 5 = .ok (.aload_n 2, 1) := by decide +kernel
theorem d10_6 : decode method_4_code 6 = .ok (.iconst 0, 1) := by decide +kernel
theorem d10_7 : decode method_4_code 7 = .ok (.laload, 1) := by decide +kernel
theorem d10_8 : decode method_4_code 8 = .ok (.lload_n 0, 1) := by decide +kernel
theorem d10_9 : decode method_4_code 9 = .ok (.lcmp, 1) := by decide +kernel
theorem d10_10 : decode method_4_code 10 = .ok (.ifCond .eq 31, 3) := by decide +kernel
theorem d10_41 : decode method_4_code 41 = .ok (.iconst 1, 1) := by decide +kernel
theorem d10_42 : decode method_4_code 42 = .ok (.goto 4, 3) := by decide +kernel
theorem d10_46 : decode method_4_code 46 = .ok (.ireturn, 1) := by decide +kernel
theorem pn_10 : plainName "com/example/tideshift/tideshift/partition/AccessCountsKeysPinLaw" = true := by first | (simp [plainName, overriddenIn]; done) | decide +kernel
theorem ef_10 (m : MethodId) (x0 : Int64) (x1 : Addr) : entryFrame m #[(.long x0), (.ref x1)] 3 = mkF m 0 #[.val (.long x0), .second, .val (.ref x1)] [] := by first | (simp [entryFrame, mkF, argsToLocals, Value.category]; done) | rfl
def Q10a (Z : State) (q1 : Int64) (a2 : Addr) (cl_a2 : Cell) (z_a2 : Int32) (w3 : Int64) (h0 : Heap) (n0 : Nat) (v : Option Value) (h : Heap) (L : List Loc) : Prop := v = some (.int (1 : Int32)) ∧ Fr n0 L ∧ h = h0
set_option maxRecDepth 65536 in
set_option maxHeartbeats 40000000 in
theorem rm10a (l : Launch) (Z : State) (a0 : Array Value) (hw : ∀ d ∈ tables_1, d.before a0 Z = true) (ws : List Jvm.Cond) (q1 : Int64) (a2 : Addr) (cl_a2 : Cell) (z_a2 : Int32) (w3 : Int64) (h0 : Heap) (n0 : Nat) (Z0 : n0 ≤ h0.size) (Ar_a2 : Arr Z h0 a2 cl_a2 .long) (S_a2 : cl_a2.slots.size = z_a2.toNatClampNeg) (N_a2 : ¬ z_a2 < 0) (hin7 : ¬ ((0 : Int32) < 0 ∨ cl_a2.slots.size ≤ ((0 : Int32)).toNatClampNeg)) (hat7 : cl_a2.slots[((0 : Int32)).toNatClampNeg]? = some (.long w3)) (hc2 : (0 : Int32) < z_a2) (hc10 : (lcmpW w3 q1) = (0 : Int32)) :
    MetFree l (⟨"com/example/tideshift/tideshift/partition/AccessCountsKeysPinLaw", "inR", "(J[J)Z"⟩ : MethodName) (head1 (Jvm.Cond.code (⟨"com/example/tideshift/tideshift/partition/AccessCountsKeysPinLaw", "inR", "(J[J)Z"⟩ : MethodName) method_4_code 3 (some .boolean) :: ws) ({ frames := 0, cells := 0, slots := 0, locals := 0 } : Room)) (fun a U => a = #[(.long q1), (.ref a2)] ∧ Z.Warmed39 U.vm ∧ U.heap = h0) (fun _ _ _ _ _ => True) (fun _ U o U' => ∃ v L, o = .returned v ∧ Q10a Z q1 a2 cl_a2 z_a2 w3 h0 n0 v U'.heap L ∧ FrameEnd U o U' L ({ frames := 0, cells := 0, slots := 0, locals := 0 } : Room).cells ({ frames := 0, cells := 0, slots := 0, locals := 0 } : Room).slots) := by
  refine MetFree.of_bodySF (plainFor_of_name pn_10) hisR ?_
  intro p e s m args below meth c s₁ Bd hml0 hP hK
  obtain ⟨rfl, hZ, hh⟩ := hP
  have hx := Bd.exec
  have hby := Bd.bytes
  have hml : c.maxLocals = 3 := hml0
  have hown : s.vm.findClass "com/example/tideshift/tideshift/partition/AccessCountsKeysPinLaw" = some m.cls := findClass_of_methodNamed Bd.named
  have hnm := (name_of_methodNamed Bd.named Bd.method).1
  have X0 : Stand p l e ({ frames := 0, cells := 0, slots := 0, locals := 0 } : Room) s m #[(.long q1), (.ref a2)] below meth c s₁ [] 0 0 := Stand.of_body Bd
  have e0 : s₁.heap = h0 := by rw [← hh, Bd.state]; rfl
  have N0 := Fr.nil n0
  have pre0 : ∀ t, Steps p.tables e below (s₁.setTop (mkF m 0 #[.val (.long q1), .second, .val (.ref a2)] [])) t → Steps p.tables e below (s₁.setTop (entryFrame m #[(.long q1), (.ref a2)] 3)) t := fun t k => castTop (ef_10 m q1 a2) k
  -- 3. LAWS

  obtain ⟨fs, hr, hrun, hended, hW, hsame⟩ := X0.leave (v := some (.int (1 : Int32))) (fun h => by rw [Bd.returns] at h; cases h)
  refine ⟨_, _, pre0 _ ?_, hrun, hended, _, _, rfl, ?_, ⟨_, rfl⟩, hW, hsame.mono (by decide) (by decide)⟩
  -- 4. STEPS
  · show Steps p.tables e below (s₁.setTop (mkF m 0 #[.val (.long q1), .second, .val (.ref a2)] [])) _
    refine XS.aloadN X0.here hx rfl (hb hby d10_0) rfl rfl ?_
    show Steps p.tables e below (s₁.setTop (mkF m 1 #[.val (.long q1), .second, .val (.ref a2)] [(.ref a2)])) _
    refine X0.arraylength hx (by rw [e0]; exact Ar_a2.1) (State.isArrayOf_alike hZ.alike Ar_a2.2.1) (g := (mkF m 1 #[.val (.long q1), .second, .val (.ref a2)] [(.ref a2)])) rfl rfl (hb hby d10_1) _ ?_
    rw [len_of S_a2 N_a2]
    show Steps p.tables e below (s₁.setTop (mkF m 2 #[.val (.long q1), .second, .val (.ref a2)] [(.int z_a2)])) _
    refine XS.ifNo X0.here hx rfl (hb hby d10_2) rfl ((if0 _ _).trans (tlt hc2).2.2.2) ?_
    show Steps p.tables e below (s₁.setTop (mkF m 5 #[.val (.long q1), .second, .val (.ref a2)] [])) _
    refine XS.aloadN X0.here hx rfl (hb hby d10_5) rfl rfl ?_
    show Steps p.tables e below (s₁.setTop (mkF m 6 #[.val (.long q1), .second, .val (.ref a2)] [(.ref a2)])) _
    refine XS.iconst X0.here hx rfl (hb hby d10_6) ?_
    show Steps p.tables e below (s₁.setTop (mkF m 7 #[.val (.long q1), .second, .val (.ref a2)] [(.int (0 : Int32)), (.ref a2)])) _
    refine X0.laload hx (j := (0 : Int32)) (v := (.long w3)) (by rw [e0]; exact Ar_a2.1) (State.isArrayOf_alike hZ.alike Ar_a2.2.1) Ar_a2.2.2 hin7 hat7 (g := (mkF m 7 #[.val (.long q1), .second, .val (.ref a2)] [(.int (0 : Int32)), (.ref a2)])) rfl rfl (hb hby d10_7) _ ?_
    show Steps p.tables e below (s₁.setTop (mkF m 8 #[.val (.long q1), .second, .val (.ref a2)] [(.long w3)])) _
    refine XS.lloadN X0.here hx rfl (hb hby d10_8) rfl ?_
    show Steps p.tables e below (s₁.setTop (mkF m 9 #[.val (.long q1), .second, .val (.ref a2)] [(.long q1), (.long w3)])) _
    refine XS.lcmp X0.here hx rfl (hb hby d10_9) rfl ?_
    show Steps p.tables e below (s₁.setTop (mkF m 10 #[.val (.long q1), .second, .val (.ref a2)] [(.int (lcmpW w3 q1))])) _
    refine XS.ifYes X0.here hx rfl (pc0 := 10) (pc' := 41) rfl (hb hby d10_10) rfl ((if0 _ _).trans (teq hc10).1) (by decide) (by decide) ?_
    show Steps p.tables e below (s₁.setTop (mkF m 41 #[.val (.long q1), .second, .val (.ref a2)] [])) _
    refine XS.iconst X0.here hx rfl (hb hby d10_41) ?_
    show Steps p.tables e below (s₁.setTop (mkF m 42 #[.val (.long q1), .second, .val (.ref a2)] [(.int (1 : Int32))])) _
    refine XS.goto X0.here hx rfl (pc0 := 42) (pc' := 46) rfl (hb hby d10_42) (by decide) (by decide) ?_
    show Steps p.tables e below (s₁.setTop (mkF m 46 #[.val (.long q1), .second, .val (.ref a2)] [(.int (1 : Int32))])) _
    exact retN X0 hx (t := .boolean) Bd.returns (by simp) (hb hby d10_46) hr
  · show Q10a Z q1 a2 cl_a2 z_a2 w3 h0 n0 _ s₁.heap _
    rw [e0]
    exact ⟨rfl, N0, rfl⟩
theorem d9_12 : decode method_3_code 12 = .ok (.iload_n 3, 1) := by decide +kernel
theorem d9_13 : decode method_3_code 13 = .ok (.iconst 1, 1) := by decide +kernel
theorem d9_14 : decode method_3_code 14 = .ok (.if_icmp .le 11, 3) := by decide +kernel
theorem d9_17 : decode method_3_code 17 = .ok (.aload_n 2, 1) := by decide +kernel
theorem d9_18 : decode method_3_code 18 = .ok (.iconst 1, 1) := by decide +kernel
theorem d9_19 : decode method_3_code 19 = .ok (.laload, 1) := by decide +kernel
theorem d9_20 : decode method_3_code 20 = .ok (.lload_n 0, 1) := by decide +kernel
theorem d9_21 : decode method_3_code 21 = .ok (.lcmp, 1) := by decide +kernel
theorem d9_22 : decode method_3_code 22 = .ok (.ifCond .eq 16, 3) := by decide +kernel
def Q9b (Z : State) (q1 : Int64) (a2 : Addr) (p3 : Int32) (w4 : Int64) (cl_a2 : Cell) (w5 : Int64) (h0 : Heap) (n0 : Nat) (v : Option Value) (h : Heap) (L : List Loc) : Prop := v = some (.int (1 : Int32)) ∧ Fr n0 L ∧ h = h0
set_option maxRecDepth 65536 in
set_option maxHeartbeats 40000000 in
theorem rm9b (l : Launch) (Z : State) (a0 : Array Value) (hw : ∀ d ∈ tables_1, d.before a0 Z = true) (ws : List Jvm.Cond) (q1 : Int64) (a2 : Addr) (p3 : Int32) (w4 : Int64) (cl_a2 : Cell) (w5 : Int64) (h0 : Heap) (n0 : Nat) (Z0 : n0 ≤ h0.size) (Ar_a2 : Arr Z h0 a2 cl_a2 .long) (hin6 : ¬ ((0 : Int32) < 0 ∨ cl_a2.slots.size ≤ ((0 : Int32)).toNatClampNeg)) (hat6 : cl_a2.slots[((0 : Int32)).toNatClampNeg]? = some (.long w4)) (hin19 : ¬ ((1 : Int32) < 0 ∨ cl_a2.slots.size ≤ ((1 : Int32)).toNatClampNeg)) (hat19 : cl_a2.slots[((1 : Int32)).toNatClampNeg]? = some (.long w5)) (hc1 : (0 : Int32) < p3) (hc9 : ¬ ((lcmpW w4 q1) = (0 : Int32))) (hc14 : (1 : Int32) < p3) (hc22 : (lcmpW w5 q1) = (0 : Int32)) :
    MetFree l (⟨"com/example/tideshift/tideshift/partition/AccessCountsKeysPinLaw", "inE", "(J[JI)Z"⟩ : MethodName) (head1 (Jvm.Cond.code (⟨"com/example/tideshift/tideshift/partition/AccessCountsKeysPinLaw", "inE", "(J[JI)Z"⟩ : MethodName) method_3_code 4 (some .boolean) :: ws) ({ frames := 0, cells := 0, slots := 0, locals := 0 } : Room)) (fun a U => a = #[(.long q1), (.ref a2), (.int p3)] ∧ Z.Warmed39 U.vm ∧ U.heap = h0) (fun _ _ _ _ _ => True) (fun _ U o U' => ∃ v L, o = .returned v ∧ Q9b Z q1 a2 p3 w4 cl_a2 w5 h0 n0 v U'.heap L ∧ FrameEnd U o U' L ({ frames := 0, cells := 0, slots := 0, locals := 0 } : Room).cells ({ frames := 0, cells := 0, slots := 0, locals := 0 } : Room).slots) := by
  refine MetFree.of_bodySF (plainFor_of_name pn_9) hisR ?_
  intro p e s m args below meth c s₁ Bd hml0 hP hK
  obtain ⟨rfl, hZ, hh⟩ := hP
  have hx := Bd.exec
  have hby := Bd.bytes
  have hml : c.maxLocals = 4 := hml0
  have hown : s.vm.findClass "com/example/tideshift/tideshift/partition/AccessCountsKeysPinLaw" = some m.cls := findClass_of_methodNamed Bd.named
  have hnm := (name_of_methodNamed Bd.named Bd.method).1
  have X0 : Stand p l e ({ frames := 0, cells := 0, slots := 0, locals := 0 } : Room) s m #[(.long q1), (.ref a2), (.int p3)] below meth c s₁ [] 0 0 := Stand.of_body Bd
  have e0 : s₁.heap = h0 := by rw [← hh, Bd.state]; rfl
  have N0 := Fr.nil n0
  have pre0 : ∀ t, Steps p.tables e below (s₁.setTop (mkF m 0 #[.val (.long q1), .second, .val (.ref a2), .val (.int p3)] [])) t → Steps p.tables e below (s₁.setTop (entryFrame m #[(.long q1), (.ref a2), (.int p3)] 4)) t := fun t k => castTop (ef_9 m q1 a2 p3) k
  -- 3. LAWS

  obtain ⟨fs, hr, hrun, hended, hW, hsame⟩ := X0.leave (v := some (.int (1 : Int32))) (fun h => by rw [Bd.returns] at h; cases h)
  refine ⟨_, _, pre0 _ ?_, hrun, hended, _, _, rfl, ?_, ⟨_, rfl⟩, hW, hsame.mono (by decide) (by decide)⟩
  -- 4. STEPS
  · show Steps p.tables e below (s₁.setTop (mkF m 0 #[.val (.long q1), .second, .val (.ref a2), .val (.int p3)] [])) _
    refine XS.iloadN X0.here hx rfl (hb hby d9_0) rfl ?_
    show Steps p.tables e below (s₁.setTop (mkF m 1 #[.val (.long q1), .second, .val (.ref a2), .val (.int p3)] [(.int p3)])) _
    refine XS.ifNo X0.here hx rfl (hb hby d9_1) rfl ((if0 _ _).trans (tlt hc1).2.2.2) ?_
    show Steps p.tables e below (s₁.setTop (mkF m 4 #[.val (.long q1), .second, .val (.ref a2), .val (.int p3)] [])) _
    refine XS.aloadN X0.here hx rfl (hb hby d9_4) rfl rfl ?_
    show Steps p.tables e below (s₁.setTop (mkF m 5 #[.val (.long q1), .second, .val (.ref a2), .val (.int p3)] [(.ref a2)])) _
    refine XS.iconst X0.here hx rfl (hb hby d9_5) ?_
    show Steps p.tables e below (s₁.setTop (mkF m 6 #[.val (.long q1), .second, .val (.ref a2), .val (.int p3)] [(.int (0 : Int32)), (.ref a2)])) _
    refine X0.laload hx (j := (0 : Int32)) (v := (.long w4)) (by rw [e0]; exact Ar_a2.1) (State.isArrayOf_alike hZ.alike Ar_a2.2.1) Ar_a2.2.2 hin6 hat6 (g := (mkF m 6 #[.val (.long q1), .second, .val (.ref a2), .val (.int p3)] [(.int (0 : Int32)), (.ref a2)])) rfl rfl (hb hby d9_6) _ ?_
    show Steps p.tables e below (s₁.setTop (mkF m 7 #[.val (.long q1), .second, .val (.ref a2), .val (.int p3)] [(.long w4)])) _
    refine XS.lloadN X0.here hx rfl (hb hby d9_7) rfl ?_
    show Steps p.tables e below (s₁.setTop (mkF m 8 #[.val (.long q1), .second, .val (.ref a2), .val (.int p3)] [(.long q1), (.long w4)])) _
    refine XS.lcmp X0.here hx rfl (hb hby d9_8) rfl ?_
    show Steps p.tables e below (s₁.setTop (mkF m 9 #[.val (.long q1), .second, .val (.ref a2), .val (.int p3)] [(.int (lcmpW w4 q1))])) _
    refine XS.ifNo X0.here hx rfl (hb hby d9_9) rfl ((if0 _ _).trans (feq hc9).1) ?_
    show Steps p.tables e below (s₁.setTop (mkF m 12 #[.val (.long q1), .second, .val (.ref a2), .val (.int p3)] [])) _
    refine XS.iloadN X0.here hx rfl (hb hby d9_12) rfl ?_
    show Steps p.tables e below (s₁.setTop (mkF m 13 #[.val (.long q1), .second, .val (.ref a2), .val (.int p3)] [(.int p3)])) _
    refine XS.iconst X0.here hx rfl (hb hby d9_13) ?_
    show Steps p.tables e below (s₁.setTop (mkF m 14 #[.val (.long q1), .second, .val (.ref a2), .val (.int p3)] [(.int (1 : Int32)), (.int p3)])) _
    refine XS.icmpNo X0.here hx rfl (hb hby d9_14) rfl (tlt hc14).2.2.2 ?_
    show Steps p.tables e below (s₁.setTop (mkF m 17 #[.val (.long q1), .second, .val (.ref a2), .val (.int p3)] [])) _
    refine XS.aloadN X0.here hx rfl (hb hby d9_17) rfl rfl ?_
    show Steps p.tables e below (s₁.setTop (mkF m 18 #[.val (.long q1), .second, .val (.ref a2), .val (.int p3)] [(.ref a2)])) _
    refine XS.iconst X0.here hx rfl (hb hby d9_18) ?_
    show Steps p.tables e below (s₁.setTop (mkF m 19 #[.val (.long q1), .second, .val (.ref a2), .val (.int p3)] [(.int (1 : Int32)), (.ref a2)])) _
    refine X0.laload hx (j := (1 : Int32)) (v := (.long w5)) (by rw [e0]; exact Ar_a2.1) (State.isArrayOf_alike hZ.alike Ar_a2.2.1) Ar_a2.2.2 hin19 hat19 (g := (mkF m 19 #[.val (.long q1), .second, .val (.ref a2), .val (.int p3)] [(.int (1 : Int32)), (.ref a2)])) rfl rfl (hb hby d9_19) _ ?_
    show Steps p.tables e below (s₁.setTop (mkF m 20 #[.val (.long q1), .second, .val (.ref a2), .val (.int p3)] [(.long w5)])) _
    refine XS.lloadN X0.here hx rfl (hb hby d9_20) rfl ?_
    show Steps p.tables e below (s₁.setTop (mkF m 21 #[.val (.long q1), .second, .val (.ref a2), .val (.int p3)] [(.long q1), (.long w5)])) _
    refine XS.lcmp X0.here hx rfl (hb hby d9_21) rfl ?_
    show Steps p.tables e below (s₁.setTop (mkF m 22 #[.val (.long q1), .second, .val (.ref a2), .val (.int p3)] [(.int (lcmpW w5 q1))])) _
    refine XS.ifYes X0.here hx rfl (pc0 := 22) (pc' := 38) rfl (hb hby d9_22) rfl ((if0 _ _).trans (teq hc22).1) (by decide) (by decide) ?_
    show Steps p.tables e below (s₁.setTop (mkF m 38 #[.val (.long q1), .second, .val (.ref a2), .val (.int p3)] [])) _
    refine XS.iconst X0.here hx rfl (hb hby d9_38) ?_
    show Steps p.tables e below (s₁.setTop (mkF m 39 #[.val (.long q1), .second, .val (.ref a2), .val (.int p3)] [(.int (1 : Int32))])) _
    refine XS.goto X0.here hx rfl (pc0 := 39) (pc' := 43) rfl (hb hby d9_39) (by decide) (by decide) ?_
    show Steps p.tables e below (s₁.setTop (mkF m 43 #[.val (.long q1), .second, .val (.ref a2), .val (.int p3)] [(.int (1 : Int32))])) _
    exact retN X0 hx (t := .boolean) Bd.returns (by simp) (hb hby d9_43) hr
  · show Q9b Z q1 a2 p3 w4 cl_a2 w5 h0 n0 _ s₁.heap _
    rw [e0]
    exact ⟨rfl, N0, rfl⟩
theorem d10_13 : decode method_4_code 13 = .ok (.aload_n 2, 1) := by decide +kernel
theorem d10_14 : decode method_4_code 14 = .ok (.arraylength, 1) := by decide +kernel
theorem d10_15 : decode method_4_code 15 = .ok (.iconst 1, 1) := by decide +kernel
theorem d10_16 : decode method_4_code 16 = .ok (.if_icmp .le 11, 3) := by decide +kernel
theorem d10_19 : decode method_4_code 19 = .ok (.aload_n 2, 1) := by decide +kernel
theorem d10_20 : decode method_4_code 20 = .ok (.iconst 1, 1) := by decide +kernel
theorem d10_21 : decode method_4_code 21 = .ok (.laload, 1) := by decide +kernel
theorem d10_22 : decode method_4_code 22 = .ok (.lload_n 0, 1) := by decide +kernel
theorem d10_23 : decode method_4_code 23 = .ok (.lcmp, 1) := by decide +kernel
theorem d10_24 : decode method_4_code 24 = .ok (.ifCond .eq 17, 3) := by decide +kernel
def Q10b (Z : State) (q1 : Int64) (a2 : Addr) (cl_a2 : Cell) (z_a2 : Int32) (w3 : Int64) (w4 : Int64) (h0 : Heap) (n0 : Nat) (v : Option Value) (h : Heap) (L : List Loc) : Prop := v = some (.int (1 : Int32)) ∧ Fr n0 L ∧ h = h0
set_option maxRecDepth 65536 in
set_option maxHeartbeats 40000000 in
theorem rm10b (l : Launch) (Z : State) (a0 : Array Value) (hw : ∀ d ∈ tables_1, d.before a0 Z = true) (ws : List Jvm.Cond) (q1 : Int64) (a2 : Addr) (cl_a2 : Cell) (z_a2 : Int32) (w3 : Int64) (w4 : Int64) (h0 : Heap) (n0 : Nat) (Z0 : n0 ≤ h0.size) (Ar_a2 : Arr Z h0 a2 cl_a2 .long) (S_a2 : cl_a2.slots.size = z_a2.toNatClampNeg) (N_a2 : ¬ z_a2 < 0) (hin7 : ¬ ((0 : Int32) < 0 ∨ cl_a2.slots.size ≤ ((0 : Int32)).toNatClampNeg)) (hat7 : cl_a2.slots[((0 : Int32)).toNatClampNeg]? = some (.long w3)) (hin21 : ¬ ((1 : Int32) < 0 ∨ cl_a2.slots.size ≤ ((1 : Int32)).toNatClampNeg)) (hat21 : cl_a2.slots[((1 : Int32)).toNatClampNeg]? = some (.long w4)) (hc2 : (0 : Int32) < z_a2) (hc10 : ¬ ((lcmpW w3 q1) = (0 : Int32))) (hc16 : (1 : Int32) < z_a2) (hc24 : (lcmpW w4 q1) = (0 : Int32)) :
    MetFree l (⟨"com/example/tideshift/tideshift/partition/AccessCountsKeysPinLaw", "inR", "(J[J)Z"⟩ : MethodName) (head1 (Jvm.Cond.code (⟨"com/example/tideshift/tideshift/partition/AccessCountsKeysPinLaw", "inR", "(J[J)Z"⟩ : MethodName) method_4_code 3 (some .boolean) :: ws) ({ frames := 0, cells := 0, slots := 0, locals := 0 } : Room)) (fun a U => a = #[(.long q1), (.ref a2)] ∧ Z.Warmed39 U.vm ∧ U.heap = h0) (fun _ _ _ _ _ => True) (fun _ U o U' => ∃ v L, o = .returned v ∧ Q10b Z q1 a2 cl_a2 z_a2 w3 w4 h0 n0 v U'.heap L ∧ FrameEnd U o U' L ({ frames := 0, cells := 0, slots := 0, locals := 0 } : Room).cells ({ frames := 0, cells := 0, slots := 0, locals := 0 } : Room).slots) := by
  refine MetFree.of_bodySF (plainFor_of_name pn_10) hisR ?_
  intro p e s m args below meth c s₁ Bd hml0 hP hK
  obtain ⟨rfl, hZ, hh⟩ := hP
  have hx := Bd.exec
  have hby := Bd.bytes
  have hml : c.maxLocals = 3 := hml0
  have hown : s.vm.findClass "com/example/tideshift/tideshift/partition/AccessCountsKeysPinLaw" = some m.cls := findClass_of_methodNamed Bd.named
  have hnm := (name_of_methodNamed Bd.named Bd.method).1
  have X0 : Stand p l e ({ frames := 0, cells := 0, slots := 0, locals := 0 } : Room) s m #[(.long q1), (.ref a2)] below meth c s₁ [] 0 0 := Stand.of_body Bd
  have e0 : s₁.heap = h0 := by rw [← hh, Bd.state]; rfl
  have N0 := Fr.nil n0
  have pre0 : ∀ t, Steps p.tables e below (s₁.setTop (mkF m 0 #[.val (.long q1), .second, .val (.ref a2)] [])) t → Steps p.tables e below (s₁.setTop (entryFrame m #[(.long q1), (.ref a2)] 3)) t := fun t k => castTop (ef_10 m q1 a2) k
  -- 3. LAWS

  obtain ⟨fs, hr, hrun, hended, hW, hsame⟩ := X0.leave (v := some (.int (1 : Int32))) (fun h => by rw [Bd.returns] at h; cases h)
  refine ⟨_, _, pre0 _ ?_, hrun, hended, _, _, rfl, ?_, ⟨_, rfl⟩, hW, hsame.mono (by decide) (by decide)⟩
  -- 4. STEPS
  · show Steps p.tables e below (s₁.setTop (mkF m 0 #[.val (.long q1), .second, .val (.ref a2)] [])) _
    refine XS.aloadN X0.here hx rfl (hb hby d10_0) rfl rfl ?_
    show Steps p.tables e below (s₁.setTop (mkF m 1 #[.val (.long q1), .second, .val (.ref a2)] [(.ref a2)])) _
    refine X0.arraylength hx (by rw [e0]; exact Ar_a2.1) (State.isArrayOf_alike hZ.alike Ar_a2.2.1) (g := (mkF m 1 #[.val (.long q1), .second, .val (.ref a2)] [(.ref a2)])) rfl rfl (hb hby d10_1) _ ?_
    rw [len_of S_a2 N_a2]
    show Steps p.tables e below (s₁.setTop (mkF m 2 #[.val (.long q1), .second, .val (.ref a2)] [(.int z_a2)])) _
    refine XS.ifNo X0.here hx rfl (hb hby d10_2) rfl ((if0 _ _).trans (tlt hc2).2.2.2) ?_
    show Steps p.tables e below (s₁.setTop (mkF m 5 #[.val (.long q1), .second, .val (.ref a2)] [])) _
    refine XS.aloadN X0.here hx rfl (hb hby d10_5) rfl rfl ?_
    show Steps p.tables e below (s₁.setTop (mkF m 6 #[.val (.long q1), .second, .val (.ref a2)] [(.ref a2)])) _
    refine XS.iconst X0.here hx rfl (hb hby d10_6) ?_
    show Steps p.tables e below (s₁.setTop (mkF m 7 #[.val (.long q1), .second, .val (.ref a2)] [(.int (0 : Int32)), (.ref a2)])) _
    refine X0.laload hx (j := (0 : Int32)) (v := (.long w3)) (by rw [e0]; exact Ar_a2.1) (State.isArrayOf_alike hZ.alike Ar_a2.2.1) Ar_a2.2.2 hin7 hat7 (g := (mkF m 7 #[.val (.long q1), .second, .val (.ref a2)] [(.int (0 : Int32)), (.ref a2)])) rfl rfl (hb hby d10_7) _ ?_
    show Steps p.tables e below (s₁.setTop (mkF m 8 #[.val (.long q1), .second, .val (.ref a2)] [(.long w3)])) _
    refine XS.lloadN X0.here hx rfl (hb hby d10_8) rfl ?_
    show Steps p.tables e below (s₁.setTop (mkF m 9 #[.val (.long q1), .second, .val (.ref a2)] [(.long q1), (.long w3)])) _
    refine XS.lcmp X0.here hx rfl (hb hby d10_9) rfl ?_
    show Steps p.tables e below (s₁.setTop (mkF m 10 #[.val (.long q1), .second, .val (.ref a2)] [(.int (lcmpW w3 q1))])) _
    refine XS.ifNo X0.here hx rfl (hb hby d10_10) rfl ((if0 _ _).trans (feq hc10).1) ?_
    show Steps p.tables e below (s₁.setTop (mkF m 13 #[.val (.long q1), .second, .val (.ref a2)] [])) _
    refine XS.aloadN X0.here hx rfl (hb hby d10_13) rfl rfl ?_
    show Steps p.tables e below (s₁.setTop (mkF m 14 #[.val (.long q1), .second, .val (.ref a2)] [(.ref a2)])) _
    refine X0.arraylength hx (by rw [e0]; exact Ar_a2.1) (State.isArrayOf_alike hZ.alike Ar_a2.2.1) (g := (mkF m 14 #[.val (.long q1), .second, .val (.ref a2)] [(.ref a2)])) rfl rfl (hb hby d10_14) _ ?_
    rw [len_of S_a2 N_a2]
    show Steps p.tables e below (s₁.setTop (mkF m 15 #[.val (.long q1), .second, .val (.ref a2)] [(.int z_a2)])) _
    refine XS.iconst X0.here hx rfl (hb hby d10_15) ?_
    show Steps p.tables e below (s₁.setTop (mkF m 16 #[.val (.long q1), .second, .val (.ref a2)] [(.int (1 : Int32)), (.int z_a2)])) _
    refine XS.icmpNo X0.here hx rfl (hb hby d10_16) rfl (tlt hc16).2.2.2 ?_
    show Steps p.tables e below (s₁.setTop (mkF m 19 #[.val (.long q1), .second, .val (.ref a2)] [])) _
    refine XS.aloadN X0.here hx rfl (hb hby d10_19) rfl rfl ?_
    show Steps p.tables e below (s₁.setTop (mkF m 20 #[.val (.long q1), .second, .val (.ref a2)] [(.ref a2)])) _
    refine XS.iconst X0.here hx rfl (hb hby d10_20) ?_
    show Steps p.tables e below (s₁.setTop (mkF m 21 #[.val (.long q1), .second, .val (.ref a2)] [(.int (1 : Int32)), (.ref a2)])) _
    refine X0.laload hx (j := (1 : Int32)) (v := (.long w4)) (by rw [e0]; exact Ar_a2.1) (State.isArrayOf_alike hZ.alike Ar_a2.2.1) Ar_a2.2.2 hin21 hat21 (g := (mkF m 21 #[.val (.long q1), .second, .val (.ref a2)] [(.int (1 : Int32)), (.ref a2)])) rfl rfl (hb hby d10_21) _ ?_
    show Steps p.tables e below (s₁.setTop (mkF m 22 #[.val (.long q1), .second, .val (.ref a2)] [(.long w4)])) _
    refine XS.lloadN X0.here hx rfl (hb hby d10_22) rfl ?_
    show Steps p.tables e below (s₁.setTop (mkF m 23 #[.val (.long q1), .second, .val (.ref a2)] [(.long q1), (.long w4)])) _
    refine XS.lcmp X0.here hx rfl (hb hby d10_23) rfl ?_
    show Steps p.tables e below (s₁.setTop (mkF m 24 #[.val (.long q1), .second, .val (.ref a2)] [(.int (lcmpW w4 q1))])) _
    refine XS.ifYes X0.here hx rfl (pc0 := 24) (pc' := 41) rfl (hb hby d10_24) rfl ((if0 _ _).trans (teq hc24).1) (by decide) (by decide) ?_
    show Steps p.tables e below (s₁.setTop (mkF m 41 #[.val (.long q1), .second, .val (.ref a2)] [])) _
    refine XS.iconst X0.here hx rfl (hb hby d10_41) ?_
    show Steps p.tables e below (s₁.setTop (mkF m 42 #[.val (.long q1), .second, .val (.ref a2)] [(.int (1 : Int32))])) _
    refine XS.goto X0.here hx rfl (pc0 := 42) (pc' := 46) rfl (hb hby d10_42) (by decide) (by decide) ?_
    show Steps p.tables e below (s₁.setTop (mkF m 46 #[.val (.long q1), .second, .val (.ref a2)] [(.int (1 : Int32))])) _
    exact retN X0 hx (t := .boolean) Bd.returns (by simp) (hb hby d10_46) hr
  · show Q10b Z q1 a2 cl_a2 z_a2 w3 w4 h0 n0 _ s₁.heap _
    rw [e0]
    exact ⟨rfl, N0, rfl⟩
theorem d9_25 : decode method_3_code 25 = .ok (.iload_n 3, 1) := by decide +kernel
theorem d9_26 : decode method_3_code 26 = .ok (.iconst 2, 1) := by decide +kernel
theorem d9_27 : decode method_3_code 27 = .ok (.if_icmp .le 15, 3) := by decide +kernel
theorem d9_30 : decode method_3_code 30 = .ok (.aload_n 2, 1) := by decide +kernel
theorem d9_31 : decode method_3_code 31 = .ok (.iconst 2, 1) := by decide +kernel
theorem d9_32 : decode method_3_code 32 = .ok (.laload, 1) := by decide +kernel
theorem d9_33 : decode method_3_code 33 = .ok (.lload_n 0, 1) := by decide +kernel
theorem d9_34 : decode method_3_code 34 = .ok (.lcmp, 1) := by decide +kernel
theorem d9_35 : decode method_3_code 35 = .ok (.ifCond .ne 7, 3) := by decide +kernel
def Q9c (Z : State) (q1 : Int64) (a2 : Addr) (p3 : Int32) (w4 : Int64) (cl_a2 : Cell) (w5 : Int64) (w6 : Int64) (h0 : Heap) (n0 : Nat) (v : Option Value) (h : Heap) (L : List Loc) : Prop := v = some (.int (1 : Int32)) ∧ Fr n0 L ∧ h = h0
set_option maxRecDepth 65536 in
set_option maxHeartbeats 40000000 in
theorem rm9c (l : Launch) (Z : State) (a0 : Array Value) (hw : ∀ d ∈ tables_1, d.before a0 Z = true) (ws : List Jvm.Cond) (q1 : Int64) (a2 : Addr) (p3 : Int32) (w4 : Int64) (cl_a2 : Cell) (w5 : Int64) (w6 : Int64) (h0 : Heap) (n0 : Nat) (Z0 : n0 ≤ h0.size) (Ar_a2 : Arr Z h0 a2 cl_a2 .long) (hin6 : ¬ ((0 : Int32) < 0 ∨ cl_a2.slots.size ≤ ((0 : Int32)).toNatClampNeg)) (hat6 : cl_a2.slots[((0 : Int32)).toNatClampNeg]? = some (.long w4)) (hin19 : ¬ ((1 : Int32) < 0 ∨ cl_a2.slots.size ≤ ((1 : Int32)).toNatClampNeg)) (hat19 : cl_a2.slots[((1 : Int32)).toNatClampNeg]? = some (.long w5)) (hin32 : ¬ ((2 : Int32) < 0 ∨ cl_a2.slots.size ≤ ((2 : Int32)).toNatClampNeg)) (hat32 : cl_a2.slots[((2 : Int32)).toNatClampNeg]? = some (.long w6)) (hc1 : (0 : Int32) < p3) (hc9 : ¬ ((lcmpW w4 q1) = (0 : Int32))) (hc14 : (1 : Int32) < p3) (hc22 : ¬ ((lcmpW w5 q1) = (0 : Int32))) (hc27 : (2 : Int32) < p3) (hc35 : (lcmpW w6 q1) = (0 : Int32)) :
    MetFree l (⟨"com/example/tideshift/tideshift/partition/AccessCountsKeysPinLaw", "inE", "(J[JI)Z"⟩ : MethodName) (head1 (Jvm.Cond.code (⟨"com/example/tideshift/tideshift/partition/AccessCountsKeysPinLaw", "inE", "(J[JI)Z"⟩ : MethodName) method_3_code 4 (some .boolean) :: ws) ({ frames := 0, cells := 0, slots := 0, locals := 0 } : Room)) (fun a U => a = #[(.long q1), (.ref a2), (.int p3)] ∧ Z.Warmed39 U.vm ∧ U.heap = h0) (fun _ _ _ _ _ => True) (fun _ U o U' => ∃ v L, o = .returned v ∧ Q9c Z q1 a2 p3 w4 cl_a2 w5 w6 h0 n0 v U'.heap L ∧ FrameEnd U o U' L ({ frames := 0, cells := 0, slots := 0, locals := 0 } : Room).cells ({ frames := 0, cells := 0, slots := 0, locals := 0 } : Room).slots) := by
  refine MetFree.of_bodySF (plainFor_of_name pn_9) hisR ?_
  intro p e s m args below meth c s₁ Bd hml0 hP hK
  obtain ⟨rfl, hZ, hh⟩ := hP
  have hx := Bd.exec
  have hby := Bd.bytes
  have hml : c.maxLocals = 4 := hml0
  have hown : s.vm.findClass "com/example/tideshift/tideshift/partition/AccessCountsKeysPinLaw" = some m.cls := findClass_of_methodNamed Bd.named
  have hnm := (name_of_methodNamed Bd.named Bd.method).1
  have X0 : Stand p l e ({ frames := 0, cells := 0, slots := 0, locals := 0 } : Room) s m #[(.long q1), (.ref a2), (.int p3)] below meth c s₁ [] 0 0 := Stand.of_body Bd
  have e0 : s₁.heap = h0 := by rw [← hh, Bd.state]; rfl
  have N0 := Fr.nil n0
  have pre0 : ∀ t, Steps p.tables e below (s₁.setTop (mkF m 0 #[.val (.long q1), .second, .val (.ref a2), .val (.int p3)] [])) t → Steps p.tables e below (s₁.setTop (entryFrame m #[(.long q1), (.ref a2), (.int p3)] 4)) t := fun t k => castTop (ef_9 m q1 a2 p3) k
  -- 3. LAWS

  obtain ⟨fs, hr, hrun, hended, hW, hsame⟩ := X0.leave (v := some (.int (1 : Int32))) (fun h => by rw [Bd.returns] at h; cases h)
  refine ⟨_, _, pre0 _ ?_, hrun, hended, _, _, rfl, ?_, ⟨_, rfl⟩, hW, hsame.mono (by decide) (by decide)⟩
  -- 4. STEPS
  · show Steps p.tables e below (s₁.setTop (mkF m 0 #[.val (.long q1), .second, .val (.ref a2), .val (.int p3)] [])) _
    refine XS.iloadN X0.here hx rfl (hb hby d9_0) rfl ?_
    show Steps p.tables e below (s₁.setTop (mkF m 1 #[.val (.long q1), .second, .val (.ref a2), .val (.int p3)] [(.int p3)])) _
    refine XS.ifNo X0.here hx rfl (hb hby d9_1) rfl ((if0 _ _).trans (tlt hc1).2.2.2) ?_
    show Steps p.tables e below (s₁.setTop (mkF m 4 #[.val (.long q1), .second, .val (.ref a2), .val (.int p3)] [])) _
    refine XS.aloadN X0.here hx rfl (hb hby d9_4) rfl rfl ?_
    show Steps p.tables e below (s₁.setTop (mkF m 5 #[.val (.long q1), .second, .val (.ref a2), .val (.int p3)] [(.ref a2)])) _
    refine XS.iconst X0.here hx rfl (hb hby d9_5) ?_
    show Steps p.tables e below (s₁.setTop (mkF m 6 #[.val (.long q1), .second, .val (.ref a2), .val (.int p3)] [(.int (0 : Int32)), (.ref a2)])) _
    refine X0.laload hx (j := (0 : Int32)) (v := (.long w4)) (by rw [e0]; exact Ar_a2.1) (State.isArrayOf_alike hZ.alike Ar_a2.2.1) Ar_a2.2.2 hin6 hat6 (g := (mkF m 6 #[.val (.long q1), .second, .val (.ref a2), .val (.int p3)] [(.int (0 : Int32)), (.ref a2)])) rfl rfl (hb hby d9_6) _ ?_
    show Steps p.tables e below (s₁.setTop (mkF m 7 #[.val (.long q1), .second, .val (.ref a2), .val (.int p3)] [(.long w4)])) _
    refine XS.lloadN X0.here hx rfl (hb hby d9_7) rfl ?_
    show Steps p.tables e below (s₁.setTop (mkF m 8 #[.val (.long q1), .second, .val (.ref a2), .val (.int p3)] [(.long q1), (.long w4)])) _
    refine XS.lcmp X0.here hx rfl (hb hby d9_8) rfl ?_
    show Steps p.tables e below (s₁.setTop (mkF m 9 #[.val (.long q1), .second, .val (.ref a2), .val (.int p3)] [(.int (lcmpW w4 q1))])) _
    refine XS.ifNo X0.here hx rfl (hb hby d9_9) rfl ((if0 _ _).trans (feq hc9).1) ?_
    show Steps p.tables e below (s₁.setTop (mkF m 12 #[.val (.long q1), .second, .val (.ref a2), .val (.int p3)] [])) _
    refine XS.iloadN X0.here hx rfl (hb hby d9_12) rfl ?_
    show Steps p.tables e below (s₁.setTop (mkF m 13 #[.val (.long q1), .second, .val (.ref a2), .val (.int p3)] [(.int p3)])) _
    refine XS.iconst X0.here hx rfl (hb hby d9_13) ?_
    show Steps p.tables e below (s₁.setTop (mkF m 14 #[.val (.long q1), .second, .val (.ref a2), .val (.int p3)] [(.int (1 : Int32)), (.int p3)])) _
    refine XS.icmpNo X0.here hx rfl (hb hby d9_14) rfl (tlt hc14).2.2.2 ?_
    show Steps p.tables e below (s₁.setTop (mkF m 17 #[.val (.long q1), .second, .val (.ref a2), .val (.int p3)] [])) _
    refine XS.aloadN X0.here hx rfl (hb hby d9_17) rfl rfl ?_
    show Steps p.tables e below (s₁.setTop (mkF m 18 #[.val (.long q1), .second, .val (.ref a2), .val (.int p3)] [(.ref a2)])) _
    refine XS.iconst X0.here hx rfl (hb hby d9_18) ?_
    show Steps p.tables e below (s₁.setTop (mkF m 19 #[.val (.long q1), .second, .val (.ref a2), .val (.int p3)] [(.int (1 : Int32)), (.ref a2)])) _
    refine X0.laload hx (j := (1 : Int32)) (v := (.long w5)) (by rw [e0]; exact Ar_a2.1) (State.isArrayOf_alike hZ.alike Ar_a2.2.1) Ar_a2.2.2 hin19 hat19 (g := (mkF m 19 #[.val (.long q1), .second, .val (.ref a2), .val (.int p3)] [(.int (1 : Int32)), (.ref a2)])) rfl rfl (hb hby d9_19) _ ?_
    show Steps p.tables e below (s₁.setTop (mkF m 20 #[.val (.long q1), .second, .val (.ref a2), .val (.int p3)] [(.long w5)])) _
    refine XS.lloadN X0.here hx rfl (hb hby d9_20) rfl ?_
    show Steps p.tables e below (s₁.setTop (mkF m 21 #[.val (.long q1), .second, .val (.ref a2), .val (.int p3)] [(.long q1), (.long w5)])) _
    refine XS.lcmp X0.here hx rfl (hb hby d9_21) rfl ?_
    show Steps p.tables e below (s₁.setTop (mkF m 22 #[.val (.long q1), .second, .val (.ref a2), .val (.int p3)] [(.int (lcmpW w5 q1))])) _
    refine XS.ifNo X0.here hx rfl (hb hby d9_22) rfl ((if0 _ _).trans (feq hc22).1) ?_
    show Steps p.tables e below (s₁.setTop (mkF m 25 #[.val (.long q1), .second, .val (.ref a2), .val (.int p3)] [])) _
    refine XS.iloadN X0.here hx rfl (hb hby d9_25) rfl ?_
    show Steps p.tables e below (s₁.setTop (mkF m 26 #[.val (.long q1), .second, .val (.ref a2), .val (.int p3)] [(.int p3)])) _
    refine XS.iconst X0.here hx rfl (hb hby d9_26) ?_
    show Steps p.tables e below (s₁.setTop (mkF m 27 #[.val (.long q1), .second, .val (.ref a2), .val (.int p3)] [(.int (2 : Int32)), (.int p3)])) _
    refine XS.icmpNo X0.here hx rfl (hb hby d9_27) rfl (tlt hc27).2.2.2 ?_
    show Steps p.tables e below (s₁.setTop (mkF m 30 #[.val (.long q1), .second, .val (.ref a2), .val (.int p3)] [])) _
    refine XS.aloadN X0.here hx rfl (hb hby d9_30) rfl rfl ?_
    show Steps p.tables e below (s₁.setTop (mkF m 31 #[.val (.long q1), .second, .val (.ref a2), .val (.int p3)] [(.ref a2)])) _
    refine XS.iconst X0.here hx rfl (hb hby d9_31) ?_
    show Steps p.tables e below (s₁.setTop (mkF m 32 #[.val (.long q1), .second, .val (.ref a2), .val (.int p3)] [(.int (2 : Int32)), (.ref a2)])) _
    refine X0.laload hx (j := (2 : Int32)) (v := (.long w6)) (by rw [e0]; exact Ar_a2.1) (State.isArrayOf_alike hZ.alike Ar_a2.2.1) Ar_a2.2.2 hin32 hat32 (g := (mkF m 32 #[.val (.long q1), .second, .val (.ref a2), .val (.int p3)] [(.int (2 : Int32)), (.ref a2)])) rfl rfl (hb hby d9_32) _ ?_
    show Steps p.tables e below (s₁.setTop (mkF m 33 #[.val (.long q1), .second, .val (.ref a2), .val (.int p3)] [(.long w6)])) _
    refine XS.lloadN X0.here hx rfl (hb hby d9_33) rfl ?_
    show Steps p.tables e below (s₁.setTop (mkF m 34 #[.val (.long q1), .second, .val (.ref a2), .val (.int p3)] [(.long q1), (.long w6)])) _
    refine XS.lcmp X0.here hx rfl (hb hby d9_34) rfl ?_
    show Steps p.tables e below (s₁.setTop (mkF m 35 #[.val (.long q1), .second, .val (.ref a2), .val (.int p3)] [(.int (lcmpW w6 q1))])) _
    refine XS.ifNo X0.here hx rfl (hb hby d9_35) rfl ((if0 _ _).trans (teq hc35).2) ?_
    show Steps p.tables e below (s₁.setTop (mkF m 38 #[.val (.long q1), .second, .val (.ref a2), .val (.int p3)] [])) _
    refine XS.iconst X0.here hx rfl (hb hby d9_38) ?_
    show Steps p.tables e below (s₁.setTop (mkF m 39 #[.val (.long q1), .second, .val (.ref a2), .val (.int p3)] [(.int (1 : Int32))])) _
    refine XS.goto X0.here hx rfl (pc0 := 39) (pc' := 43) rfl (hb hby d9_39) (by decide) (by decide) ?_
    show Steps p.tables e below (s₁.setTop (mkF m 43 #[.val (.long q1), .second, .val (.ref a2), .val (.int p3)] [(.int (1 : Int32))])) _
    exact retN X0 hx (t := .boolean) Bd.returns (by simp) (hb hby d9_43) hr
  · show Q9c Z q1 a2 p3 w4 cl_a2 w5 w6 h0 n0 _ s₁.heap _
    rw [e0]
    exact ⟨rfl, N0, rfl⟩
theorem d10_27 : decode method_4_code 27 = .ok (.aload_n 2, 1) := by decide +kernel
theorem d10_28 : decode method_4_code 28 = .ok (.arraylength, 1) := by decide +kernel
theorem d10_29 : decode method_4_code 29 = .ok (.iconst 2, 1) := by decide +kernel
theorem d10_30 : decode method_4_code 30 = .ok (.if_icmp .le 15, 3) := by decide +kernel
theorem d10_33 : decode method_4_code 33 = .ok (.aload_n 2, 1) := by decide +kernel
theorem d10_34 : decode method_4_code 34 = .ok (.iconst 2, 1) := by decide +kernel
theorem d10_35 : decode method_4_code 35 = .ok (.laload, 1) := by decide +kernel
theorem d10_36 : decode method_4_code 36 = .ok (.lload_n 0, 1) := by decide +kernel
theorem d10_37 : decode method_4_code 37 = .ok (.lcmp, 1) := by decide +kernel
theorem d10_38 : decode method_4_code 38 = .ok (.ifCond .ne 7, 3) := by decide +kernel
def Q10c (Z : State) (q1 : Int64) (a2 : Addr) (cl_a2 : Cell) (z_a2 : Int32) (w3 : Int64) (w4 : Int64) (w5 : Int64) (h0 : Heap) (n0 : Nat) (v : Option Value) (h : Heap) (L : List Loc) : Prop := v = some (.int (1 : Int32)) ∧ Fr n0 L ∧ h = h0
set_option maxRecDepth 65536 in
set_option maxHeartbeats 40000000 in
theorem rm10c (l : Launch) (Z : State) (a0 : Array Value) (hw : ∀ d ∈ tables_1, d.before a0 Z = true) (ws : List Jvm.Cond) (q1 : Int64) (a2 : Addr) (cl_a2 : Cell) (z_a2 : Int32) (w3 : Int64) (w4 : Int64) (w5 : Int64) (h0 : Heap) (n0 : Nat) (Z0 : n0 ≤ h0.size) (Ar_a2 : Arr Z h0 a2 cl_a2 .long) (S_a2 : cl_a2.slots.size = z_a2.toNatClampNeg) (N_a2 : ¬ z_a2 < 0) (hin7 : ¬ ((0 : Int32) < 0 ∨ cl_a2.slots.size ≤ ((0 : Int32)).toNatClampNeg)) (hat7 : cl_a2.slots[((0 : Int32)).toNatClampNeg]? = some (.long w3)) (hin21 : ¬ ((1 : Int32) < 0 ∨ cl_a2.slots.size ≤ ((1 : Int32)).toNatClampNeg)) (hat21 : cl_a2.slots[((1 : Int32)).toNatClampNeg]? = some (.long w4)) (hin35 : ¬ ((2 : Int32) < 0 ∨ cl_a2.slots.size ≤ ((2 : Int32)).toNatClampNeg)) (hat35 : cl_a2.slots[((2 : Int32)).toNatClampNeg]? = some (.long w5)) (hc2 : (0 : Int32) < z_a2) (hc10 : ¬ ((lcmpW w3 q1) = (0 : Int32))) (hc16 : (1 : Int32) < z_a2) (hc24 : ¬ ((lcmpW w4 q1) = (0 : Int32))) (hc30 : (2 : Int32) < z_a2) (hc38 : (lcmpW w5 q1) = (0 : Int32)) :
    MetFree l (⟨"com/example/tideshift/tideshift/partition/AccessCountsKeysPinLaw", "inR", "(J[J)Z"⟩ : MethodName) (head1 (Jvm.Cond.code (⟨"com/example/tideshift/tideshift/partition/AccessCountsKeysPinLaw", "inR", "(J[J)Z"⟩ : MethodName) method_4_code 3 (some .boolean) :: ws) ({ frames := 0, cells := 0, slots := 0, locals := 0 } : Room)) (fun a U => a = #[(.long q1), (.ref a2)] ∧ Z.Warmed39 U.vm ∧ U.heap = h0) (fun _ _ _ _ _ => True) (fun _ U o U' => ∃ v L, o = .returned v ∧ Q10c Z q1 a2 cl_a2 z_a2 w3 w4 w5 h0 n0 v U'.heap L ∧ FrameEnd U o U' L ({ frames := 0, cells := 0, slots := 0, locals := 0 } : Room).cells ({ frames := 0, cells := 0, slots := 0, locals := 0 } : Room).slots) := by
  refine MetFree.of_bodySF (plainFor_of_name pn_10) hisR ?_
  intro p e s m args below meth c s₁ Bd hml0 hP hK
  obtain ⟨rfl, hZ, hh⟩ := hP
  have hx := Bd.exec
  have hby := Bd.bytes
  have hml : c.maxLocals = 3 := hml0
  have hown : s.vm.findClass "com/example/tideshift/tideshift/partition/AccessCountsKeysPinLaw" = some m.cls := findClass_of_methodNamed Bd.named
  have hnm := (name_of_methodNamed Bd.named Bd.method).1
  have X0 : Stand p l e ({ frames := 0, cells := 0, slots := 0, locals := 0 } : Room) s m #[(.long q1), (.ref a2)] below meth c s₁ [] 0 0 := Stand.of_body Bd
  have e0 : s₁.heap = h0 := by rw [← hh, Bd.state]; rfl
  have N0 := Fr.nil n0
  have pre0 : ∀ t, Steps p.tables e below (s₁.setTop (mkF m 0 #[.val (.long q1), .second, .val (.ref a2)] [])) t → Steps p.tables e below (s₁.setTop (entryFrame m #[(.long q1), (.ref a2)] 3)) t := fun t k => castTop (ef_10 m q1 a2) k
  -- 3. LAWS

  obtain ⟨fs, hr, hrun, hended, hW, hsame⟩ := X0.leave (v := some (.int (1 : Int32))) (fun h => by rw [Bd.returns] at h; cases h)
  refine ⟨_, _, pre0 _ ?_, hrun, hended, _, _, rfl, ?_, ⟨_, rfl⟩, hW, hsame.mono (by decide) (by decide)⟩
  -- 4. STEPS
  · show Steps p.tables e below (s₁.setTop (mkF m 0 #[.val (.long q1), .second, .val (.ref a2)] [])) _
    refine XS.aloadN X0.here hx rfl (hb hby d10_0) rfl rfl ?_
    show Steps p.tables e below (s₁.setTop (mkF m 1 #[.val (.long q1), .second, .val (.ref a2)] [(.ref a2)])) _
    refine X0.arraylength hx (by rw [e0]; exact Ar_a2.1) (State.isArrayOf_alike hZ.alike Ar_a2.2.1) (g := (mkF m 1 #[.val (.long q1), .second, .val (.ref a2)] [(.ref a2)])) rfl rfl (hb hby d10_1) _ ?_
    rw [len_of S_a2 N_a2]
    show Steps p.tables e below (s₁.setTop (mkF m 2 #[.val (.long q1), .second, .val (.ref a2)] [(.int z_a2)])) _
    refine XS.ifNo X0.here hx rfl (hb hby d10_2) rfl ((if0 _ _).trans (tlt hc2).2.2.2) ?_
    show Steps p.tables e below (s₁.setTop (mkF m 5 #[.val (.long q1), .second, .val (.ref a2)] [])) _
    refine XS.aloadN X0.here hx rfl (hb hby d10_5) rfl rfl ?_
    show Steps p.tables e below (s₁.setTop (mkF m 6 #[.val (.long q1), .second, .val (.ref a2)] [(.ref a2)])) _
    refine XS.iconst X0.here hx rfl (hb hby d10_6) ?_
    show Steps p.tables e below (s₁.setTop (mkF m 7 #[.val (.long q1), .second, .val (.ref a2)] [(.int (0 : Int32)), (.ref a2)])) _
    refine X0.laload hx (j := (0 : Int32)) (v := (.long w3)) (by rw [e0]; exact Ar_a2.1) (State.isArrayOf_alike hZ.alike Ar_a2.2.1) Ar_a2.2.2 hin7 hat7 (g := (mkF m 7 #[.val (.long q1), .second, .val (.ref a2)] [(.int (0 : Int32)), (.ref a2)])) rfl rfl (hb hby d10_7) _ ?_
    show Steps p.tables e below (s₁.setTop (mkF m 8 #[.val (.long q1), .second, .val (.ref a2)] [(.long w3)])) _
    refine XS.lloadN X0.here hx rfl (hb hby d10_8) rfl ?_
    show Steps p.tables e below (s₁.setTop (mkF m 9 #[.val (.long q1), .second, .val (.ref a2)] [(.long q1), (.long w3)])) _
    refine XS.lcmp X0.here hx rfl (hb hby d10_9) rfl ?_
    show Steps p.tables e below (s₁.setTop (mkF m 10 #[.val (.long q1), .second, .val (.ref a2)] [(.int (lcmpW w3 q1))])) _
    refine XS.ifNo X0.here hx rfl (hb hby d10_10) rfl ((if0 _ _).trans (feq hc10).1) ?_
    show Steps p.tables e below (s₁.setTop (mkF m 13 #[.val (.long q1), .second, .val (.ref a2)] [])) _
    refine XS.aloadN X0.here hx rfl (hb hby d10_13) rfl rfl ?_
    show Steps p.tables e below (s₁.setTop (mkF m 14 #[.val (.long q1), .second, .val (.ref a2)] [(.ref a2)])) _
    refine X0.arraylength hx (by rw [e0]; exact Ar_a2.1) (State.isArrayOf_alike hZ.alike Ar_a2.2.1) (g := (mkF m 14 #[.val (.long q1), .second, .val (.ref a2)] [(.ref a2)])) rfl rfl (hb hby d10_14) _ ?_
    rw [len_of S_a2 N_a2]
    show Steps p.tables e below (s₁.setTop (mkF m 15 #[.val (.long q1), .second, .val (.ref a2)] [(.int z_a2)])) _
    refine XS.iconst X0.here hx rfl (hb hby d10_15) ?_
    show Steps p.tables e below (s₁.setTop (mkF m 16 #[.val (.long q1), .second, .val (.ref a2)] [(.int (1 : Int32)), (.int z_a2)])) _
    refine XS.icmpNo X0.here hx rfl (hb hby d10_16) rfl (tlt hc16).2.2.2 ?_
    show Steps p.tables e below (s₁.setTop (mkF m 19 #[.val (.long q1), .second, .val (.ref a2)] [])) _
    refine XS.aloadN X0.here hx rfl (hb hby d10_19) rfl rfl ?_
    show Steps p.tables e below (s₁.setTop (mkF m 20 #[.val (.long q1), .second, .val (.ref a2)] [(.ref a2)])) _
    refine XS.iconst X0.here hx rfl (hb hby d10_20) ?_
    show Steps p.tables e below (s₁.setTop (mkF m 21 #[.val (.long q1), .second, .val (.ref a2)] [(.int (1 : Int32)), (.ref a2)])) _
    refine X0.laload hx (j := (1 : Int32)) (v := (.long w4)) (by rw [e0]; exact Ar_a2.1) (State.isArrayOf_alike hZ.alike Ar_a2.2.1) Ar_a2.2.2 hin21 hat21 (g := (mkF m 21 #[.val (.long q1), .second, .val (.ref a2)] [(.int (1 : Int32)), (.ref a2)])) rfl rfl (hb hby d10_21) _ ?_
    show Steps p.tables e below (s₁.setTop (mkF m 22 #[.val (.long q1), .second, .val (.ref a2)] [(.long w4)])) _
    refine XS.lloadN X0.here hx rfl (hb hby d10_22) rfl ?_
    show Steps p.tables e below (s₁.setTop (mkF m 23 #[.val (.long q1), .second, .val (.ref a2)] [(.long q1), (.long w4)])) _
    refine XS.lcmp X0.here hx rfl (hb hby d10_23) rfl ?_
    show Steps p.tables e below (s₁.setTop (mkF m 24 #[.val (.long q1), .second, .val (.ref a2)] [(.int (lcmpW w4 q1))])) _
    refine XS.ifNo X0.here hx rfl (hb hby d10_24) rfl ((if0 _ _).trans (feq hc24).1) ?_
    show Steps p.tables e below (s₁.setTop (mkF m 27 #[.val (.long q1), .second, .val (.ref a2)] [])) _
    refine XS.aloadN X0.here hx rfl (hb hby d10_27) rfl rfl ?_
    show Steps p.tables e below (s₁.setTop (mkF m 28 #[.val (.long q1), .second, .val (.ref a2)] [(.ref a2)])) _
    refine X0.arraylength hx (by rw [e0]; exact Ar_a2.1) (State.isArrayOf_alike hZ.alike Ar_a2.2.1) (g := (mkF m 28 #[.val (.long q1), .second, .val (.ref a2)] [(.ref a2)])) rfl rfl (hb hby d10_28) _ ?_
    rw [len_of S_a2 N_a2]
    show Steps p.tables e below (s₁.setTop (mkF m 29 #[.val (.long q1), .second, .val (.ref a2)] [(.int z_a2)])) _
    refine XS.iconst X0.here hx rfl (hb hby d10_29) ?_
    show Steps p.tables e below (s₁.setTop (mkF m 30 #[.val (.long q1), .second, .val (.ref a2)] [(.int (2 : Int32)), (.int z_a2)])) _
    refine XS.icmpNo X0.here hx rfl (hb hby d10_30) rfl (tlt hc30).2.2.2 ?_
    show Steps p.tables e below (s₁.setTop (mkF m 33 #[.val (.long q1), .second, .val (.ref a2)] [])) _
    refine XS.aloadN X0.here hx rfl (hb hby d10_33) rfl rfl ?_
    show Steps p.tables e below (s₁.setTop (mkF m 34 #[.val (.long q1), .second, .val (.ref a2)] [(.ref a2)])) _
    refine XS.iconst X0.here hx rfl (hb hby d10_34) ?_
    show Steps p.tables e below (s₁.setTop (mkF m 35 #[.val (.long q1), .second, .val (.ref a2)] [(.int (2 : Int32)), (.ref a2)])) _
    refine X0.laload hx (j := (2 : Int32)) (v := (.long w5)) (by rw [e0]; exact Ar_a2.1) (State.isArrayOf_alike hZ.alike Ar_a2.2.1) Ar_a2.2.2 hin35 hat35 (g := (mkF m 35 #[.val (.long q1), .second, .val (.ref a2)] [(.int (2 : Int32)), (.ref a2)])) rfl rfl (hb hby d10_35) _ ?_
    show Steps p.tables e below (s₁.setTop (mkF m 36 #[.val (.long q1), .second, .val (.ref a2)] [(.long w5)])) _
    refine XS.lloadN X0.here hx rfl (hb hby d10_36) rfl ?_
    show Steps p.tables e below (s₁.setTop (mkF m 37 #[.val (.long q1), .second, .val (.ref a2)] [(.long q1), (.long w5)])) _
    refine XS.lcmp X0.here hx rfl (hb hby d10_37) rfl ?_
    show Steps p.tables e below (s₁.setTop (mkF m 38 #[.val (.long q1), .second, .val (.ref a2)] [(.int (lcmpW w5 q1))])) _
    refine XS.ifNo X0.here hx rfl (hb hby d10_38) rfl ((if0 _ _).trans (teq hc38).2) ?_
    show Steps p.tables e below (s₁.setTop (mkF m 41 #[.val (.long q1), .second, .val (.ref a2)] [])) _
    refine XS.iconst X0.here hx rfl (hb hby d10_41) ?_
    show Steps p.tables e below (s₁.setTop (mkF m 42 #[.val (.long q1), .second, .val (.ref a2)] [(.int (1 : Int32))])) _
    refine XS.goto X0.here hx rfl (pc0 := 42) (pc' := 46) rfl (hb hby d10_42) (by decide) (by decide) ?_
    show Steps p.tables e below (s₁.setTop (mkF m 46 #[.val (.long q1), .second, .val (.ref a2)] [(.int (1 : Int32))])) _
    exact retN X0 hx (t := .boolean) Bd.returns (by simp) (hb hby d10_46) hr
  · show Q10c Z q1 a2 cl_a2 z_a2 w3 w4 w5 h0 n0 _ s₁.heap _
    rw [e0]
    exact ⟨rfl, N0, rfl⟩
def Q1r (h0 : Heap) (n0 : Nat) (v : Option Value) (h : Heap) (L : List Loc) : Prop := v = some (.int (1 : Int32)) ∧ Fr n0 L ∧ h = h0
theorem own_gt {i m : Nat} (h : i < m) (hm : m ≤ 3) {k : Int32} (hk : k = Int32.ofNat i) : k < Int32.ofNat m := by subst hk; exact own_lt h (by omega)
theorem rm9 (l : Launch) (Z : State) (a0 : Array Value) (hw : ∀ d ∈ tables_1, d.before a0 Z = true) (ws : List Jvm.Cond) (q1 : Int64) (a2 : Addr) (p3 : Int32) (m : Nat) (f : Nat → Int64) (h0 : Heap) (n0 : Nat) (Z0 : n0 ≤ h0.size) (hm : m ≤ 3) (hp : p3 = Int32.ofNat m) (La : own_La Z h0 a2 3 f) (hmem : ∃ i, i < m ∧ f i = q1) : MetFree l (⟨"com/example/tideshift/tideshift/partition/AccessCountsKeysPinLaw", "inE", "(J[JI)Z"⟩ : MethodName) (head1 (Jvm.Cond.code (⟨"com/example/tideshift/tideshift/partition/AccessCountsKeysPinLaw", "inE", "(J[JI)Z"⟩ : MethodName) method_3_code 4 (some .boolean) :: ws) ({ frames := 0, cells := 0, slots := 0, locals := 0 } : Room)) (fun a U => a = #[(.long q1), (.ref a2), (.int p3)] ∧ Z.Warmed39 U.vm ∧ U.heap = h0) (fun _ _ _ _ _ => True) (fun _ U o U' => ∃ v L, o = .returned v ∧ Q1r h0 n0 v U'.heap L ∧ FrameEnd U o U' L ({ frames := 0, cells := 0, slots := 0, locals := 0 } : Room).cells ({ frames := 0, cells := 0, slots := 0, locals := 0 } : Room).slots) := by
  obtain ⟨c, A, S, H⟩ := La
  obtain ⟨i, hi, hf⟩ := hmem
  have e0 := H 0 (by decide)
  have e1 := H 1 (by decide)
  have e2 := H 2 (by decide)
  have s0 : ¬ ((0 : Int32) < 0 ∨ c.slots.size ≤ ((0 : Int32)).toNatClampNeg) := by rw [S]; decide
  have s1 : ¬ ((1 : Int32) < 0 ∨ c.slots.size ≤ ((1 : Int32)).toNatClampNeg) := by rw [S]; decide
  have s2 : ¬ ((2 : Int32) < 0 ∨ c.slots.size ≤ ((2 : Int32)).toNatClampNeg) := by rw [S]; decide
  have g0 : (0 : Int32) < p3 := by rw [hp]; exact own_gt (i := 0) (by omega) hm rfl
  by_cases h0' : f 0 = q1
  · exact rm9a l Z a0 hw ws q1 a2 p3 (f 0) c h0 n0 Z0 A s0 e0 g0 ((lw_eq _ _).mpr h0')
  · have i0 : i ≠ 0 := fun z => h0' (z ▸ hf)
    have g1 : (1 : Int32) < p3 := by rw [hp]; exact own_gt (i := 1) (by omega) hm rfl
    by_cases h1' : f 1 = q1
    · exact rm9b l Z a0 hw ws q1 a2 p3 (f 0) c (f 1) h0 n0 Z0 A s0 e0 s1 e1 g0 (fun z => h0' ((lw_eq _ _).mp z)) g1 ((lw_eq _ _).mpr h1')
    · have i1 : i ≠ 1 := fun z => h1' (z ▸ hf)
      have i2 : i = 2 := by omega
      have g2 : (2 : Int32) < p3 := by rw [hp]; exact own_gt (i := 2) (by omega) hm rfl
      exact rm9c l Z a0 hw ws q1 a2 p3 (f 0) c (f 1) (f 2) h0 n0 Z0 A s0 e0 s1 e1 s2 e2 g0 (fun z => h0' ((lw_eq _ _).mp z)) g1 (fun z => h1' ((lw_eq _ _).mp z)) g2 ((lw_eq _ _).mpr (i2 ▸ hf))
theorem rm10 (l : Launch) (Z : State) (a0 : Array Value) (hw : ∀ d ∈ tables_1, d.before a0 Z = true) (ws : List Jvm.Cond) (q1 : Int64) (a2 : Addr) (m : Nat) (f : Nat → Int64) (h0 : Heap) (n0 : Nat) (Z0 : n0 ≤ h0.size) (hm : m ≤ 3) (La : own_La Z h0 a2 m f) (hmem : ∃ i, i < m ∧ f i = q1) : MetFree l (⟨"com/example/tideshift/tideshift/partition/AccessCountsKeysPinLaw", "inR", "(J[J)Z"⟩ : MethodName) (head1 (Jvm.Cond.code (⟨"com/example/tideshift/tideshift/partition/AccessCountsKeysPinLaw", "inR", "(J[J)Z"⟩ : MethodName) method_4_code 3 (some .boolean) :: ws) ({ frames := 0, cells := 0, slots := 0, locals := 0 } : Room)) (fun a U => a = #[(.long q1), (.ref a2)] ∧ Z.Warmed39 U.vm ∧ U.heap = h0) (fun _ _ _ _ _ => True) (fun _ U o U' => ∃ v L, o = .returned v ∧ Q1r h0 n0 v U'.heap L ∧ FrameEnd U o U' L ({ frames := 0, cells := 0, slots := 0, locals := 0 } : Room).cells ({ frames := 0, cells := 0, slots := 0, locals := 0 } : Room).slots) := by
  obtain ⟨c, A, S, H⟩ := La
  obtain ⟨i, hi, hf⟩ := hmem
  obtain ⟨z1, z2⟩ := own_i16 (n := m) (by omega)
  have Sz : c.slots.size = (Int32.ofNat m).toNatClampNeg := by rw [S, z2]
  have t0 : ((0 : Int32)).toNatClampNeg = 0 := by decide
  have t1 : ((1 : Int32)).toNatClampNeg = 1 := by decide
  have t2 : ((2 : Int32)).toNatClampNeg = 2 := by decide
  have p0 : ¬ (0 : Int32) < 0 := by decide
  have p1 : ¬ (1 : Int32) < 0 := by decide
  have p2 : ¬ (2 : Int32) < 0 := by decide
  have e0 := H 0 (by omega)
  have s0 : ¬ ((0 : Int32) < 0 ∨ c.slots.size ≤ ((0 : Int32)).toNatClampNeg) := by rw [S, t0]; exact fun z => z.elim p0 (fun z => by omega)
  have g0 : (0 : Int32) < Int32.ofNat m := own_gt (i := 0) (by omega) hm rfl
  by_cases h0' : f 0 = q1
  · exact rm10a l Z a0 hw ws q1 a2 c (Int32.ofNat m) (f 0) h0 n0 Z0 A Sz z1 s0 e0 g0 ((lw_eq _ _).mpr h0')
  · have i0 : i ≠ 0 := fun z => h0' (z ▸ hf)
    have e1 := H 1 (by omega)
    have s1 : ¬ ((1 : Int32) < 0 ∨ c.slots.size ≤ ((1 : Int32)).toNatClampNeg) := by rw [S, t1]; exact fun z => z.elim p1 (fun z => by omega)
    have g1 : (1 : Int32) < Int32.ofNat m := own_gt (i := 1) (by omega) hm rfl
    by_cases h1' : f 1 = q1
    · exact rm10b l Z a0 hw ws q1 a2 c (Int32.ofNat m) (f 0) (f 1) h0 n0 Z0 A Sz z1 s0 e0 s1 e1 g0 (fun z => h0' ((lw_eq _ _).mp z)) g1 ((lw_eq _ _).mpr h1')
    · have i1 : i ≠ 1 := fun z => h1' (z ▸ hf)
      have i2 : i = 2 := by omega
      have e2 := H 2 (by omega)
      have s2 : ¬ ((2 : Int32) < 0 ∨ c.slots.size ≤ ((2 : Int32)).toNatClampNeg) := by rw [S, t2]; exact fun z => z.elim p2 (fun z => by omega)
      have g2 : (2 : Int32) < Int32.ofNat m := own_gt (i := 2) (by omega) hm rfl
      exact rm10c l Z a0 hw ws q1 a2 c (Int32.ofNat m) (f 0) (f 1) (f 2) h0 n0 Z0 A Sz z1 s0 e0 s1 e1 s2 e2 g0 (fun z => h0' ((lw_eq _ _).mp z)) g1 (fun z => h1' ((lw_eq _ _).mp z)) g2 ((lw_eq _ _).mpr (i2 ▸ hf))
def own_cache (Z : State) (h : Heap) : Prop := ∃ (w : Addr) (cl : Cell), Sta Z h "java/lang/Long$LongCache" "cache" "[Ljava/lang/Long;" (.ref w) ∧ Arr Z h w cl (.object "java/lang/Long") ∧ cl.slots.size = 256 ∧ ∀ i, i < 256 → ∃ b : Addr, cl.slots[i]? = some (.ref b) ∧ Exa Z h b "java/lang/Long"
theorem own_cache_ext {Z : State} {h h' : Heap} (E : Ext h h') (C : own_cache Z h) : own_cache Z h' := by
  obtain ⟨w, cl, c1, c2, c3, c4⟩ := C
  exact ⟨w, cl, c1.ext E, c2.ext E, c3, fun i hi => by obtain ⟨b, d1, d2⟩ := c4 i hi; exact ⟨b, d1, d2.ext E⟩⟩
theorem own_idx {q : Int64} (h1 : ¬ ((lcmpW q (-128 : Int64)) < (0 : Int32))) (h2 : ¬ ((0 : Int32) < (lcmpW q (127 : Int64)))) : ¬ (q.toInt32 + (128 : Int32)) < 0 ∧ (q.toInt32 + (128 : Int32)).toNatClampNeg < 256 := by
  rw [lw_lt] at h1
  rw [lw_gt] at h2
  rw [Int64.lt_iff_toInt_lt] at h1 h2
  have e1 : (-128 : Int64).toInt = -128 := by decide
  have e2 : (127 : Int64).toInt = 127 := by decide
  have e3 := c_l2i q
  have e4 := c_iadd q.toInt32 128
  have e5 : (128 : Int32).toInt = 128 := by decide
  have e6 := rng32 (q.toInt32 + 128)
  have e7 := rng32 q.toInt32
  rw [e1] at h1
  rw [e2] at h2
  rw [e5] at e4
  have e8 : (q.toInt32 + 128).toNatClampNeg = (q.toInt32 + 128).toInt.toNat := rfl
  rw [Int32.lt_iff_toInt_lt, Int32.toInt_zero]
  omega
theorem d14_0 : decode jdk_18_method_1_code 0 = .ok (.aload_n 0, 1) := by decide +kernel
theorem d14_1 : decode jdk_18_method_1_code 1 = .ok (.invokespecial 1, 3) := by decide +kernel
theorem d14_4 : decode jdk_18_method_1_code 4 = .ok (.return_, 1) := by decide +kernel
theorem pn_14 : plainName "java/lang/Number" = true := by first | (simp [plainName, overriddenIn]; done) | decide +kernel
theorem ef_14 (m : MethodId) (x0 : Addr) : entryFrame m #[(.ref x0)] 1 = mkF m 0 #[.val (.ref x0)] [] := by first | (simp [entryFrame, mkF, argsToLocals, Value.category]; done) | rfl
def Q14 (Z : State) (a1 : Addr) (h0 : Heap) (n0 : Nat) (v : Option Value) (h : Heap) (L : List Loc) : Prop := v = none ∧ Fr n0 L ∧ h = h0
set_option maxRecDepth 65536 in
set_option maxHeartbeats 40000000 in
theorem rm14 (l : Launch) (Z : State) (a0 : Array Value) (hw : ∀ d ∈ tables_1, d.before a0 Z = true) (ws : List Jvm.Cond) (a1 : Addr) (h0 : Heap) (n0 : Nat) (Z0 : n0 ≤ h0.size) :
    MetFree l (⟨"java/lang/Number", "<init>", "()V"⟩ : MethodName) (head1 (Jvm.Cond.code (⟨"java/lang/Number", "<init>", "()V"⟩ : MethodName) jdk_18_method_1_code 1 none :: ws) ({ frames := 1, cells := 0, slots := 0, locals := 12 } : Room)) (fun a U => a = #[(.ref a1)] ∧ Z.Warmed39 U.vm ∧ U.heap = h0) (fun _ _ _ _ _ => True) (fun _ U o U' => ∃ v L, o = .returned v ∧ Q14 Z a1 h0 n0 v U'.heap L ∧ FrameEnd U o U' L ({ frames := 1, cells := 0, slots := 0, locals := 12 } : Room).cells ({ frames := 1, cells := 0, slots := 0, locals := 12 } : Room).slots) := by
  refine MetFree.of_bodySF (plainFor_of_name pn_14) hisR ?_
  intro p e s m args below meth c s₁ Bd hml0 hP hK
  obtain ⟨rfl, hZ, hh⟩ := hP
  have hx := Bd.exec
  have hby := Bd.bytes
  have hml : c.maxLocals = 1 := hml0
  have hown : s.vm.findClass "java/lang/Number" = some m.cls := findClass_of_methodNamed Bd.named
  have hnm := (name_of_methodNamed Bd.named Bd.method).1
  have X0 : Stand p l e ({ frames := 1, cells := 0, slots := 0, locals := 12 } : Room) s m #[(.ref a1)] below meth c s₁ [] 0 0 := Stand.of_body Bd
  have e0 : s₁.heap = h0 := by rw [← hh, Bd.state]; rfl
  have N0 := Fr.nil n0
  have pre0 : ∀ t, Steps p.tables e below (s₁.setTop (mkF m 0 #[.val (.ref a1)] [])) t → Steps p.tables e below (s₁.setTop (entryFrame m #[(.ref a1)] 1)) t := fun t k => castTop (ef_14 m a1) k
  -- 3. LAWS
  obtain ⟨T2, X2, e2, st2⟩ := initO X0 hx hZ hown (hw _ (List.mem_of_getElem? (i := 79) rfl)) (hw _ (List.mem_of_getElem? (i := 8) rfl)) (hw _ (List.mem_of_getElem? (i := 9) rfl)) e0 (g := (mkF m 1 #[.val (.ref a1)] [(.ref a1)])) rfl (by rw [hml]; rfl) rfl (hb hby d14_1) (by decide) (W := 0) (by show 2 * 0 + _ ≤ _; exact Nat.le_of_eq rfl) (by decide)
  obtain ⟨fs, hr, hrun, hended, hW, hsame⟩ := X2.leave (v := none) (fun _ => rfl)
  refine ⟨_, _, pre0 _ ?_, hrun, hended, _, _, rfl, ?_, ⟨_, rfl⟩, hW, hsame.mono (by decide) (by decide)⟩
  -- 4. STEPS
  · show Steps p.tables e below (s₁.setTop (mkF m 0 #[.val (.ref a1)] [])) _
    refine XS.aloadN X0.here hx rfl (hb hby d14_0) rfl rfl ?_
    show Steps p.tables e below (s₁.setTop (mkF m 1 #[.val (.ref a1)] [(.ref a1)])) _
    refine st2 _ ?_
    show Steps p.tables e below (T2.setTop (mkF m 4 #[.val (.ref a1)] [])) _
    exact X2.returnOut hx Bd.returns (hb hby d14_4) hr
  · show Q14 Z a1 h0 n0 _ T2.heap _
    rw [e2]
    exact ⟨rfl, N0, rfl⟩
theorem d13_0 : decode jdk_35_method_26_code 0 = .ok (.aload_n 0, 1) := by decide +kernel
theorem d13_1 : decode jdk_35_method_26_code 1 = .ok (.invokespecial 270, 3) := by decide +kernel
theorem d13_4 : decode jdk_35_method_26_code 4 = .ok (.aload_n 0, 1) := by decide +kernel
theorem d13_5 : decode jdk_35_method_26_code 5 = .ok (.lload_n 1, 1) := by decide +kernel
theorem d13_6 : decode jdk_35_method_26_code 6 = .ok (.putfield 273, 3) := by decide +kernel
theorem d13_9 : decode jdk_35_method_26_code 9 = .ok (.return_, 1) := by decide +kernel
theorem pn_13 : plainName "java/lang/Long" = true := by first | (simp [plainName, overriddenIn]; done) | decide +kernel
theorem pd_13_0 : parseMethodDescriptor "()V" = some ⟨[], none⟩ := by decide +kernel
theorem ef_13 (m : MethodId) (x0 : Addr) (x1 : Int64) : entryFrame m #[(.ref x0), (.long x1)] 3 = mkF m 0 #[.val (.ref x0), .val (.long x1), .second] [] := by first | (simp [entryFrame, mkF, argsToLocals, Value.category]; done) | rfl
def Q13 (Z : State) (a1 : Addr) (q2 : Int64) (u_value_a1 : Value) (h0 : Heap) (n0 : Nat) (v : Option Value) (h : Heap) (L : List Loc) : Prop := v = none ∧ Fr n0 L ∧ Keep h0 h [a1]
set_option maxRecDepth 65536 in
set_option maxHeartbeats 40000000 in
theorem rm13 (l : Launch) (Z : State) (a0 : Array Value) (hw : ∀ d ∈ tables_1, d.before a0 Z = true) (ws : List Jvm.Cond) (a1 : Addr) (q2 : Int64) (u_value_a1 : Value) (h0 : Heap) (n0 : Nat) (Z0 : n0 ≤ h0.size) (E_a1 : Exa Z h0 a1 "java/lang/Long") (F_value_a1 : Fld Z h0 a1 "java/lang/Long" "value" "J" u_value_a1) (g_a1 : n0 ≤ a1) :
    MetFree l (⟨"java/lang/Long", "<init>", "(J)V"⟩ : MethodName) (head1 (Jvm.Cond.code (⟨"java/lang/Long", "<init>", "(J)V"⟩ : MethodName) jdk_35_method_26_code 3 none :: ws) ({ frames := 2, cells := 0, slots := 0, locals := 24 } : Room)) (fun a U => a = #[(.ref a1), (.long q2)] ∧ Z.Warmed39 U.vm ∧ U.heap = h0) (fun _ _ _ _ _ => True) (fun _ U o U' => ∃ v L, o = .returned v ∧ Q13 Z a1 q2 u_value_a1 h0 n0 v U'.heap L ∧ FrameEnd U o U' L ({ frames := 2, cells := 0, slots := 0, locals := 24 } : Room).cells ({ frames := 2, cells := 0, slots := 0, locals := 24 } : Room).slots) := by
  refine MetFree.of_bodySF (plainFor_of_name pn_13) hisR ?_
  intro p e s m args below meth c s₁ Bd hml0 hP hK
  obtain ⟨rfl, hZ, hh⟩ := hP
  have hx := Bd.exec
  have hby := Bd.bytes
  have hml : c.maxLocals = 3 := hml0
  have hown : s.vm.findClass "java/lang/Long" = some m.cls := findClass_of_methodNamed Bd.named
  have hnm := (name_of_methodNamed Bd.named Bd.method).1
  have X0 : Stand p l e ({ frames := 2, cells := 0, slots := 0, locals := 24 } : Room) s m #[(.ref a1), (.long q2)] below meth c s₁ [] 0 0 := Stand.of_body Bd
  have e0 : s₁.heap = h0 := by rw [← hh, Bd.state]; rfl
  have N0 := Fr.nil n0
  have pre0 : ∀ t, Steps p.tables e below (s₁.setTop (mkF m 0 #[.val (.ref a1), .val (.long q2), .second] [])) t → Steps p.tables e below (s₁.setTop (entryFrame m #[(.ref a1), (.long q2)] 3)) t := fun t k => castTop (ef_13 m a1 q2) k
  -- 3. LAWS
  -- pc 1: the constructor of java/lang/Number by its contract rm14
  obtain ⟨_, _, ⟨T3, L3, k3, n3⟩, -, X3, ⟨Lc3, hQ3, l3, y3, z3⟩, st3⟩ := X0.specialBack hx (y := (⟨"java/lang/Number", "<init>", "()V"⟩ : MethodName)) rfl hown (mvT hZ (hw _ (List.mem_of_getElem? (i := 73) rfl))) (mvT hZ (hw _ (List.mem_of_getElem? (i := 74) rfl))) (mvT hZ (hw _ (List.mem_of_getElem? (i := 78) rfl))) (by decide) (backOf (W := 0) (rm14 l Z a0 hw [] a1 h0 n0 Z0) hZ (hw _ (List.mem_of_getElem? (i := 78) rfl)) (hw _ (List.mem_of_getElem? (i := 77) rfl)) (by decide) (by decide)) (g := (mkF m 1 #[.val (.ref a1), .val (.long q2), .second] [(.ref a1)])) rfl (by rw [hml]; rfl) (Steps.refl _) (a := a1) (argsL := []) (rest := []) (lenOf pd_13_0 rfl) rfl (by show 2 * 0 + _ ≤ _; exact Nat.le_of_eq rfl) (hb hby d13_1) (fun _ _ => ⟨rfl, e0, (by decide : 0 + 0 ≤ _), (by decide : 0 + 0 ≤ _)⟩)
  dsimp only [Pt.U, Pt.locs, Pt.cells, Pt.slots] at X3 l3 y3 z3 st3 hQ3
  subst l3 y3 z3
  obtain ⟨rfl, N3q, E3q⟩ := hQ3
  have K3q : Keep h0 T3.heap [] := by rw [E3q]; exact Keep.refl _ _
  have KK3 : Keep h0 T3.heap [a1] := (Keep.refl _ _).trans K3q all0
  have Z3 : n0 ≤ T3.heap.size := Nat.le_trans Z0 K3q.1
  have N3 := Fr.app N0 N3q
  obtain ⟨T4, h4, X4, e4, W4, st4⟩ := putF X3 hx hZ hown (host := "") (Or.inl (hw _ (List.mem_of_getElem? (i := 80) rfl))) Via.refl rfl (F_value_a1.keep K3q nin0) (E_a1.keep K3q) (Or.inr ⟨(hw _ (List.mem_of_getElem? (i := 81) rfl)), rfl, hnm⟩) (hw _ (List.mem_of_getElem? (i := 68) rfl)) (ty := .long) (by decide) rfl rfl (g := (mkF m 6 #[.val (.ref a1), .val (.long q2), .second] [(.long q2), (.ref a1)])) rfl rfl (hb hby d13_6)
  have Z4 : n0 ≤ h4.size := Nat.le_trans Z3 (Keep.of_wr W4).1
  have Fw4 := (F_value_a1.keep K3q nin0).same W4      -- the field now holds (.long q2)
  have K4 : Keep h0 h4 [a1] := (KK3).wr W4 (Or.inl (List.mem_of_getElem? (i := 0) rfl))
  have N4 := Fr.snoc X4 N3 g_a1
  obtain ⟨fs, hr, hrun, hended, hW, hsame⟩ := X4.leave (v := none) (fun _ => rfl)
  refine ⟨_, _, pre0 _ ?_, hrun, hended, _, _, rfl, ?_, ⟨_, rfl⟩, hW, hsame.mono (by decide) (by decide)⟩
  -- 4. STEPS
  · show Steps p.tables e below (s₁.setTop (mkF m 0 #[.val (.ref a1), .val (.long q2), .second] [])) _
    refine XS.aloadN X0.here hx rfl (hb hby d13_0) rfl rfl ?_
    show Steps p.tables e below (s₁.setTop (mkF m 1 #[.val (.ref a1), .val (.long q2), .second] [(.ref a1)])) _
    refine st3.trans ?_
    show Steps p.tables e below (T3.setTop (mkF m 4 #[.val (.ref a1), .val (.long q2), .second] [])) _
    refine XS.aloadN X3.here hx rfl (hb hby d13_4) rfl rfl ?_
    show Steps p.tables e below (T3.setTop (mkF m 5 #[.val (.ref a1), .val (.long q2), .second] [(.ref a1)])) _
    refine XS.lloadN X3.here hx rfl (hb hby d13_5) rfl ?_
    show Steps p.tables e below (T3.setTop (mkF m 6 #[.val (.ref a1), .val (.long q2), .second] [(.long q2), (.ref a1)])) _
    refine st4 _ ?_
    show Steps p.tables e below (T4.setTop (mkF m 9 #[.val (.ref a1), .val (.long q2), .second] [])) _
    exact X4.returnOut hx Bd.returns (hb hby d13_9) hr
  · show Q13 Z a1 q2 u_value_a1 h0 n0 _ T4.heap _
    rw [e4]
    exact ⟨rfl, N4, K4⟩
theorem d12_0 : decode jdk_35_method_24_code 0 = .ok (.sipush 128, 3) := by decide +kernel
theorem d12_3 : decode jdk_35_method_24_code 3 = .ok (.istore_n 2, 1) := by decide +kernel
theorem d12_4 : decode jdk_35_method_24_code 4 = .ok (.lload_n 0, 1) := by decide +kernel
theorem d12_5 : decode jdk_35_method_24_code 5 = .ok (.ldc2_w 230, 3) := by decide +kernel
theorem d12_8 : decode jdk_35_method_24_code 8 = .ok (.lcmp, 1) := by decide +kernel
theorem d12_9 : decode jdk_35_method_24_code 9 = .ok (.ifCond .lt 22, 3) := by decide +kernel
theorem d12_31 : decode jdk_35_method_24_code 31 = .ok (.new 1, 3) := by decide +kernel
theorem d12_34 : decode jdk_35_method_24_code 34 = .ok (.dup, 1) := by decide +kernel
theorem d12_35 : decode jdk_35_method_24_code 35 = .ok (.lload_n 0, 1) := by decide +kernel
theorem d12_36 : decode jdk_35_method_24_code 36 = .ok (.invokespecial 240, 3) := by decide +kernel
theorem d12_39 : decode jdk_35_method_24_code 39 = .ok (.areturn, 1) := by decide +kernel
theorem pn_12 : plainName "java/lang/Long" = true := by first | (simp [plainName, overriddenIn]; done) | decide +kernel
theorem pd_12_3 : parseMethodDescriptor "(J)V" = some ⟨[.long], none⟩ := by decide +kernel
theorem ef_12 (m : MethodId) (x0 : Int64) : entryFrame m #[(.long x0)] 3 = mkF m 0 #[.val (.long x0), .second, .unset] [] := by first | (simp [entryFrame, mkF, argsToLocals, Value.category]; done) | rfl
def Q12 (Z : State) (q1 : Int64) (h0 : Heap) (n0 : Nat) (v : Option Value) (h : Heap) (L : List Loc) : Prop := ∃ b : Addr, v = some (.ref b) ∧ Fr n0 L ∧ Keep h0 h []
set_option maxRecDepth 65536 in
set_option maxHeartbeats 40000000 in
theorem rm12t (l : Launch) (Z : State) (a0 : Array Value) (hw : ∀ d ∈ tables_1, d.before a0 Z = true) (ws : List Jvm.Cond) (q1 : Int64) (h0 : Heap) (n0 : Nat) (Z0 : n0 ≤ h0.size) (hc9 : (lcmpW q1 (-128 : Int64)) < (0 : Int32)) :
    MetFree l (⟨"java/lang/Long", "valueOf", "(J)Ljava/lang/Long;"⟩ : MethodName) (head1 (Jvm.Cond.code (⟨"java/lang/Long", "valueOf", "(J)Ljava/lang/Long;"⟩ : MethodName) jdk_35_method_24_code 3 (some (.object "java/lang/Long")) :: ws) ({ frames := 3, cells := 1, slots := 1, locals := 39 } : Room)) (fun a U => a = #[(.long q1)] ∧ Z.Warmed39 U.vm ∧ U.heap = h0) (fun _ _ _ _ _ => True) (fun _ U o U' => ∃ v L, o = .returned v ∧ Q12 Z q1 h0 n0 v U'.heap L ∧ FrameEnd U o U' L ({ frames := 3, cells := 1, slots := 1, locals := 39 } : Room).cells ({ frames := 3, cells := 1, slots := 1, locals := 39 } : Room).slots) := by
  refine MetFree.of_bodySF (plainFor_of_name pn_12) hisR ?_
  intro p e s m args below meth c s₁ Bd hml0 hP hK
  obtain ⟨rfl, hZ, hh⟩ := hP
  have hx := Bd.exec
  have hby := Bd.bytes
  have hml : c.maxLocals = 3 := hml0
  have hown : s.vm.findClass "java/lang/Long" = some m.cls := findClass_of_methodNamed Bd.named
  have hnm := (name_of_methodNamed Bd.named Bd.method).1
  have X0 : Stand p l e ({ frames := 3, cells := 1, slots := 1, locals := 39 } : Room) s m #[(.long q1)] below meth c s₁ [] 0 0 := Stand.of_body Bd
  have e0 : s₁.heap = h0 := by rw [← hh, Bd.state]; rfl
  have N0 := Fr.nil n0
  have pre0 : ∀ t, Steps p.tables e below (s₁.setTop (mkF m 0 #[.val (.long q1), .second, .unset] [])) t → Steps p.tables e below (s₁.setTop (entryFrame m #[(.long q1)] 3)) t := fun t k => castTop (ef_12 m q1) k
  -- 3. LAWS
  obtain ⟨T2, h2, X2, e2, E2, A2, D2, -, st2⟩ := newO X0 hx hZ hown (hw _ (List.mem_of_getElem? (i := 67) rfl)) (hw _ (List.mem_of_getElem? (i := 68) rfl)) (hw _ (List.mem_of_getElem? (i := 63) rfl)) e0 (g := (mkF m 31 #[.val (.long q1), .second, .val (.int (128 : Int32))] [])) rfl (hb hby d12_31) (by decide) (by decide)
  obtain ⟨b2, g2⟩ : ∃ z, z = h0.size := ⟨_, rfl⟩      -- the fresh object's address
  have Z2 : n0 ≤ h2.size := Nat.le_trans Z0 E2.1
  rw [← g2] at A2 D2 st2      -- A2 : Exa Z h2 b2 "java/lang/Long"; E2 : Ext h0 h2 (carries every older fact: .ext E2)
  have F_value_b2 : Fld Z h2 b2 "java/lang/Long" "value" "J" (.long (0 : Int64)) := D2 (Or.inr (hw _ (List.mem_of_getElem? (i := 81) rfl))) (ty := .long) (by decide)
  have E_b2 := A2
  have g_b2 : n0 ≤ b2 := Nat.le_trans Z0 (Nat.le_of_eq g2.symm)
  have sz_b2 : h0.size ≤ b2 := (Nat.le_trans (Keep.refl h0 []).1 (Nat.le_of_eq g2.symm))
  have K2 : Keep h0 h2 [] := (Keep.refl h0 []).ext E2
  have CE1_b2 := E_b2
  -- pc 36: the constructor of java/lang/Long by its contract rm13
  obtain ⟨_, _, ⟨T3, L3, k3, n3⟩, -, X3, ⟨Lc3, hQ3, l3, y3, z3⟩, st3⟩ := X2.specialBack hx (y := (⟨"java/lang/Long", "<init>", "(J)V"⟩ : MethodName)) rfl hown (mvT hZ (hw _ (List.mem_of_getElem? (i := 69) rfl))) (mvT hZ (hw _ (List.mem_of_getElem? (i := 70) rfl))) (mvT hZ (hw _ (List.mem_of_getElem? (i := 72) rfl))) (by decide) (backOf (W := 1) (rm13 l Z a0 hw [] b2 q1 (.long (0 : Int64)) h2 n0 Z2 E_b2 F_value_b2 g_b2) hZ (hw _ (List.mem_of_getElem? (i := 72) rfl)) (hw _ (List.mem_of_getElem? (i := 63) rfl)) (by decide) (by decide)) (g := (mkF m 36 #[.val (.long q1), .second, .val (.int (128 : Int32))] [(.long q1), (.ref b2), (.ref b2)])) rfl (by rw [hml]; rfl) (Steps.refl _) (a := b2) (argsL := [(.long q1)]) (rest := [(.ref b2)]) (lenOf pd_12_3 rfl) rfl (by show 2 * 0 + _ ≤ _; exact Nat.le_of_eq rfl) (hb hby d12_36) (fun _ _ => ⟨rfl, e2, (by decide : 1 + 0 ≤ _), (by decide : 1 + 0 ≤ _)⟩)
  dsimp only [Pt.U, Pt.locs, Pt.cells, Pt.slots] at X3 l3 y3 z3 st3 hQ3
  subst l3 y3 z3
  obtain ⟨rfl, N3q, K3q⟩ := hQ3
  have Z3 : n0 ≤ T3.heap.size := Nat.le_trans Z2 K3q.1
  have N3 := Fr.app N0 N3q
  obtain ⟨fs, hr, hrun, hended, hW, hsame⟩ := X3.leave (v := some (.ref b2)) (fun h => by rw [Bd.returns] at h; cases h)
  refine ⟨_, _, pre0 _ ?_, hrun, hended, _, _, rfl, ?_, ⟨_, rfl⟩, hW, hsame.mono (by decide) (by decide)⟩
  -- 4. STEPS
  · show Steps p.tables e below (s₁.setTop (mkF m 0 #[.val (.long q1), .second, .unset] [])) _
    refine XS.sipush X0.here hx rfl (hb hby d12_0) ?_
    show Steps p.tables e below (s₁.setTop (mkF m 3 #[.val (.long q1), .second, .unset] [(.int (128 : Int32))])) _
    refine XS.istoreN X0.here hx rfl (hb hby d12_3) rfl (l' := #[.val (.long q1), .second, .val (.int (128 : Int32))]) rfl ?_
    show Steps p.tables e below (s₁.setTop (mkF m 4 #[.val (.long q1), .second, .val (.int (128 : Int32))] [])) _
    refine XS.lloadN X0.here hx rfl (hb hby d12_4) rfl ?_
    show Steps p.tables e below (s₁.setTop (mkF m 5 #[.val (.long q1), .second, .val (.int (128 : Int32))] [(.long q1)])) _
    refine X0.ldc2Long hx hown (mvT hZ (hw _ (List.mem_of_getElem? (i := 65) rfl))) (g := (mkF m 5 #[.val (.long q1), .second, .val (.int (128 : Int32))] [(.long q1)])) rfl (hb hby d12_5) _ ?_
    show Steps p.tables e below (s₁.setTop (mkF m 8 #[.val (.long q1), .second, .val (.int (128 : Int32))] [(.long (-128 : Int64)), (.long q1)])) _
    refine XS.lcmp X0.here hx rfl (hb hby d12_8) rfl ?_
    show Steps p.tables e below (s₁.setTop (mkF m 9 #[.val (.long q1), .second, .val (.int (128 : Int32))] [(.int (lcmpW q1 (-128 : Int64)))])) _
    refine XS.ifYes X0.here hx rfl (pc0 := 9) (pc' := 31) rfl (hb hby d12_9) rfl ((if0 _ _).trans (tlt hc9).1) (by decide) (by decide) ?_
    show Steps p.tables e below (s₁.setTop (mkF m 31 #[.val (.long q1), .second, .val (.int (128 : Int32))] [])) _
    refine st2 _ ?_
    show Steps p.tables e below (T2.setTop (mkF m 34 #[.val (.long q1), .second, .val (.int (128 : Int32))] [(.ref b2)])) _
    refine XS.dup X2.here hx rfl (hb hby d12_34) rfl rfl ?_
    show Steps p.tables e below (T2.setTop (mkF m 35 #[.val (.long q1), .second, .val (.int (128 : Int32))] [(.ref b2), (.ref b2)])) _
    refine XS.lloadN X2.here hx rfl (hb hby d12_35) rfl ?_
    show Steps p.tables e below (T2.setTop (mkF m 36 #[.val (.long q1), .second, .val (.int (128 : Int32))] [(.long q1), (.ref b2), (.ref b2)])) _
    refine st3.trans ?_
    show Steps p.tables e below (T3.setTop (mkF m 39 #[.val (.long q1), .second, .val (.int (128 : Int32))] [(.ref b2)])) _
    jvm_step X3.here [X3.here.top, hx, (hb hby d12_39), X3.method', Bd.returns, Value.isRef, FieldType.isReference]
    first | (intro acts; rw [hr _ acts rfl rfl rfl]) | rw [hr _ _ rfl rfl rfl]
    exact Steps.refl _
  · show Q12 Z q1 h0 n0 _ T3.heap _
    exact ⟨b2, rfl, N3, (K2.trans K3q (allS (Or.inr sz_b2) all0))⟩
theorem d12_12 : decode jdk_35_method_24_code 12 = .ok (.lload_n 0, 1) := by decide +kernel
theorem d12_13 : decode jdk_35_method_24_code 13 = .ok (.ldc2_w 232, 3) := by decide +kernel
theorem d12_16 : decode jdk_35_method_24_code 16 = .ok (.lcmp, 1) := by decide +kernel
theorem d12_17 : decode jdk_35_method_24_code 17 = .ok (.ifCond .gt 14, 3) := by decide +kernel
set_option maxRecDepth 65536 in
set_option maxHeartbeats 40000000 in
theorem rm12ft (l : Launch) (Z : State) (a0 : Array Value) (hw : ∀ d ∈ tables_1, d.before a0 Z = true) (ws : List Jvm.Cond) (q1 : Int64) (h0 : Heap) (n0 : Nat) (Z0 : n0 ≤ h0.size) (hc9 : ¬ ((lcmpW q1 (-128 : Int64)) < (0 : Int32))) (hc17 : (0 : Int32) < (lcmpW q1 (127 : Int64))) :
    MetFree l (⟨"java/lang/Long", "valueOf", "(J)Ljava/lang/Long;"⟩ : MethodName) (head1 (Jvm.Cond.code (⟨"java/lang/Long", "valueOf", "(J)Ljava/lang/Long;"⟩ : MethodName) jdk_35_method_24_code 3 (some (.object "java/lang/Long")) :: ws) ({ frames := 3, cells := 1, slots := 1, locals := 39 } : Room)) (fun a U => a = #[(.long q1)] ∧ Z.Warmed39 U.vm ∧ U.heap = h0) (fun _ _ _ _ _ => True) (fun _ U o U' => ∃ v L, o = .returned v ∧ Q12 Z q1 h0 n0 v U'.heap L ∧ FrameEnd U o U' L ({ frames := 3, cells := 1, slots := 1, locals := 39 } : Room).cells ({ frames := 3, cells := 1, slots := 1, locals := 39 } : Room).slots) := by
  refine MetFree.of_bodySF (plainFor_of_name pn_12) hisR ?_
  intro p e s m args below meth c s₁ Bd hml0 hP hK
  obtain ⟨rfl, hZ, hh⟩ := hP
  have hx := Bd.exec
  have hby := Bd.bytes
  have hml : c.maxLocals = 3 := hml0
  have hown : s.vm.findClass "java/lang/Long" = some m.cls := findClass_of_methodNamed Bd.named
  have hnm := (name_of_methodNamed Bd.named Bd.method).1
  have X0 : Stand p l e ({ frames := 3, cells := 1, slots := 1, locals := 39 } : Room) s m #[(.long q1)] below meth c s₁ [] 0 0 := Stand.of_body Bd
  have e0 : s₁.heap = h0 := by rw [← hh, Bd.state]; rfl
  have N0 := Fr.nil n0
  have pre0 : ∀ t, Steps p.tables e below (s₁.setTop (mkF m 0 #[.val (.long q1), .second, .unset] [])) t → Steps p.tables e below (s₁.setTop (entryFrame m #[(.long q1)] 3)) t := fun t k => castTop (ef_12 m q1) k
  -- 3. LAWS
  obtain ⟨T2, h2, X2, e2, E2, A2, D2, -, st2⟩ := newO X0 hx hZ hown (hw _ (List.mem_of_getElem? (i := 67) rfl)) (hw _ (List.mem_of_getElem? (i := 68) rfl)) (hw _ (List.mem_of_getElem? (i := 63) rfl)) e0 (g := (mkF m 31 #[.val (.long q1), .second, .val (.int (128 : Int32))] [])) rfl (hb hby d12_31) (by decide) (by decide)
  obtain ⟨b2, g2⟩ : ∃ z, z = h0.size := ⟨_, rfl⟩      -- the fresh object's address
  have Z2 : n0 ≤ h2.size := Nat.le_trans Z0 E2.1
  rw [← g2] at A2 D2 st2      -- A2 : Exa Z h2 b2 "java/lang/Long"; E2 : Ext h0 h2 (carries every older fact: .ext E2)
  have F_value_b2 : Fld Z h2 b2 "java/lang/Long" "value" "J" (.long (0 : Int64)) := D2 (Or.inr (hw _ (List.mem_of_getElem? (i := 81) rfl))) (ty := .long) (by decide)
  have E_b2 := A2
  have g_b2 : n0 ≤ b2 := Nat.le_trans Z0 (Nat.le_of_eq g2.symm)
  have sz_b2 : h0.size ≤ b2 := (Nat.le_trans (Keep.refl h0 []).1 (Nat.le_of_eq g2.symm))
  have K2 : Keep h0 h2 [] := (Keep.refl h0 []).ext E2
  have CE1_b2 := E_b2
  -- pc 36: the constructor of java/lang/Long by its contract rm13
  obtain ⟨_, _, ⟨T3, L3, k3, n3⟩, -, X3, ⟨Lc3, hQ3, l3, y3, z3⟩, st3⟩ := X2.specialBack hx (y := (⟨"java/lang/Long", "<init>", "(J)V"⟩ : MethodName)) rfl hown (mvT hZ (hw _ (List.mem_of_getElem? (i := 69) rfl))) (mvT hZ (hw _ (List.mem_of_getElem? (i := 70) rfl))) (mvT hZ (hw _ (List.mem_of_getElem? (i := 72) rfl))) (by decide) (backOf (W := 1) (rm13 l Z a0 hw [] b2 q1 (.long (0 : Int64)) h2 n0 Z2 E_b2 F_value_b2 g_b2) hZ (hw _ (List.mem_of_getElem? (i := 72) rfl)) (hw _ (List.mem_of_getElem? (i := 63) rfl)) (by decide) (by decide)) (g := (mkF m 36 #[.val (.long q1), .second, .val (.int (128 : Int32))] [(.long q1), (.ref b2), (.ref b2)])) rfl (by rw [hml]; rfl) (Steps.refl _) (a := b2) (argsL := [(.long q1)]) (rest := [(.ref b2)]) (lenOf pd_12_3 rfl) rfl (by show 2 * 0 + _ ≤ _; exact Nat.le_of_eq rfl) (hb hby d12_36) (fun _ _ => ⟨rfl, e2, (by decide : 1 + 0 ≤ _), (by decide : 1 + 0 ≤ _)⟩)
  dsimp only [Pt.U, Pt.locs, Pt.cells, Pt.slots] at X3 l3 y3 z3 st3 hQ3
  subst l3 y3 z3
  obtain ⟨rfl, N3q, K3q⟩ := hQ3
  have Z3 : n0 ≤ T3.heap.size := Nat.le_trans Z2 K3q.1
  have N3 := Fr.app N0 N3q
  obtain ⟨fs, hr, hrun, hended, hW, hsame⟩ := X3.leave (v := some (.ref b2)) (fun h => by rw [Bd.returns] at h; cases h)
  refine ⟨_, _, pre0 _ ?_, hrun, hended, _, _, rfl, ?_, ⟨_, rfl⟩, hW, hsame.mono (by decide) (by decide)⟩
  -- 4. STEPS
  · show Steps p.tables e below (s₁.setTop (mkF m 0 #[.val (.long q1), .second, .unset] [])) _
    refine XS.sipush X0.here hx rfl (hb hby d12_0) ?_
    show Steps p.tables e below (s₁.setTop (mkF m 3 #[.val (.long q1), .second, .unset] [(.int (128 : Int32))])) _
    refine XS.istoreN X0.here hx rfl (hb hby d12_3) rfl (l' := #[.val (.long q1), .second, .val (.int (128 : Int32))]) rfl ?_
    show Steps p.tables e below (s₁.setTop (mkF m 4 #[.val (.long q1), .second, .val (.int (128 : Int32))] [])) _
    refine XS.lloadN X0.here hx rfl (hb hby d12_4) rfl ?_
    show Steps p.tables e below (s₁.setTop (mkF m 5 #[.val (.long q1), .second, .val (.int (128 : Int32))] [(.long q1)])) _
    refine X0.ldc2Long hx hown (mvT hZ (hw _ (List.mem_of_getElem? (i := 65) rfl))) (g := (mkF m 5 #[.val (.long q1), .second, .val (.int (128 : Int32))] [(.long q1)])) rfl (hb hby d12_5) _ ?_
    show Steps p.tables e below (s₁.setTop (mkF m 8 #[.val (.long q1), .second, .val (.int (128 : Int32))] [(.long (-128 : Int64)), (.long q1)])) _
    refine XS.lcmp X0.here hx rfl (hb hby d12_8) rfl ?_
    show Steps p.tables e below (s₁.setTop (mkF m 9 #[.val (.long q1), .second, .val (.int (128 : Int32))] [(.int (lcmpW q1 (-128 : Int64)))])) _
    refine XS.ifNo X0.here hx rfl (hb hby d12_9) rfl ((if0 _ _).trans (flt hc9).1) ?_
    show Steps p.tables e below (s₁.setTop (mkF m 12 #[.val (.long q1), .second, .val (.int (128 : Int32))] [])) _
    refine XS.lloadN X0.here hx rfl (hb hby d12_12) rfl ?_
    show Steps p.tables e below (s₁.setTop (mkF m 13 #[.val (.long q1), .second, .val (.int (128 : Int32))] [(.long q1)])) _
    refine X0.ldc2Long hx hown (mvT hZ (hw _ (List.mem_of_getElem? (i := 66) rfl))) (g := (mkF m 13 #[.val (.long q1), .second, .val (.int (128 : Int32))] [(.long q1)])) rfl (hb hby d12_13) _ ?_
    show Steps p.tables e below (s₁.setTop (mkF m 16 #[.val (.long q1), .second, .val (.int (128 : Int32))] [(.long (127 : Int64)), (.long q1)])) _
    refine XS.lcmp X0.here hx rfl (hb hby d12_16) rfl ?_
    show Steps p.tables e below (s₁.setTop (mkF m 17 #[.val (.long q1), .second, .val (.int (128 : Int32))] [(.int (lcmpW q1 (127 : Int64)))])) _
    refine XS.ifYes X0.here hx rfl (pc0 := 17) (pc' := 31) rfl (hb hby d12_17) rfl ((if0 _ _).trans (tlt hc17).2.2.1) (by decide) (by decide) ?_
    show Steps p.tables e below (s₁.setTop (mkF m 31 #[.val (.long q1), .second, .val (.int (128 : Int32))] [])) _
    refine st2 _ ?_
    show Steps p.tables e below (T2.setTop (mkF m 34 #[.val (.long q1), .second, .val (.int (128 : Int32))] [(.ref b2)])) _
    refine XS.dup X2.here hx rfl (hb hby d12_34) rfl rfl ?_
    show Steps p.tables e below (T2.setTop (mkF m 35 #[.val (.long q1), .second, .val (.int (128 : Int32))] [(.ref b2), (.ref b2)])) _
    refine XS.lloadN X2.here hx rfl (hb hby d12_35) rfl ?_
    show Steps p.tables e below (T2.setTop (mkF m 36 #[.val (.long q1), .second, .val (.int (128 : Int32))] [(.long q1), (.ref b2), (.ref b2)])) _
    refine st3.trans ?_
    show Steps p.tables e below (T3.setTop (mkF m 39 #[.val (.long q1), .second, .val (.int (128 : Int32))] [(.ref b2)])) _
    jvm_step X3.here [X3.here.top, hx, (hb hby d12_39), X3.method', Bd.returns, Value.isRef, FieldType.isReference]
    first | (intro acts; rw [hr _ acts rfl rfl rfl]) | rw [hr _ _ rfl rfl rfl]
    exact Steps.refl _
  · show Q12 Z q1 h0 n0 _ T3.heap _
    exact ⟨b2, rfl, N3, (K2.trans K3q (allS (Or.inr sz_b2) all0))⟩
theorem d12_20 : decode jdk_35_method_24_code 20 = .ok (.getstatic 234, 3) := by decide +kernel
theorem d12_23 : decode jdk_35_method_24_code 23 = .ok (.lload_n 0, 1) := by decide +kernel
theorem d12_24 : decode jdk_35_method_24_code 24 = .ok (.l2i, 1) := by decide +kernel
theorem d12_25 : decode jdk_35_method_24_code 25 = .ok (.sipush 128, 3) := by decide +kernel
theorem d12_28 : decode jdk_35_method_24_code 28 = .ok (.iadd, 1) := by decide +kernel
theorem d12_29 : decode jdk_35_method_24_code 29 = .ok (.aaload, 1) := by decide +kernel
theorem d12_30 : decode jdk_35_method_24_code 30 = .ok (.areturn, 1) := by decide +kernel
def Q12f (Z : State) (q1 : Int64) (w2 : Addr) (w4 : Addr) (cl_w2 : Cell) (h0 : Heap) (n0 : Nat) (v : Option Value) (h : Heap) (L : List Loc) : Prop := v = some (.ref w4) ∧ Fr n0 L ∧ h = h0
set_option maxRecDepth 65536 in
set_option maxHeartbeats 40000000 in
theorem rm12ff (l : Launch) (Z : State) (a0 : Array Value) (hw : ∀ d ∈ tables_1, d.before a0 Z = true) (ws : List Jvm.Cond) (q1 : Int64) (w2 : Addr) (w4 : Addr) (cl_w2 : Cell) (h0 : Heap) (n0 : Nat) (Z0 : n0 ≤ h0.size) (S_cache : Sta Z h0 "java/lang/Long$LongCache" "cache" "[Ljava/lang/Long;" (.ref w2)) (Ar_w2 : Arr Z h0 w2 cl_w2 (.object "java/lang/Long")) (hin29 : ¬ (((q1.toInt32) + (128 : Int32)) < 0 ∨ cl_w2.slots.size ≤ (((q1.toInt32) + (128 : Int32))).toNatClampNeg)) (hat29 : cl_w2.slots[(((q1.toInt32) + (128 : Int32))).toNatClampNeg]? = some (.ref w4)) (hc9 : ¬ ((lcmpW q1 (-128 : Int64)) < (0 : Int32))) (hc17 : ¬ ((0 : Int32) < (lcmpW q1 (127 : Int64)))) :
    MetFree l (⟨"java/lang/Long", "valueOf", "(J)Ljava/lang/Long;"⟩ : MethodName) (head1 (Jvm.Cond.code (⟨"java/lang/Long", "valueOf", "(J)Ljava/lang/Long;"⟩ : MethodName) jdk_35_method_24_code 3 (some (.object "java/lang/Long")) :: ws) ({ frames := 3, cells := 1, slots := 1, locals := 39 } : Room)) (fun a U => a = #[(.long q1)] ∧ Z.Warmed39 U.vm ∧ U.heap = h0) (fun _ _ _ _ _ => True) (fun _ U o U' => ∃ v L, o = .returned v ∧ Q12f Z q1 w2 w4 cl_w2 h0 n0 v U'.heap L ∧ FrameEnd U o U' L ({ frames := 3, cells := 1, slots := 1, locals := 39 } : Room).cells ({ frames := 3, cells := 1, slots := 1, locals := 39 } : Room).slots) := by
  refine MetFree.of_bodySF (plainFor_of_name pn_12) hisR ?_
  intro p e s m args below meth c s₁ Bd hml0 hP hK
  obtain ⟨rfl, hZ, hh⟩ := hP
  have hx := Bd.exec
  have hby := Bd.bytes
  have hml : c.maxLocals = 3 := hml0
  have hown : s.vm.findClass "java/lang/Long" = some m.cls := findClass_of_methodNamed Bd.named
  have hnm := (name_of_methodNamed Bd.named Bd.method).1
  have X0 : Stand p l e ({ frames := 3, cells := 1, slots := 1, locals := 39 } : Room) s m #[(.long q1)] below meth c s₁ [] 0 0 := Stand.of_body Bd
  have e0 : s₁.heap = h0 := by rw [← hh, Bd.state]; rfl
  have N0 := Fr.nil n0
  have pre0 : ∀ t, Steps p.tables e below (s₁.setTop (mkF m 0 #[.val (.long q1), .second, .unset] [])) t → Steps p.tables e below (s₁.setTop (entryFrame m #[(.long q1)] 3)) t := fun t k => castTop (ef_12 m q1) k
  -- 3. LAWS
  obtain ⟨T3, X3, e3, st3⟩ := getS2 X0 hx hZ hown (host := "") (Or.inl (hw _ (List.mem_of_getElem? (i := 98) rfl))) Via.refl e0 S_cache (g := (mkF m 20 #[.val (.long q1), .second, .val (.int (128 : Int32))] [])) rfl (hb hby d12_20)
  obtain ⟨fs, hr, hrun, hended, hW, hsame⟩ := X3.leave (v := some (.ref w4)) (fun h => by rw [Bd.returns] at h; cases h)
  refine ⟨_, _, pre0 _ ?_, hrun, hended, _, _, rfl, ?_, ⟨_, rfl⟩, hW, hsame.mono (by decide) (by decide)⟩
  -- 4. STEPS
  · show Steps p.tables e below (s₁.setTop (mkF m 0 #[.val (.long q1), .second, .unset] [])) _
    refine XS.sipush X0.here hx rfl (hb hby d12_0) ?_
    show Steps p.tables e below (s₁.setTop (mkF m 3 #[.val (.long q1), .second, .unset] [(.int (128 : Int32))])) _
    refine XS.istoreN X0.here hx rfl (hb hby d12_3) rfl (l' := #[.val (.long q1), .second, .val (.int (128 : Int32))]) rfl ?_
    show Steps p.tables e below (s₁.setTop (mkF m 4 #[.val (.long q1), .second, .val (.int (128 : Int32))] [])) _
    refine XS.lloadN X0.here hx rfl (hb hby d12_4) rfl ?_
    show Steps p.tables e below (s₁.setTop (mkF m 5 #[.val (.long q1), .second, .val (.int (128 : Int32))] [(.long q1)])) _
    refine X0.ldc2Long hx hown (mvT hZ (hw _ (List.mem_of_getElem? (i := 65) rfl))) (g := (mkF m 5 #[.val (.long q1), .second, .val (.int (128 : Int32))] [(.long q1)])) rfl (hb hby d12_5) _ ?_
    show Steps p.tables e below (s₁.setTop (mkF m 8 #[.val (.long q1), .second, .val (.int (128 : Int32))] [(.long (-128 : Int64)), (.long q1)])) _
    refine XS.lcmp X0.here hx rfl (hb hby d12_8) rfl ?_
    show Steps p.tables e below (s₁.setTop (mkF m 9 #[.val (.long q1), .second, .val (.int (128 : Int32))] [(.int (lcmpW q1 (-128 : Int64)))])) _
    refine XS.ifNo X0.here hx rfl (hb hby d12_9) rfl ((if0 _ _).trans (flt hc9).1) ?_
    show Steps p.tables e below (s₁.setTop (mkF m 12 #[.val (.long q1), .second, .val (.int (128 : Int32))] [])) _
    refine XS.lloadN X0.here hx rfl (hb hby d12_12) rfl ?_
    show Steps p.tables e below (s₁.setTop (mkF m 13 #[.val (.long q1), .second, .val (.int (128 : Int32))] [(.long q1)])) _
    refine X0.ldc2Long hx hown (mvT hZ (hw _ (List.mem_of_getElem? (i := 66) rfl))) (g := (mkF m 13 #[.val (.long q1), .second, .val (.int (128 : Int32))] [(.long q1)])) rfl (hb hby d12_13) _ ?_
    show Steps p.tables e below (s₁.setTop (mkF m 16 #[.val (.long q1), .second, .val (.int (128 : Int32))] [(.long (127 : Int64)), (.long q1)])) _
    refine XS.lcmp X0.here hx rfl (hb hby d12_16) rfl ?_
    show Steps p.tables e below (s₁.setTop (mkF m 17 #[.val (.long q1), .second, .val (.int (128 : Int32))] [(.int (lcmpW q1 (127 : Int64)))])) _
    refine XS.ifNo X0.here hx rfl (hb hby d12_17) rfl ((if0 _ _).trans (flt hc17).2.2.1) ?_
    show Steps p.tables e below (s₁.setTop (mkF m 20 #[.val (.long q1), .second, .val (.int (128 : Int32))] [])) _
    refine st3 _ ?_
    show Steps p.tables e below (T3.setTop (mkF m 23 #[.val (.long q1), .second, .val (.int (128 : Int32))] [(.ref w2)])) _
    refine XS.lloadN X3.here hx rfl (hb hby d12_23) rfl ?_
    show Steps p.tables e below (T3.setTop (mkF m 24 #[.val (.long q1), .second, .val (.int (128 : Int32))] [(.long q1), (.ref w2)])) _
    refine XS.l2i X3.here hx rfl (hb hby d12_24) rfl ?_
    show Steps p.tables e below (T3.setTop (mkF m 25 #[.val (.long q1), .second, .val (.int (128 : Int32))] [(.int (q1.toInt32)), (.ref w2)])) _
    refine XS.sipush X3.here hx rfl (hb hby d12_25) ?_
    show Steps p.tables e below (T3.setTop (mkF m 28 #[.val (.long q1), .second, .val (.int (128 : Int32))] [(.int (128 : Int32)), (.int (q1.toInt32)), (.ref w2)])) _
    refine XS.iadd X3.here hx rfl (hb hby d12_28) rfl ?_
    show Steps p.tables e below (T3.setTop (mkF m 29 #[.val (.long q1), .second, .val (.int (128 : Int32))] [(.int ((q1.toInt32) + (128 : Int32))), (.ref w2)])) _
    refine X3.aaload hx (j := ((q1.toInt32) + (128 : Int32))) (v := (.ref w4)) (by rw [e3]; exact Ar_w2.1) (State.isArrayOf_alike hZ.alike Ar_w2.2.1) rfl Ar_w2.2.2 hin29 hat29 (g := (mkF m 29 #[.val (.long q1), .second, .val (.int (128 : Int32))] [(.int ((q1.toInt32) + (128 : Int32))), (.ref w2)])) rfl rfl (hb hby d12_29) _ ?_
    show Steps p.tables e below (T3.setTop (mkF m 30 #[.val (.long q1), .second, .val (.int (128 : Int32))] [(.ref w4)])) _
    jvm_step X3.here [X3.here.top, hx, (hb hby d12_30), X3.method', Bd.returns, Value.isRef, FieldType.isReference]
    first | (intro acts; rw [hr _ acts rfl rfl rfl]) | rw [hr _ _ rfl rfl rfl]
    exact Steps.refl _
  · show Q12f Z q1 w2 w4 cl_w2 h0 n0 _ T3.heap _
    rw [e3]
    exact ⟨rfl, N0, rfl⟩
set_option maxHeartbeats 4000000 in
theorem rm12 (l : Launch) (Z : State) (a0 : Array Value) (hw : ∀ d ∈ tables_1, d.before a0 Z = true) (ws : List Jvm.Cond) (q1 : Int64) (h0 : Heap) (n0 : Nat) (Z0 : n0 ≤ h0.size) (C0 : own_cache Z h0) :
    MetFree l (⟨"java/lang/Long", "valueOf", "(J)Ljava/lang/Long;"⟩ : MethodName) (head1 (Jvm.Cond.code (⟨"java/lang/Long", "valueOf", "(J)Ljava/lang/Long;"⟩ : MethodName) jdk_35_method_24_code 3 (some (.object "java/lang/Long")) :: ws) ({ frames := 3, cells := 1, slots := 1, locals := 39 } : Room)) (fun a U => a = #[(.long q1)] ∧ Z.Warmed39 U.vm ∧ U.heap = h0) (fun _ _ _ _ _ => True) (fun _ U o U' => ∃ v L, o = .returned v ∧ Q12 Z q1 h0 n0 v U'.heap L ∧ FrameEnd U o U' L ({ frames := 3, cells := 1, slots := 1, locals := 39 } : Room).cells ({ frames := 3, cells := 1, slots := 1, locals := 39 } : Room).slots) := by
  by_cases h1 : (lcmpW q1 (-128 : Int64)) < (0 : Int32)
  · exact rm12t l Z a0 hw ws q1 h0 n0 Z0 h1
  · by_cases h2 : (0 : Int32) < (lcmpW q1 (127 : Int64))
    · exact rm12ft l Z a0 hw ws q1 h0 n0 Z0 h1 h2
    · obtain ⟨w, cl, c1, c2, c3, c4⟩ := C0
      obtain ⟨i1, i2⟩ := own_idx h1 h2
      obtain ⟨b, d1, d2⟩ := c4 _ i2
      have R := rm12ff l Z a0 hw ws q1 w b cl h0 n0 Z0 c1 c2 (fun q => q.elim i1 (fun z => by omega)) d1 h1 h2
      refine R.mono (fun _ _ h => h) (fun _ _ _ _ _ h => h) (fun _ _ _ _ _ h => ?_)
      obtain ⟨v, L, r1, ⟨r2, r3, r4⟩, r5⟩ := h
      exact ⟨v, L, r1, ⟨b, r2, r3, by rw [r4]; exact Keep.refl _ _⟩, r5⟩
theorem d16_0 : decode jdk_31_method_10_code 0 = .ok (.aload_n 0, 1) := by decide +kernel
theorem d16_1 : decode jdk_31_method_10_code 1 = .ok (.ifnonnull 11, 3) := by decide +kernel
theorem d16_12 : decode jdk_31_method_10_code 12 = .ok (.aload_n 0, 1) := by decide +kernel
theorem d16_13 : decode jdk_31_method_10_code 13 = .ok (.areturn, 1) := by decide +kernel
theorem pn_16 : plainName "java/util/Objects" = true := by first | (simp [plainName, overriddenIn]; done) | decide +kernel
theorem ef_16 (m : MethodId) (x0 : Addr) : entryFrame m #[(.ref x0)] 1 = mkF m 0 #[.val (.ref x0)] [] := by first | (simp [entryFrame, mkF, argsToLocals, Value.category]; done) | rfl
def Q16 (Z : State) (a1 : Addr) (h0 : Heap) (n0 : Nat) (v : Option Value) (h : Heap) (L : List Loc) : Prop := v = some (.ref a1) ∧ Fr n0 L ∧ h = h0
set_option maxRecDepth 65536 in
set_option maxHeartbeats 40000000 in
theorem rm16 (l : Launch) (Z : State) (a0 : Array Value) (hw : ∀ d ∈ tables_1, d.before a0 Z = true) (ws : List Jvm.Cond) (a1 : Addr) (h0 : Heap) (n0 : Nat) (Z0 : n0 ≤ h0.size) :
    MetFree l (⟨"java/util/Objects", "requireNonNull", "(Ljava/lang/Object;)Ljava/lang/Object;"⟩ : MethodName) (head1 (Jvm.Cond.code (⟨"java/util/Objects", "requireNonNull", "(Ljava/lang/Object;)Ljava/lang/Object;"⟩ : MethodName) jdk_31_method_10_code 1 (some (.object "java/lang/Object")) :: ws) ({ frames := 0, cells := 0, slots := 0, locals := 0 } : Room)) (fun a U => a = #[(.ref a1)] ∧ Z.Warmed39 U.vm ∧ U.heap = h0) (fun _ _ _ _ _ => True) (fun _ U o U' => ∃ v L, o = .returned v ∧ Q16 Z a1 h0 n0 v U'.heap L ∧ FrameEnd U o U' L ({ frames := 0, cells := 0, slots := 0, locals := 0 } : Room).cells ({ frames := 0, cells := 0, slots := 0, locals := 0 } : Room).slots) := by
  refine MetFree.of_bodySF (plainFor_of_name pn_16) hisR ?_
  intro p e s m args below meth c s₁ Bd hml0 hP hK
  obtain ⟨rfl, hZ, hh⟩ := hP
  have hx := Bd.exec
  have hby := Bd.bytes
  have hml : c.maxLocals = 1 := hml0
  have hown : s.vm.findClass "java/util/Objects" = some m.cls := findClass_of_methodNamed Bd.named
  have hnm := (name_of_methodNamed Bd.named Bd.method).1
  have X0 : Stand p l e ({ frames := 0, cells := 0, slots := 0, locals := 0 } : Room) s m #[(.ref a1)] below meth c s₁ [] 0 0 := Stand.of_body Bd
  have e0 : s₁.heap = h0 := by rw [← hh, Bd.state]; rfl
  have N0 := Fr.nil n0
  have pre0 : ∀ t, Steps p.tables e below (s₁.setTop (mkF m 0 #[.val (.ref a1)] [])) t → Steps p.tables e below (s₁.setTop (entryFrame m #[(.ref a1)] 1)) t := fun t k => castTop (ef_16 m a1) k
  -- 3. LAWS

  obtain ⟨fs, hr, hrun, hended, hW, hsame⟩ := X0.leave (v := some (.ref a1)) (fun h => by rw [Bd.returns] at h; cases h)
  refine ⟨_, _, pre0 _ ?_, hrun, hended, _, _, rfl, ?_, ⟨_, rfl⟩, hW, hsame.mono (by decide) (by decide)⟩
  -- 4. STEPS
  · show Steps p.tables e below (s₁.setTop (mkF m 0 #[.val (.ref a1)] [])) _
    refine XS.aloadN X0.here hx rfl (hb hby d16_0) rfl rfl ?_
    show Steps p.tables e below (s₁.setTop (mkF m 1 #[.val (.ref a1)] [(.ref a1)])) _
    refine XS.ifnonnullYes X0.here hx rfl (pc0 := 1) (pc' := 12) rfl (hb hby d16_1) rfl (by decide) (by decide) ?_
    show Steps p.tables e below (s₁.setTop (mkF m 12 #[.val (.ref a1)] [])) _
    refine XS.aloadN X0.here hx rfl (hb hby d16_12) rfl rfl ?_
    show Steps p.tables e below (s₁.setTop (mkF m 13 #[.val (.ref a1)] [(.ref a1)])) _
    jvm_step X0.here [X0.here.top, hx, (hb hby d16_13), X0.method', Bd.returns, Value.isRef, FieldType.isReference]
    first | (intro acts; rw [hr _ acts rfl rfl rfl]) | rw [hr _ _ rfl rfl rfl]
    exact Steps.refl _
  · show Q16 Z a1 h0 n0 _ s₁.heap _
    rw [e0]
    exact ⟨rfl, N0, rfl⟩
theorem d17_0 : decode jdk_32_method_2_code 0 = .ok (.aload_n 0, 1) := by decide +kernel
theorem d17_1 : decode jdk_32_method_2_code 1 = .ok (.invokespecial 7, 3) := by decide +kernel
theorem d17_4 : decode jdk_32_method_2_code 4 = .ok (.aload_n 0, 1) := by decide +kernel
theorem d17_5 : decode jdk_32_method_2_code 5 = .ok (.aload_n 1, 1) := by decide +kernel
theorem d17_6 : decode jdk_32_method_2_code 6 = .ok (.putfield 13, 3) := by decide +kernel
theorem d17_9 : decode jdk_32_method_2_code 9 = .ok (.return_, 1) := by decide +kernel
theorem pn_17 : plainName "java/util/Optional" = true := by first | (simp [plainName, overriddenIn]; done) | decide +kernel
theorem ef_17 (m : MethodId) (x0 : Addr) (x1 : Addr) : entryFrame m #[(.ref x0), (.ref x1)] 2 = mkF m 0 #[.val (.ref x0), .val (.ref x1)] [] := by first | (simp [entryFrame, mkF, argsToLocals, Value.category]; done) | rfl
def Q17 (Z : State) (a1 : Addr) (a2 : Addr) (u_value_a1 : Value) (h0 : Heap) (n0 : Nat) (v : Option Value) (h : Heap) (L : List Loc) : Prop := v = none ∧ Fr n0 L ∧ Keep h0 h [a1] ∧ Exa Z h a1 "java/util/Optional" ∧ Fld Z h a1 "java/util/Optional" "value" "Ljava/lang/Object;" (.ref a2)
set_option maxRecDepth 65536 in
set_option maxHeartbeats 40000000 in
theorem rm17 (l : Launch) (Z : State) (a0 : Array Value) (hw : ∀ d ∈ tables_1, d.before a0 Z = true) (ws : List Jvm.Cond) (a1 : Addr) (a2 : Addr) (u_value_a1 : Value) (h0 : Heap) (n0 : Nat) (Z0 : n0 ≤ h0.size) (E_a1 : Exa Z h0 a1 "java/util/Optional") (F_value_a1 : Fld Z h0 a1 "java/util/Optional" "value" "Ljava/lang/Object;" u_value_a1) (g_a1 : n0 ≤ a1) :
    MetFree l (⟨"java/util/Optional", "<init>", "(Ljava/lang/Object;)V"⟩ : MethodName) (head1 (Jvm.Cond.code (⟨"java/util/Optional", "<init>", "(Ljava/lang/Object;)V"⟩ : MethodName) jdk_32_method_2_code 2 none :: ws) ({ frames := 1, cells := 0, slots := 0, locals := 12 } : Room)) (fun a U => a = #[(.ref a1), (.ref a2)] ∧ Z.Warmed39 U.vm ∧ U.heap = h0) (fun _ _ _ _ _ => True) (fun _ U o U' => ∃ v L, o = .returned v ∧ Q17 Z a1 a2 u_value_a1 h0 n0 v U'.heap L ∧ FrameEnd U o U' L ({ frames := 1, cells := 0, slots := 0, locals := 12 } : Room).cells ({ frames := 1, cells := 0, slots := 0, locals := 12 } : Room).slots) := by
  refine MetFree.of_bodySF (plainFor_of_name pn_17) hisR ?_
  intro p e s m args below meth c s₁ Bd hml0 hP hK
  obtain ⟨rfl, hZ, hh⟩ := hP
  have hx := Bd.exec
  have hby := Bd.bytes
  have hml : c.maxLocals = 2 := hml0
  have hown : s.vm.findClass "java/util/Optional" = some m.cls := findClass_of_methodNamed Bd.named
  have hnm := (name_of_methodNamed Bd.named Bd.method).1
  have X0 : Stand p l e ({ frames := 1, cells := 0, slots := 0, locals := 12 } : Room) s m #[(.ref a1), (.ref a2)] below meth c s₁ [] 0 0 := Stand.of_body Bd
  have e0 : s₁.heap = h0 := by rw [← hh, Bd.state]; rfl
  have N0 := Fr.nil n0
  have pre0 : ∀ t, Steps p.tables e below (s₁.setTop (mkF m 0 #[.val (.ref a1), .val (.ref a2)] [])) t → Steps p.tables e below (s₁.setTop (entryFrame m #[(.ref a1), (.ref a2)] 2)) t := fun t k => castTop (ef_17 m a1 a2) k
  -- 3. LAWS
  obtain ⟨T3, X3, e3, st3⟩ := initO X0 hx hZ hown (hw _ (List.mem_of_getElem? (i := 95) rfl)) (hw _ (List.mem_of_getElem? (i := 8) rfl)) (hw _ (List.mem_of_getElem? (i := 9) rfl)) e0 (g := (mkF m 1 #[.val (.ref a1), .val (.ref a2)] [(.ref a1)])) rfl (by rw [hml]; rfl) rfl (hb hby d17_1) (by decide) (W := 0) (by show 2 * 0 + _ ≤ _; exact Nat.le_of_eq rfl) (by decide)
  obtain ⟨T4, h4, X4, e4, W4, st4⟩ := putF X3 hx hZ hown (host := "") (Or.inl (hw _ (List.mem_of_getElem? (i := 96) rfl))) Via.refl e3 F_value_a1 E_a1 (Or.inr ⟨(hw _ (List.mem_of_getElem? (i := 97) rfl)), rfl, hnm⟩) (hw _ (List.mem_of_getElem? (i := 86) rfl)) (ty := (.object "java/lang/Object")) (by decide) rfl rfl (g := (mkF m 6 #[.val (.ref a1), .val (.ref a2)] [(.ref a2), (.ref a1)])) rfl rfl (hb hby d17_6)
  have Z4 : n0 ≤ h4.size := Nat.le_trans Z0 (Keep.of_wr W4).1
  have Fw4 := F_value_a1.same W4      -- the field now holds (.ref a2)
  have K4 : Keep h0 h4 [a1] := (Keep.refl h0 [a1]).wr W4 (Or.inl (List.mem_of_getElem? (i := 0) rfl))
  have N4 := Fr.snoc X4 N0 g_a1
  obtain ⟨fs, hr, hrun, hended, hW, hsame⟩ := X4.leave (v := none) (fun _ => rfl)
  refine ⟨_, _, pre0 _ ?_, hrun, hended, _, _, rfl, ?_, ⟨_, rfl⟩, hW, hsame.mono (by decide) (by decide)⟩
  -- 4. STEPS
  · show Steps p.tables e below (s₁.setTop (mkF m 0 #[.val (.ref a1), .val (.ref a2)] [])) _
    refine XS.aloadN X0.here hx rfl (hb hby d17_0) rfl rfl ?_
    show Steps p.tables e below (s₁.setTop (mkF m 1 #[.val (.ref a1), .val (.ref a2)] [(.ref a1)])) _
    refine st3 _ ?_
    show Steps p.tables e below (T3.setTop (mkF m 4 #[.val (.ref a1), .val (.ref a2)] [])) _
    refine XS.aloadN X3.here hx rfl (hb hby d17_4) rfl rfl ?_
    show Steps p.tables e below (T3.setTop (mkF m 5 #[.val (.ref a1), .val (.ref a2)] [(.ref a1)])) _
    refine XS.aloadN X3.here hx rfl (hb hby d17_5) rfl rfl ?_
    show Steps p.tables e below (T3.setTop (mkF m 6 #[.val (.ref a1), .val (.ref a2)] [(.ref a2), (.ref a1)])) _
    refine st4 _ ?_
    show Steps p.tables e below (T4.setTop (mkF m 9 #[.val (.ref a1), .val (.ref a2)] [])) _
    exact X4.returnOut hx Bd.returns (hb hby d17_9) hr
  · show Q17 Z a1 a2 u_value_a1 h0 n0 _ T4.heap _
    rw [e4]
    exact ⟨rfl, N4, K4, (E_a1.wr W4), Fw4⟩
theorem d15_0 : decode jdk_32_method_3_code 0 = .ok (.new 2, 3) := by decide +kernel
theorem d15_3 : decode jdk_32_method_3_code 3 = .ok (.dup, 1) := by decide +kernel
theorem d15_4 : decode jdk_32_method_3_code 4 = .ok (.aload_n 0, 1) := by decide +kernel
theorem d15_5 : decode jdk_32_method_3_code 5 = .ok (.invokestatic 17, 3) := by decide +kernel
theorem d15_8 : decode jdk_32_method_3_code 8 = .ok (.invokespecial 23, 3) := by decide +kernel
theorem d15_11 : decode jdk_32_method_3_code 11 = .ok (.areturn, 1) := by decide +kernel
theorem pn_15 : plainName "java/util/Optional" = true := by first | (simp [plainName, overriddenIn]; done) | decide +kernel
theorem pd_15_10 : parseMethodDescriptor "(Ljava/lang/Object;)Ljava/lang/Object;" = some ⟨[(.object "java/lang/Object")], some (.object "java/lang/Object")⟩ := by decide +kernel
theorem pd_15_11 : parseMethodDescriptor "(Ljava/lang/Object;)V" = some ⟨[(.object "java/lang/Object")], none⟩ := by decide +kernel
theorem ef_15 (m : MethodId) (x0 : Addr) : entryFrame m #[(.ref x0)] 1 = mkF m 0 #[.val (.ref x0)] [] := by first | (simp [entryFrame, mkF, argsToLocals, Value.category]; done) | rfl
def Q15 (Z : State) (a1 : Addr) (h0 : Heap) (n0 : Nat) (v : Option Value) (h : Heap) (L : List Loc) : Prop := ∃ b : Addr, v = some (.ref b) ∧ Fr n0 L ∧ Keep h0 h []
set_option maxRecDepth 65536 in
set_option maxHeartbeats 40000000 in
theorem rm15 (l : Launch) (Z : State) (a0 : Array Value) (hw : ∀ d ∈ tables_1, d.before a0 Z = true) (ws : List Jvm.Cond) (a1 : Addr) (h0 : Heap) (n0 : Nat) (Z0 : n0 ≤ h0.size) :
    MetFree l (⟨"java/util/Optional", "of", "(Ljava/lang/Object;)Ljava/util/Optional;"⟩ : MethodName) (head1 (Jvm.Cond.code (⟨"java/util/Optional", "of", "(Ljava/lang/Object;)Ljava/util/Optional;"⟩ : MethodName) jdk_32_method_3_code 1 (some (.object "java/util/Optional")) :: ws) ({ frames := 2, cells := 1, slots := 1, locals := 26 } : Room)) (fun a U => a = #[(.ref a1)] ∧ Z.Warmed39 U.vm ∧ U.heap = h0) (fun _ _ _ _ _ => True) (fun _ U o U' => ∃ v L, o = .returned v ∧ Q15 Z a1 h0 n0 v U'.heap L ∧ FrameEnd U o U' L ({ frames := 2, cells := 1, slots := 1, locals := 26 } : Room).cells ({ frames := 2, cells := 1, slots := 1, locals := 26 } : Room).slots) := by
  refine MetFree.of_bodySF (plainFor_of_name pn_15) hisR ?_
  intro p e s m args below meth c s₁ Bd hml0 hP hK
  obtain ⟨rfl, hZ, hh⟩ := hP
  have hx := Bd.exec
  have hby := Bd.bytes
  have hml : c.maxLocals = 1 := hml0
  have hown : s.vm.findClass "java/util/Optional" = some m.cls := findClass_of_methodNamed Bd.named
  have hnm := (name_of_methodNamed Bd.named Bd.method).1
  have X0 : Stand p l e ({ frames := 2, cells := 1, slots := 1, locals := 26 } : Room) s m #[(.ref a1)] below meth c s₁ [] 0 0 := Stand.of_body Bd
  have e0 : s₁.heap = h0 := by rw [← hh, Bd.state]; rfl
  have N0 := Fr.nil n0
  have pre0 : ∀ t, Steps p.tables e below (s₁.setTop (mkF m 0 #[.val (.ref a1)] [])) t → Steps p.tables e below (s₁.setTop (entryFrame m #[(.ref a1)] 1)) t := fun t k => castTop (ef_15 m a1) k
  -- 3. LAWS
  obtain ⟨T2, h2, X2, e2, E2, A2, D2, -, st2⟩ := newO X0 hx hZ hown (hw _ (List.mem_of_getElem? (i := 85) rfl)) (hw _ (List.mem_of_getElem? (i := 86) rfl)) (hw _ (List.mem_of_getElem? (i := 29) rfl)) e0 (g := (mkF m 0 #[.val (.ref a1)] [])) rfl (hb hby d15_0) (by decide) (by decide)
  obtain ⟨b2, g2⟩ : ∃ z, z = h0.size := ⟨_, rfl⟩      -- the fresh object's address
  have Z2 : n0 ≤ h2.size := Nat.le_trans Z0 E2.1
  rw [← g2] at A2 D2 st2      -- A2 : Exa Z h2 b2 "java/util/Optional"; E2 : Ext h0 h2 (carries every older fact: .ext E2)
  have F_value_b2 : Fld Z h2 b2 "java/util/Optional" "value" "Ljava/lang/Object;" .null := D2 (Or.inr (hw _ (List.mem_of_getElem? (i := 97) rfl))) (ty := (.object "java/lang/Object")) (by decide)
  have E_b2 := A2
  have g_b2 : n0 ≤ b2 := Nat.le_trans Z0 (Nat.le_of_eq g2.symm)
  have sz_b2 : h0.size ≤ b2 := (Nat.le_trans (Keep.refl h0 []).1 (Nat.le_of_eq g2.symm))
  have K2 : Keep h0 h2 [] := (Keep.refl h0 []).ext E2
  have CE1_b2 := E_b2
  -- pc 5: java/util/Objects.requireNonNull by its contract rm16
  obtain ⟨_, _, ⟨T3, L3, k3, n3⟩, -, X3, ⟨Lc3, hQ3, l3, y3, z3⟩, st3⟩ := Jvm.LawKit.callS X2 hx (y := (⟨"java/util/Objects", "requireNonNull", "(Ljava/lang/Object;)Ljava/lang/Object;"⟩ : MethodName)) hown (mvT hZ (hw _ (List.mem_of_getElem? (i := 87) rfl))) (mvT hZ (hw _ (List.mem_of_getElem? (i := 88) rfl))) (mvT hZ (hw _ (List.mem_of_getElem? (i := 89) rfl))) (mvT hZ (hw _ (List.mem_of_getElem? (i := 90) rfl))) (by decide) (backOf (W := 2) (rm16 l Z a0 hw [] a1 h2 n0 Z2) hZ (hw _ (List.mem_of_getElem? (i := 90) rfl)) (hw _ (List.mem_of_getElem? (i := 89) rfl)) (by decide) (by decide)) (g := (mkF m 5 #[.val (.ref a1)] [(.ref a1), (.ref b2), (.ref b2)])) rfl (by rw [hml]; rfl) (argsL := [(.ref a1)]) (rest := [(.ref b2), (.ref b2)]) (lenOf pd_15_10 rfl) rfl (by show 2 * 0 + _ ≤ _; exact Nat.le_of_eq rfl) (hb hby d15_5) (fun _ _ => ⟨rfl, e2, (by decide : 1 + 0 ≤ _), (by decide : 1 + 0 ≤ _)⟩)
  dsimp only [Pt.U, Pt.locs, Pt.cells, Pt.slots] at X3 l3 y3 z3 st3 hQ3
  subst l3 y3 z3
  obtain ⟨rfl, N3q, E3q⟩ := hQ3
  have K3q : Keep h2 T3.heap [] := by rw [E3q]; exact Keep.refl _ _
  have Z3 : n0 ≤ T3.heap.size := Nat.le_trans Z2 K3q.1
  have N3 := Fr.app N0 N3q
  have CE2_b2 := (E_b2.keep K3q)
  -- pc 8: the constructor of java/util/Optional by its contract rm17
  obtain ⟨_, _, ⟨T4, L4, k4, n4⟩, -, X4, ⟨Lc4, hQ4, l4, y4, z4⟩, st4⟩ := X3.specialBack hx (y := (⟨"java/util/Optional", "<init>", "(Ljava/lang/Object;)V"⟩ : MethodName)) rfl hown (mvT hZ (hw _ (List.mem_of_getElem? (i := 91) rfl))) (mvT hZ (hw _ (List.mem_of_getElem? (i := 92) rfl))) (mvT hZ (hw _ (List.mem_of_getElem? (i := 94) rfl))) (by decide) (backOf (W := 1) (rm17 l Z a0 hw [] b2 a1 .null T3.heap n0 Z3 (E_b2.keep K3q) (F_value_b2.keep K3q nin0) g_b2) hZ (hw _ (List.mem_of_getElem? (i := 94) rfl)) (hw _ (List.mem_of_getElem? (i := 29) rfl)) (by decide) (by decide)) (g := (mkF m 8 #[.val (.ref a1)] [(.ref a1), (.ref b2), (.ref b2)])) rfl (by rw [hml]; rfl) (Steps.refl _) (a := b2) (argsL := [(.ref a1)]) (rest := [(.ref b2)]) (lenOf pd_15_11 rfl) rfl (by show 2 * 0 + _ ≤ _; exact Nat.le_of_eq rfl) (hb hby d15_8) (fun _ _ => ⟨rfl, rfl, (by decide : 1 + 0 ≤ _), (by decide : 1 + 0 ≤ _)⟩)
  dsimp only [Pt.U, Pt.locs, Pt.cells, Pt.slots] at X4 l4 y4 z4 st4 hQ4
  subst l4 y4 z4
  obtain ⟨rfl, N4q, K4q, E4x, F4x⟩ := hQ4
  have Z4 : n0 ≤ T4.heap.size := Nat.le_trans Z3 K4q.1
  have N4 := Fr.app N3 N4q
  obtain ⟨fs, hr, hrun, hended, hW, hsame⟩ := X4.leave (v := some (.ref b2)) (fun h => by rw [Bd.returns] at h; cases h)
  refine ⟨_, _, pre0 _ ?_, hrun, hended, _, _, rfl, ?_, ⟨_, rfl⟩, hW, hsame.mono (by decide) (by decide)⟩
  -- 4. STEPS
  · show Steps p.tables e below (s₁.setTop (mkF m 0 #[.val (.ref a1)] [])) _
    refine st2 _ ?_
    show Steps p.tables e below (T2.setTop (mkF m 3 #[.val (.ref a1)] [(.ref b2)])) _
    refine XS.dup X2.here hx rfl (hb hby d15_3) rfl rfl ?_
    show Steps p.tables e below (T2.setTop (mkF m 4 #[.val (.ref a1)] [(.ref b2), (.ref b2)])) _
    refine XS.aloadN X2.here hx rfl (hb hby d15_4) rfl rfl ?_
    show Steps p.tables e below (T2.setTop (mkF m 5 #[.val (.ref a1)] [(.ref a1), (.ref b2), (.ref b2)])) _
    refine st3 _ ?_
    show Steps p.tables e below (T3.setTop (mkF m 8 #[.val (.ref a1)] [(.ref a1), (.ref b2), (.ref b2)])) _
    refine st4.trans ?_
    show Steps p.tables e below (T4.setTop (mkF m 11 #[.val (.ref a1)] [(.ref b2)])) _
    jvm_step X4.here [X4.here.top, hx, (hb hby d15_11), X4.method', Bd.returns, Value.isRef, FieldType.isReference]
    first | (intro acts; rw [hr _ acts rfl rfl rfl]) | rw [hr _ _ rfl rfl rfl]
    exact Steps.refl _
  · show Q15 Z a1 h0 n0 _ T4.heap _
    exact ⟨b2, rfl, N4, ((K2.trans K3q all0).trans K4q (allS (Or.inr sz_b2) all0))⟩
theorem d11_0 : decode prog_58_method_7_code 0 = .ok (.aload_n 0, 1) := by decide +kernel
theorem d11_1 : decode prog_58_method_7_code 1 = .ok (.invokevirtual 7, 3) := by decide +kernel
theorem d11_4 : decode prog_58_method_7_code 4 = .ok (.aload_n 0, 1) := by decide +kernel
theorem d11_5 : decode prog_58_method_7_code 5 = .ok (.lload_n 1, 1) := by decide +kernel
theorem d11_6 : decode prog_58_method_7_code 6 = .ok (.invokestatic 42, 3) := by decide +kernel
theorem d11_9 : decode prog_58_method_7_code 9 = .ok (.invokestatic 48, 3) := by decide +kernel
theorem d11_12 : decode prog_58_method_7_code 12 = .ok (.putfield 17, 3) := by decide +kernel
theorem d11_15 : decode prog_58_method_7_code 15 = .ok (.return_, 1) := by decide +kernel
theorem pn_11 : plainName "com/example/tideshift/tideshift/partition/AccessCounts" = true := by first | (simp [plainName, overriddenIn]; done) | decide +kernel
theorem pd_11_0 : parseMethodDescriptor "()V" = some ⟨[], none⟩ := by decide +kernel
theorem pd_11_8 : parseMethodDescriptor "(J)Ljava/lang/Long;" = some ⟨[.long], some (.object "java/lang/Long")⟩ := by decide +kernel
theorem pd_11_9 : parseMethodDescriptor "(Ljava/lang/Object;)Ljava/util/Optional;" = some ⟨[(.object "java/lang/Object")], some (.object "java/util/Optional")⟩ := by decide +kernel
theorem ef_11 (m : MethodId) (x0 : Addr) (x1 : Int64) : entryFrame m #[(.ref x0), (.long x1)] 3 = mkF m 0 #[.val (.ref x0), .val (.long x1), .second] [] := by first | (simp [entryFrame, mkF, argsToLocals, Value.category]; done) | rfl
def Q11 (Z : State) (a1 : Addr) (q2 : Int64) (u_reset_a1 : Value) (h0 : Heap) (n0 : Nat) (v : Option Value) (h : Heap) (L : List Loc) : Prop := v = none ∧ Fr n0 L ∧ Keep h0 h [a1] ∧ ∃ t u : Addr, own_AC Z h a1 t u (fun _ => 0) (fun _ => 0) 0 ∧ h0.size ≤ t ∧ h0.size ≤ u
set_option maxRecDepth 65536 in
set_option maxHeartbeats 40000000 in
theorem rm11 (l : Launch) (Z : State) (a0 : Array Value) (hw : ∀ d ∈ tables_1, d.before a0 Z = true) (ws : List Jvm.Cond) (a1 : Addr) (q2 : Int64) (u_reset_a1 : Value) (h0 : Heap) (n0 : Nat) (Z0 : n0 ≤ h0.size) (E_a1 : Exa Z h0 a1 "com/example/tideshift/tideshift/partition/AccessCounts") (F_reset_a1 : Fld Z h0 a1 "com/example/tideshift/tideshift/partition/AccessCounts" "reset" "Ljava/util/Optional;" u_reset_a1) (g_a1 : n0 ≤ a1) (u_keys_a1 u_counts_a1 u_shift_a1 u_size_a1 : Value) (F_keys_a1 : Fld Z h0 a1 "com/example/tideshift/tideshift/partition/AccessCounts" "keys" "[J" u_keys_a1) (F_counts_a1 : Fld Z h0 a1 "com/example/tideshift/tideshift/partition/AccessCounts" "counts" "[J" u_counts_a1) (F_shift_a1 : Fld Z h0 a1 "com/example/tideshift/tideshift/partition/AccessCounts" "shift" "I" u_shift_a1) (F_size_a1 : Fld Z h0 a1 "com/example/tideshift/tideshift/partition/AccessCounts" "size" "I" u_size_a1) (own_cc : own_cache Z Z.heap) (X00 : Old Z n0 h0) :
    MetFree l (⟨"com/example/tideshift/tideshift/partition/AccessCounts", "clear", "(J)V"⟩ : MethodName) (head1 (Jvm.Cond.code (⟨"com/example/tideshift/tideshift/partition/AccessCounts", "clear", "(J)V"⟩ : MethodName) prog_58_method_7_code 3 none :: ws) ({ frames := 4, cells := 4, slots := 34, locals := 54 } : Room)) (fun a U => a = #[(.ref a1), (.long q2)] ∧ Z.Warmed39 U.vm ∧ U.heap = h0) (fun _ _ _ _ _ => True) (fun _ U o U' => ∃ v L, o = .returned v ∧ Q11 Z a1 q2 u_reset_a1 h0 n0 v U'.heap L ∧ FrameEnd U o U' L ({ frames := 4, cells := 4, slots := 34, locals := 54 } : Room).cells ({ frames := 4, cells := 4, slots := 34, locals := 54 } : Room).slots) := by
  refine MetFree.of_bodySF (plainFor_of_name pn_11) hisR ?_
  intro p e s m args below meth c s₁ Bd hml0 hP hK
  obtain ⟨rfl, hZ, hh⟩ := hP
  have hx := Bd.exec
  have hby := Bd.bytes
  have hml : c.maxLocals = 3 := hml0
  have hown : s.vm.findClass "com/example/tideshift/tideshift/partition/AccessCounts" = some m.cls := findClass_of_methodNamed Bd.named
  have hnm := (name_of_methodNamed Bd.named Bd.method).1
  have X0 : Stand p l e ({ frames := 4, cells := 4, slots := 34, locals := 54 } : Room) s m #[(.ref a1), (.long q2)] below meth c s₁ [] 0 0 := Stand.of_body Bd
  have e0 : s₁.heap = h0 := by rw [← hh, Bd.state]; rfl
  have N0 := Fr.nil n0
  have pre0 : ∀ t, Steps p.tables e below (s₁.setTop (mkF m 0 #[.val (.ref a1), .val (.long q2), .second] [])) t → Steps p.tables e below (s₁.setTop (entryFrame m #[(.ref a1), (.long q2)] 3)) t := fun t k => castTop (ef_11 m a1 q2) k
  -- 3. LAWS
  -- pc 1: a private method: rm3
  obtain ⟨cq3, q3, q3'⟩ := E_a1.cell
  obtain ⟨_, _, ⟨T3, L3, k3, n3⟩, -, X3, ⟨Lc3, hQ3, l3, y3, z3⟩, st3⟩ := X0.privateBack hx (y := (⟨"com/example/tideshift/tideshift/partition/AccessCounts", "empty", "()V"⟩ : MethodName)) hown (mvT hZ (hw _ (List.mem_of_getElem? (i := 10) rfl))) (mvT hZ (hw _ (List.mem_of_getElem? (i := 11) rfl))) (mvT hZ (own_sel (hw _ (List.mem_of_getElem? (i := 2) rfl)) (hw _ (List.mem_of_getElem? (i := 12) rfl)) (hw _ (List.mem_of_getElem? (i := 11) rfl)) (by decide))) (Cond.privateMethod_at (mvP hZ (hw _ (List.mem_of_getElem? (i := 12) rfl)) (args := #[]))) (mvT hZ (hw _ (List.mem_of_getElem? (i := 13) rfl))) (by decide) (backOf (W := 0) (rm3 l Z a0 hw [] a1 u_keys_a1 u_counts_a1 u_shift_a1 u_size_a1 h0 n0 Z0 E_a1 F_keys_a1 g_a1 F_counts_a1 F_shift_a1 F_size_a1 u_reset_a1 F_reset_a1) hZ (hw _ (List.mem_of_getElem? (i := 13) rfl)) (hw _ (List.mem_of_getElem? (i := 3) rfl)) (by decide) (by decide)) (g := (mkF m 1 #[.val (.ref a1), .val (.long q2), .second] [(.ref a1)])) rfl (by rw [hml]; rfl) (Steps.refl _) (a := a1) (by rw [e0]; exact q3) q3' (argsL := []) (rest := []) (lenOf pd_11_0 rfl) rfl (by show 2 * 0 + _ ≤ _; exact Nat.le_of_eq rfl) (hb hby d11_1) (fun _ _ => ⟨rfl, e0, (by decide : 0 + 2 ≤ _), (by decide : 0 + 32 ≤ _)⟩)
  dsimp only [Pt.U, Pt.locs, Pt.cells, Pt.slots] at X3 l3 y3 z3 st3 hQ3
  subst l3 y3 z3
  obtain ⟨rfl, N3q, K3q, t3, u3, ⟨A3e, A3k, A3c, A3s, A3z, ⟨r3, A3r⟩, A3lk, A3lc, A3n1, A3n2, A3n3⟩, A3g1, A3g2⟩ := hQ3
  have KK3 : Keep h0 T3.heap [a1] := (Keep.refl _ _).trans K3q (allS (Or.inl (List.mem_cons_self ..)) all0)
  have Z3 : n0 ≤ T3.heap.size := Nat.le_trans Z0 K3q.1
  have N3 := Fr.app N0 N3q
  have CE2_a1 := (E_a1.keep K3q)
  -- pc 6: java/lang/Long.valueOf by its contract rm12
  obtain ⟨_, _, ⟨T4, L4, k4, n4⟩, -, X4, ⟨Lc4, hQ4, l4, y4, z4⟩, st4⟩ := Jvm.LawKit.callS X3 hx (y := (⟨"java/lang/Long", "valueOf", "(J)Ljava/lang/Long;"⟩ : MethodName)) hown (mvT hZ (hw _ (List.mem_of_getElem? (i := 61) rfl))) (mvT hZ (hw _ (List.mem_of_getElem? (i := 62) rfl))) (mvT hZ (hw _ (List.mem_of_getElem? (i := 63) rfl))) (mvT hZ (hw _ (List.mem_of_getElem? (i := 64) rfl))) (by decide) (backOf (W := 1) (rm12 l Z a0 hw [] q2 T3.heap n0 Z3 (own_cache_ext (X00.keep K3q (allS g_a1 all0)).2 own_cc)) hZ (hw _ (List.mem_of_getElem? (i := 64) rfl)) (hw _ (List.mem_of_getElem? (i := 63) rfl)) (by decide) (by decide)) (g := (mkF m 6 #[.val (.ref a1), .val (.long q2), .second] [(.long q2), (.ref a1)])) rfl (by rw [hml]; rfl) (argsL := [(.long q2)]) (rest := [(.ref a1)]) (lenOf pd_11_8 rfl) rfl (by show 2 * 0 + _ ≤ _; exact Nat.le_of_eq rfl) (hb hby d11_6) (fun _ _ => ⟨rfl, rfl, (by decide : 2 + 1 ≤ _), (by decide : 32 + 1 ≤ _)⟩)
  dsimp only [Pt.U, Pt.locs, Pt.cells, Pt.slots] at X4 l4 y4 z4 st4 hQ4
  subst l4 y4 z4
  obtain ⟨r4, rfl, N4q, K4q⟩ := hQ4
  have KK4 : Keep h0 T4.heap [a1] := (KK3).trans K4q all0
  have Z4 : n0 ≤ T4.heap.size := Nat.le_trans Z3 K4q.1
  have N4 := Fr.app N3 N4q
  have CE3_a1 := ((E_a1.keep K3q).keep K4q)
  -- pc 9: java/util/Optional.of by its contract rm15
  obtain ⟨_, _, ⟨T5, L5, k5, n5⟩, -, X5, ⟨Lc5, hQ5, l5, y5, z5⟩, st5⟩ := Jvm.LawKit.callS X4 hx (y := (⟨"java/util/Optional", "of", "(Ljava/lang/Object;)Ljava/util/Optional;"⟩ : MethodName)) hown (mvT hZ (hw _ (List.mem_of_getElem? (i := 82) rfl))) (mvT hZ (hw _ (List.mem_of_getElem? (i := 83) rfl))) (mvT hZ (hw _ (List.mem_of_getElem? (i := 29) rfl))) (mvT hZ (hw _ (List.mem_of_getElem? (i := 84) rfl))) (by decide) (backOf (W := 1) (rm15 l Z a0 hw [] r4 T4.heap n0 Z4) hZ (hw _ (List.mem_of_getElem? (i := 84) rfl)) (hw _ (List.mem_of_getElem? (i := 29) rfl)) (by decide) (by decide)) (g := (mkF m 9 #[.val (.ref a1), .val (.long q2), .second] [(.ref r4), (.ref a1)])) rfl (by rw [hml]; rfl) (argsL := [(.ref r4)]) (rest := [(.ref a1)]) (lenOf pd_11_9 rfl) rfl (by show 2 * 0 + _ ≤ _; exact Nat.le_of_eq rfl) (hb hby d11_9) (fun _ _ => ⟨rfl, rfl, (by decide : 3 + 1 ≤ _), (by decide : 33 + 1 ≤ _)⟩)
  dsimp only [Pt.U, Pt.locs, Pt.cells, Pt.slots] at X5 l5 y5 z5 st5 hQ5
  subst l5 y5 z5
  obtain ⟨r5, rfl, N5q, K5q⟩ := hQ5
  have KK5 : Keep h0 T5.heap [a1] := (KK4).trans K5q all0
  have Z5 : n0 ≤ T5.heap.size := Nat.le_trans Z4 K5q.1
  have N5 := Fr.app N4 N5q
  obtain ⟨T6, h6, X6, e6, W6, st6⟩ := putF X5 hx hZ hown (host := "") (Or.inl (hw _ (List.mem_of_getElem? (i := 32) rfl))) Via.refl rfl ((A3r.keep K4q nin0).keep K5q nin0) (((E_a1.keep K3q).keep K4q).keep K5q) (Or.inl (hw _ (List.mem_of_getElem? (i := 33) rfl))) (hw _ (List.mem_of_getElem? (i := 2) rfl)) (ty := (.object "java/util/Optional")) (by decide) rfl rfl (g := (mkF m 12 #[.val (.ref a1), .val (.long q2), .second] [(.ref r5), (.ref a1)])) rfl rfl (hb hby d11_12)
  have Z6 : n0 ≤ h6.size := Nat.le_trans Z5 (Keep.of_wr W6).1
  have Fw6 := ((A3r.keep K4q nin0).keep K5q nin0).same W6      -- the field now holds (.ref r5)
  have K6 : Keep h0 h6 [a1] := (KK5).wr W6 (Or.inl (List.mem_of_getElem? (i := 0) rfl))
  have N6 := Fr.snoc X6 N5 g_a1
  obtain ⟨fs, hr, hrun, hended, hW, hsame⟩ := X6.leave (v := none) (fun _ => rfl)
  refine ⟨_, _, pre0 _ ?_, hrun, hended, _, _, rfl, ?_, ⟨_, rfl⟩, hW, hsame.mono (by decide) (by decide)⟩
  -- 4. STEPS
  · show Steps p.tables e below (s₁.setTop (mkF m 0 #[.val (.ref a1), .val (.long q2), .second] [])) _
    refine XS.aloadN X0.here hx rfl (hb hby d11_0) rfl rfl ?_
    show Steps p.tables e below (s₁.setTop (mkF m 1 #[.val (.ref a1), .val (.long q2), .second] [(.ref a1)])) _
    refine st3.trans ?_
    show Steps p.tables e below (T3.setTop (mkF m 4 #[.val (.ref a1), .val (.long q2), .second] [])) _
    refine XS.aloadN X3.here hx rfl (hb hby d11_4) rfl rfl ?_
    show Steps p.tables e below (T3.setTop (mkF m 5 #[.val (.ref a1), .val (.long q2), .second] [(.ref a1)])) _
    refine XS.lloadN X3.here hx rfl (hb hby d11_5) rfl ?_
    show Steps p.tables e below (T3.setTop (mkF m 6 #[.val (.ref a1), .val (.long q2), .second] [(.long q2), (.ref a1)])) _
    refine st4 _ ?_
    show Steps p.tables e below (T4.setTop (mkF m 9 #[.val (.ref a1), .val (.long q2), .second] [(.ref r4), (.ref a1)])) _
    refine st5 _ ?_
    show Steps p.tables e below (T5.setTop (mkF m 12 #[.val (.ref a1), .val (.long q2), .second] [(.ref r5), (.ref a1)])) _
    refine st6 _ ?_
    show Steps p.tables e below (T6.setTop (mkF m 15 #[.val (.ref a1), .val (.long q2), .second] [])) _
    exact X6.returnOut hx Bd.returns (hb hby d11_15) hr
  · show Q11 Z a1 q2 u_reset_a1 h0 n0 _ T6.heap _
    rw [e6]
    exact ⟨rfl, N6, K6, t3, u3, ⟨((A3e.keep K4q).keep K5q).wr W6, (((A3k.keep K4q nin0).keep K5q nin0).other W6 (Or.inr (slot_ne (Or.inl (hw _ (List.mem_of_getElem? (i := 15) rfl))) (Or.inl (hw _ (List.mem_of_getElem? (i := 33) rfl))) (by decide) (t := (.array .long)) (t' := (.object "java/util/Optional")) (by decide) (by decide)))), (((A3c.keep K4q nin0).keep K5q nin0).other W6 (Or.inr (slot_ne (Or.inl (hw _ (List.mem_of_getElem? (i := 17) rfl))) (Or.inl (hw _ (List.mem_of_getElem? (i := 33) rfl))) (by decide) (t := (.array .long)) (t' := (.object "java/util/Optional")) (by decide) (by decide)))), (((A3s.keep K4q nin0).keep K5q nin0).other W6 (Or.inr (slot_ne (Or.inl (hw _ (List.mem_of_getElem? (i := 24) rfl))) (Or.inl (hw _ (List.mem_of_getElem? (i := 33) rfl))) (by decide) (t := .int) (t' := (.object "java/util/Optional")) (by decide) (by decide)))), (((A3z.keep K4q nin0).keep K5q nin0).other W6 (Or.inr (slot_ne (Or.inl (hw _ (List.mem_of_getElem? (i := 26) rfl))) (Or.inl (hw _ (List.mem_of_getElem? (i := 33) rfl))) (by decide) (t := .int) (t' := (.object "java/util/Optional")) (by decide) (by decide)))), ⟨_, Fw6⟩, (own_La_other (own_La_keep (own_La_keep A3lk K4q nin0) K5q nin0) W6 (Ne.symm A3n2)), (own_La_other (own_La_keep (own_La_keep A3lc K4q nin0) K5q nin0) W6 (Ne.symm A3n3)), A3n1, A3n2, A3n3⟩, A3g1, A3g2⟩
theorem own_AC_other {Z : State} {h h' : Heap} {a t u b : Addr} {ks cs : Nat → Int64} {sz sl : Nat} {v : Value} (A : own_AC Z h a t u ks cs sz) (W : Wr h h' b sl v) (n1 : b ≠ a) (n2 : b ≠ t) (n3 : b ≠ u) : own_AC Z h' a t u ks cs sz := by
  obtain ⟨E, Fk, Fc, Fs, Fz, ⟨r, Fr⟩, Lk, Lc, q1, q2, q3⟩ := A
  exact ⟨E.wr W, Fk.other W (Or.inl (Ne.symm n1)), Fc.other W (Or.inl (Ne.symm n1)), Fs.other W (Or.inl (Ne.symm n1)), Fz.other W (Or.inl (Ne.symm n1)), ⟨r, Fr.other W (Or.inl (Ne.symm n1))⟩, own_La_other Lk W (Ne.symm n2), own_La_other Lc W (Ne.symm n3), q1, q2, q3⟩
theorem own_AC_keep {Z : State} {h h' : Heap} {a t u : Addr} {ks cs : Nat → Int64} {sz : Nat} {ws : List Addr} (A : own_AC Z h a t u ks cs sz) (K : Keep h h' ws) (n1 : a ∉ ws) (n2 : t ∉ ws) (n3 : u ∉ ws) : own_AC Z h' a t u ks cs sz := by
  obtain ⟨E, Fk, Fc, Fs, Fz, ⟨r, Fr⟩, Lk, Lc, q1, q2, q3⟩ := A
  exact ⟨E.keep K, Fk.keep K n1, Fc.keep K n1, Fs.keep K n1, Fz.keep K n1, ⟨r, Fr.keep K n1⟩, own_La_keep Lk K n2, own_La_keep Lc K n3, q1, q2, q3⟩
def own_St (Z : State) (h : Heap) (n0 : Nat) (o11 o13 : Addr) (xs : List Int64) : Prop := ∃ (t u : Addr) (ks cs : Nat → Int64) (sz : Nat) (f : Nat → Int64), own_AC Z h o13 t u ks cs sz ∧ own_Inv ks cs sz xs ∧ own_La Z h o11 3 f ∧ (∀ i, i < xs.length → f i = xs.getD i 0) ∧ n0 ≤ t ∧ n0 ≤ u ∧ n0 ≤ o13 ∧ n0 ≤ o11 ∧ o11 ≠ t ∧ o11 ≠ u ∧ o11 ≠ o13
theorem pd_0_3 : parseMethodDescriptor "(J)V" = some ⟨[.long], none⟩ := by decide +kernel
set_option maxRecDepth 65536 in
set_option maxHeartbeats 40000000 in
theorem pa49 {p : Program} {l : Launch} {e : Env} {s : State} {m : MethodId} {args : Array Value} {below : List Frame} {meth : Method} {c : Code} {T0 : State} {locs : List Loc} {cells slots : Nat} {Z : State} {a0 : Array Value} {h0 : Heap} (j0 : Int64) (s2 : Slot) (s3 : Slot) (s4 : Slot) (s5 : Slot) (i6 : Int32) (s7 : Slot) (s8 : Slot) (s9 : Slot) (s10 : Slot) (o11 : Addr) (i12 : Int32) (o13 : Addr) (s14 : Slot) (s15 : Slot) (t u : Addr) (ks cs : Nat → Int64) (sz : Nat) (xs : List Int64) (f : Nat → Int64) (n0 : Nat)
    (X0 : Stand p l e room_1 s m args below meth c T0 locs cells slots) (hx : p.tables.exec = Jvm.exec) (hZ : Z.Warmed39 s.vm) (hw : ∀ d ∈ tables_1, d.before a0 Z = true) (hby : c.code = code) (hml : c.maxLocals = 16) (hown : s.vm.findClass "com/example/tideshift/tideshift/partition/AccessCountsKeysPinLaw" = some m.cls) (e0 : T0.heap = h0) (Z0 : n0 ≤ h0.size) (N0 : Fr n0 locs) (A : own_AC Z h0 o13 t u ks cs sz) (I : own_Inv ks cs sz xs) (hl : xs.length ≤ 2) (La : own_La Z h0 o11 3 f) (hi : i12 = Int32.ofNat xs.length) (ga : n0 ≤ o13) (gt : n0 ≤ t) (gu : n0 ≤ u) (g_o11 : n0 ≤ o11) (m1 : o11 ≠ t) (m2 : o11 ≠ u) (m3 : o11 ≠ o13) (hcl : cells ≤ 32) (hsl : slots ≤ 256) (hc53 : ¬ ((i6 &&& (1 : Int32)) = (0 : Int32))) :
    ∃ (T' : State) (h' : Heap) (locs' : List Loc), Stand p l e room_1 s m args below meth c T' locs' cells slots ∧ T'.heap = h' ∧ Fr n0 locs' ∧ Keep h0 h' [o11, t, u, o13] ∧ (∃ (ks' cs' : Nat → Int64) (sz' : Nat), own_AC Z h' o13 t u ks' cs' sz' ∧ own_Inv ks' cs' sz' (xs ++ [j0])) ∧ own_La Z h' o11 3 (own_upd f xs.length j0) ∧
      ∀ target, Steps p.tables e below (T'.setTop (mkF m 71 #[.val (.long j0), .second, s2, s3, s4, s5, .val (.int i6), s7, s8, s9, s10, .val (.ref o11), .val (.int (i12 + (1 : Int32))), .val (.ref o13), s14, s15] [])) target → Steps p.tables e below (T0.setTop (mkF m 49 #[.val (.long j0), .second, s2, s3, s4, s5, .val (.int i6), s7, s8, s9, s10, .val (.ref o11), .val (.int i12), .val (.ref o13), s14, s15] [])) target := by
  have E_o13 := A.1
  have La0 := La
  obtain ⟨cl_o11, Ar_o11, S_o11, H_o11⟩ := La
  obtain ⟨z1, z2⟩ := own_i16 (n := xs.length) (by omega)
  have hin67 : ¬ (i12 < 0 ∨ cl_o11.slots.size ≤ (i12).toNatClampNeg) := by rw [hi, S_o11, z2]; exact fun z => z.elim z1 (fun z => by omega)
  -- 3. LAWS
  -- pc 59: com/example/tideshift/tideshift/partition/AccessCounts.add by the contract of the body that the receiver's class selects, rm6
  obtain ⟨cq5, kq5, q5a, q5b, q5c⟩ := isOf hZ e0 E_o13
  obtain ⟨_, _, ⟨T5, L5, k5, n5⟩, -, X5, ⟨Lc5, hQ5, l5, y5, z5⟩, st5⟩ := X0.virtualBack hx (y := (⟨"com/example/tideshift/tideshift/partition/AccessCounts", "add", "(J)V"⟩ : MethodName)) (z := (⟨"com/example/tideshift/tideshift/partition/AccessCounts", "add", "(J)V"⟩ : MethodName)) hown (mvT hZ (hw _ (List.mem_of_getElem? (i := 34) rfl))) (mvT hZ (hw _ (List.mem_of_getElem? (i := 35) rfl))) (notFace_of_selects (args := #[]) (mvT hZ (hw _ (List.mem_of_getElem? (i := 37) rfl)))) (mvT hZ (hw _ (List.mem_of_getElem? (i := 37) rfl))) (mvT hZ (hw _ (List.mem_of_getElem? (i := 36) rfl))) (by decide) (backOf (W := 0) (rm6 l Z a0 hw [] o13 j0 t u ks cs sz xs h0 n0 Z0 A I hl ga gt gu) hZ (hw _ (List.mem_of_getElem? (i := 38) rfl)) (hw _ (List.mem_of_getElem? (i := 3) rfl)) (by decide) (by decide)) q5a q5c (g := (mkF m 59 #[.val (.long j0), .second, s2, s3, s4, s5, .val (.int i6), s7, s8, s9, s10, .val (.ref o11), .val (.int i12), .val (.ref o13), s14, s15] [(.long j0), (.ref o13)])) rfl (by rw [hml]; rfl) (Steps.refl _) (argsL := [(.long j0)]) (rest := []) (lenOf pd_0_3 rfl) rfl (by show 2 * 0 + _ ≤ _; exact Nat.le_of_eq rfl) (hb hby at_59) (fun _ _ => ⟨rfl, e0, (by show cells + 0 ≤ 32; exact hcl), (by show slots + 0 ≤ 256; exact hsl)⟩)
  dsimp only [Pt.U, Pt.locs, Pt.cells, Pt.slots] at X5 l5 y5 z5 st5 hQ5
  subst l5 y5 z5
  obtain ⟨rfl, N5q, K5q, ks5, cs5, sz5, A5, I5⟩ := hQ5
  have ArB : Arr Z T5.heap o11 cl_o11 .long := ⟨K5q.2.1 _ _ Ar_o11.1 (ninS m1 (ninS m2 (ninS m3 nin0))), Ar_o11.2⟩
  have N5 := Fr.app N0 N5q
  -- ✋ yours: Ar_o11 must speak of T5.heap here
  obtain ⟨T6, h6, X6, e6, W6, st6⟩ := stJ X5 hx hZ rfl ArB (j := i12) hin67 (g := (mkF m 67 #[.val (.long j0), .second, s2, s3, s4, s5, .val (.int i6), s7, s8, s9, s10, .val (.ref o11), .val (.int i12), .val (.ref o13), s14, s15] [(.long j0), (.int i12), (.ref o11)])) rfl rfl (hb hby at_67)
  have N6 := Fr.snoc X6 N5 g_o11
  -- Ar_o11.same W6 : the array with (.long j0) at the place i12
  have W6x : Wr T5.heap h6 o11 xs.length (.long j0) := by have z := W6; rw [hi, z2] at z; exact z
  refine ⟨T6, _, _, X6, e6, N6, ((Keep.refl h0 [o11, t, u, o13]).trans K5q (fun y hy => Or.inl (List.mem_cons_of_mem _ hy))).wr W6 (Or.inl (List.mem_cons_self ..)), ⟨_, _, _, own_AC_other A5 W6 m3 m1 m2, I5⟩, own_La_same (own_La_keep La0 K5q (ninS m1 (ninS m2 (ninS m3 nin0)))) W6x, fun target kt => ?_⟩
  -- 4. STEPS
  show Steps p.tables e below (T0.setTop (mkF m 49 #[.val (.long j0), .second, s2, s3, s4, s5, .val (.int i6), s7, s8, s9, s10, .val (.ref o11), .val (.int i12), .val (.ref o13), s14, s15] [])) _
  refine XS.iload X0.here hx rfl (hb hby at_49) rfl ?_
  show Steps p.tables e below (T0.setTop (mkF m 51 #[.val (.long j0), .second, s2, s3, s4, s5, .val (.int i6), s7, s8, s9, s10, .val (.ref o11), .val (.int i12), .val (.ref o13), s14, s15] [(.int i6)])) _
  refine XS.iconst X0.here hx rfl (hb hby at_51) ?_
  show Steps p.tables e below (T0.setTop (mkF m 52 #[.val (.long j0), .second, s2, s3, s4, s5, .val (.int i6), s7, s8, s9, s10, .val (.ref o11), .val (.int i12), .val (.ref o13), s14, s15] [(.int (1 : Int32)), (.int i6)])) _
  refine XS.iand X0.here hx rfl (hb hby at_52) rfl ?_
  show Steps p.tables e below (T0.setTop (mkF m 53 #[.val (.long j0), .second, s2, s3, s4, s5, .val (.int i6), s7, s8, s9, s10, .val (.ref o11), .val (.int i12), .val (.ref o13), s14, s15] [(.int (i6 &&& (1 : Int32)))])) _
  refine XS.ifNo X0.here hx rfl (hb hby at_53) rfl ((if0 _ _).trans (feq hc53).1) ?_
  show Steps p.tables e below (T0.setTop (mkF m 56 #[.val (.long j0), .second, s2, s3, s4, s5, .val (.int i6), s7, s8, s9, s10, .val (.ref o11), .val (.int i12), .val (.ref o13), s14, s15] [])) _
  refine XS.aload X0.here hx rfl (hb hby at_56) rfl rfl ?_
  show Steps p.tables e below (T0.setTop (mkF m 58 #[.val (.long j0), .second, s2, s3, s4, s5, .val (.int i6), s7, s8, s9, s10, .val (.ref o11), .val (.int i12), .val (.ref o13), s14, s15] [(.ref o13)])) _
  refine XS.lloadN X0.here hx rfl (hb hby at_58) rfl ?_
  show Steps p.tables e below (T0.setTop (mkF m 59 #[.val (.long j0), .second, s2, s3, s4, s5, .val (.int i6), s7, s8, s9, s10, .val (.ref o11), .val (.int i12), .val (.ref o13), s14, s15] [(.long j0), (.ref o13)])) _
  refine st5.trans ?_
  show Steps p.tables e below (T5.setTop (mkF m 62 #[.val (.long j0), .second, s2, s3, s4, s5, .val (.int i6), s7, s8, s9, s10, .val (.ref o11), .val (.int i12), .val (.ref o13), s14, s15] [])) _
  refine XS.aload X5.here hx rfl (hb hby at_62) rfl rfl ?_
  show Steps p.tables e below (T5.setTop (mkF m 64 #[.val (.long j0), .second, s2, s3, s4, s5, .val (.int i6), s7, s8, s9, s10, .val (.ref o11), .val (.int i12), .val (.ref o13), s14, s15] [(.ref o11)])) _
  refine XS.iload X5.here hx rfl (hb hby at_64) rfl ?_
  show Steps p.tables e below (T5.setTop (mkF m 66 #[.val (.long j0), .second, s2, s3, s4, s5, .val (.int i6), s7, s8, s9, s10, .val (.ref o11), .val (.int i12), .val (.ref o13), s14, s15] [(.int i12), (.ref o11)])) _
  refine XS.lloadN X5.here hx rfl (hb hby at_66) rfl ?_
  show Steps p.tables e below (T5.setTop (mkF m 67 #[.val (.long j0), .second, s2, s3, s4, s5, .val (.int i6), s7, s8, s9, s10, .val (.ref o11), .val (.int i12), .val (.ref o13), s14, s15] [(.long j0), (.int i12), (.ref o11)])) _
  refine st6 _ ?_
  show Steps p.tables e below (T6.setTop (mkF m 68 #[.val (.long j0), .second, s2, s3, s4, s5, .val (.int i6), s7, s8, s9, s10, .val (.ref o11), .val (.int i12), .val (.ref o13), s14, s15] [])) _
  refine XS.iinc X6.here hx rfl (hb hby at_68) rfl (l' := #[.val (.long j0), .second, s2, s3, s4, s5, .val (.int i6), s7, s8, s9, s10, .val (.ref o11), .val (.int (i12 + (1 : Int32))), .val (.ref o13), s14, s15]) rfl ?_
  exact kt
set_option maxRecDepth 65536 in
set_option maxHeartbeats 40000000 in
theorem pz49 {p : Program} {l : Launch} {e : Env} {s : State} {m : MethodId} {args : Array Value} {below : List Frame} {meth : Method} {c : Code} {T0 : State} {locs : List Loc} {cells slots : Nat} {Z : State} {a0 : Array Value} {h0 : Heap} (s0 : Slot) (s1 : Slot) (s2 : Slot) (s3 : Slot) (s4 : Slot) (s5 : Slot) (i6 : Int32) (s7 : Slot) (s8 : Slot) (s9 : Slot) (s10 : Slot) (s11 : Slot) (s12 : Slot) (s13 : Slot) (s14 : Slot) (s15 : Slot)
    (X0 : Stand p l e room_1 s m args below meth c T0 locs cells slots) (hx : p.tables.exec = Jvm.exec) (hZ : Z.Warmed39 s.vm) (hw : ∀ d ∈ tables_1, d.before a0 Z = true) (hby : c.code = code) (hml : c.maxLocals = 16) (hown : s.vm.findClass "com/example/tideshift/tideshift/partition/AccessCountsKeysPinLaw" = some m.cls) (e0 : T0.heap = h0) (hc53 : (i6 &&& (1 : Int32)) = (0 : Int32)) :
    ∃ (T' : State), Stand p l e room_1 s m args below meth c T' locs cells slots ∧ T'.heap = h0 ∧
      ∀ target, Steps p.tables e below (T'.setTop (mkF m 71 #[s0, s1, s2, s3, s4, s5, .val (.int i6), s7, s8, s9, s10, s11, s12, s13, s14, s15] [])) target → Steps p.tables e below (T0.setTop (mkF m 49 #[s0, s1, s2, s3, s4, s5, .val (.int i6), s7, s8, s9, s10, s11, s12, s13, s14, s15] [])) target := by
  -- 3. LAWS

  refine ⟨T0, X0, e0, fun target kt => ?_⟩
  -- 4. STEPS
  show Steps p.tables e below (T0.setTop (mkF m 49 #[s0, s1, s2, s3, s4, s5, .val (.int i6), s7, s8, s9, s10, s11, s12, s13, s14, s15] [])) _
  refine XS.iload X0.here hx rfl (hb hby at_49) rfl ?_
  show Steps p.tables e below (T0.setTop (mkF m 51 #[s0, s1, s2, s3, s4, s5, .val (.int i6), s7, s8, s9, s10, s11, s12, s13, s14, s15] [(.int i6)])) _
  refine XS.iconst X0.here hx rfl (hb hby at_51) ?_
  show Steps p.tables e below (T0.setTop (mkF m 52 #[s0, s1, s2, s3, s4, s5, .val (.int i6), s7, s8, s9, s10, s11, s12, s13, s14, s15] [(.int (1 : Int32)), (.int i6)])) _
  refine XS.iand X0.here hx rfl (hb hby at_52) rfl ?_
  show Steps p.tables e below (T0.setTop (mkF m 53 #[s0, s1, s2, s3, s4, s5, .val (.int i6), s7, s8, s9, s10, s11, s12, s13, s14, s15] [(.int (i6 &&& (1 : Int32)))])) _
  refine XS.ifYes X0.here hx rfl (pc0 := 53) (pc' := 71) rfl (hb hby at_53) rfl ((if0 _ _).trans (teq hc53).1) (by decide) (by decide) ?_
  exact kt
set_option maxRecDepth 65536 in
set_option maxHeartbeats 40000000 in
theorem pa71 {p : Program} {l : Launch} {e : Env} {s : State} {m : MethodId} {args : Array Value} {below : List Frame} {meth : Method} {c : Code} {T0 : State} {locs : List Loc} {cells slots : Nat} {Z : State} {a0 : Array Value} {h0 : Heap} (s0 : Slot) (s1 : Slot) (s2 : Slot) (s3 : Slot) (s4 : Slot) (s5 : Slot) (i6 : Int32) (j7 : Int64) (s9 : Slot) (s10 : Slot) (o11 : Addr) (i12 : Int32) (o13 : Addr) (s14 : Slot) (s15 : Slot) (t u : Addr) (ks cs : Nat → Int64) (sz : Nat) (xs : List Int64) (f : Nat → Int64) (n0 : Nat)
    (X0 : Stand p l e room_1 s m args below meth c T0 locs cells slots) (hx : p.tables.exec = Jvm.exec) (hZ : Z.Warmed39 s.vm) (hw : ∀ d ∈ tables_1, d.before a0 Z = true) (hby : c.code = code) (hml : c.maxLocals = 16) (hown : s.vm.findClass "com/example/tideshift/tideshift/partition/AccessCountsKeysPinLaw" = some m.cls) (e0 : T0.heap = h0) (Z0 : n0 ≤ h0.size) (N0 : Fr n0 locs) (A : own_AC Z h0 o13 t u ks cs sz) (I : own_Inv ks cs sz xs) (hl : xs.length ≤ 2) (La : own_La Z h0 o11 3 f) (hi : i12 = Int32.ofNat xs.length) (ga : n0 ≤ o13) (gt : n0 ≤ t) (gu : n0 ≤ u) (g_o11 : n0 ≤ o11) (m1 : o11 ≠ t) (m2 : o11 ≠ u) (m3 : o11 ≠ o13) (hcl : cells ≤ 32) (hsl : slots ≤ 256) (hc75 : ¬ ((i6 &&& (2 : Int32)) = (0 : Int32))) :
    ∃ (T' : State) (h' : Heap) (locs' : List Loc), Stand p l e room_1 s m args below meth c T' locs' cells slots ∧ T'.heap = h' ∧ Fr n0 locs' ∧ Keep h0 h' [o11, t, u, o13] ∧ (∃ (ks' cs' : Nat → Int64) (sz' : Nat), own_AC Z h' o13 t u ks' cs' sz' ∧ own_Inv ks' cs' sz' (xs ++ [j7])) ∧ own_La Z h' o11 3 (own_upd f xs.length j7) ∧
      ∀ target, Steps p.tables e below (T'.setTop (mkF m 95 #[s0, s1, s2, s3, s4, s5, .val (.int i6), .val (.long j7), .second, s9, s10, .val (.ref o11), .val (.int (i12 + (1 : Int32))), .val (.ref o13), s14, s15] [])) target → Steps p.tables e below (T0.setTop (mkF m 71 #[s0, s1, s2, s3, s4, s5, .val (.int i6), .val (.long j7), .second, s9, s10, .val (.ref o11), .val (.int i12), .val (.ref o13), s14, s15] [])) target := by
  have E_o13 := A.1
  have La0 := La
  obtain ⟨cl_o11, Ar_o11, S_o11, H_o11⟩ := La
  obtain ⟨z1, z2⟩ := own_i16 (n := xs.length) (by omega)
  have hin91 : ¬ (i12 < 0 ∨ cl_o11.slots.size ≤ (i12).toNatClampNeg) := by rw [hi, S_o11, z2]; exact fun z => z.elim z1 (fun z => by omega)
  -- 3. LAWS
  -- pc 82: com/example/tideshift/tideshift/partition/AccessCounts.add by the contract of the body that the receiver's class selects, rm6
  obtain ⟨cq5, kq5, q5a, q5b, q5c⟩ := isOf hZ e0 E_o13
  obtain ⟨_, _, ⟨T5, L5, k5, n5⟩, -, X5, ⟨Lc5, hQ5, l5, y5, z5⟩, st5⟩ := X0.virtualBack hx (y := (⟨"com/example/tideshift/tideshift/partition/AccessCounts", "add", "(J)V"⟩ : MethodName)) (z := (⟨"com/example/tideshift/tideshift/partition/AccessCounts", "add", "(J)V"⟩ : MethodName)) hown (mvT hZ (hw _ (List.mem_of_getElem? (i := 34) rfl))) (mvT hZ (hw _ (List.mem_of_getElem? (i := 35) rfl))) (notFace_of_selects (args := #[]) (mvT hZ (hw _ (List.mem_of_getElem? (i := 37) rfl)))) (mvT hZ (hw _ (List.mem_of_getElem? (i := 37) rfl))) (mvT hZ (hw _ (List.mem_of_getElem? (i := 36) rfl))) (by decide) (backOf (W := 0) (rm6 l Z a0 hw [] o13 j7 t u ks cs sz xs h0 n0 Z0 A I hl ga gt gu) hZ (hw _ (List.mem_of_getElem? (i := 38) rfl)) (hw _ (List.mem_of_getElem? (i := 3) rfl)) (by decide) (by decide)) q5a q5c (g := (mkF m 82 #[s0, s1, s2, s3, s4, s5, .val (.int i6), .val (.long j7), .second, s9, s10, .val (.ref o11), .val (.int i12), .val (.ref o13), s14, s15] [(.long j7), (.ref o13)])) rfl (by rw [hml]; rfl) (Steps.refl _) (argsL := [(.long j7)]) (rest := []) (lenOf pd_0_3 rfl) rfl (by show 2 * 0 + _ ≤ _; exact Nat.le_of_eq rfl) (hb hby at_82) (fun _ _ => ⟨rfl, e0, (by show cells + 0 ≤ 32; exact hcl), (by show slots + 0 ≤ 256; exact hsl)⟩)
  dsimp only [Pt.U, Pt.locs, Pt.cells, Pt.slots] at X5 l5 y5 z5 st5 hQ5
  subst l5 y5 z5
  obtain ⟨rfl, N5q, K5q, ks5, cs5, sz5, A5, I5⟩ := hQ5
  have ArB : Arr Z T5.heap o11 cl_o11 .long := ⟨K5q.2.1 _ _ Ar_o11.1 (ninS m1 (ninS m2 (ninS m3 nin0))), Ar_o11.2⟩
  have N5 := Fr.app N0 N5q
  -- ✋ yours: Ar_o11 must speak of T5.heap here
  obtain ⟨T6, h6, X6, e6, W6, st6⟩ := stJ X5 hx hZ rfl ArB (j := i12) hin91 (g := (mkF m 91 #[s0, s1, s2, s3, s4, s5, .val (.int i6), .val (.long j7), .second, s9, s10, .val (.ref o11), .val (.int i12), .val (.ref o13), s14, s15] [(.long j7), (.int i12), (.ref o11)])) rfl rfl (hb hby at_91)
  have N6 := Fr.snoc X6 N5 g_o11
  -- Ar_o11.same W6 : the array with (.long j7) at the place i12
  have W6x : Wr T5.heap h6 o11 xs.length (.long j7) := by have z := W6; rw [hi, z2] at z; exact z
  refine ⟨T6, _, _, X6, e6, N6, ((Keep.refl h0 [o11, t, u, o13]).trans K5q (fun y hy => Or.inl (List.mem_cons_of_mem _ hy))).wr W6 (Or.inl (List.mem_cons_self ..)), ⟨_, _, _, own_AC_other A5 W6 m3 m1 m2, I5⟩, own_La_same (own_La_keep La0 K5q (ninS m1 (ninS m2 (ninS m3 nin0)))) W6x, fun target kt => ?_⟩
  -- 4. STEPS
  show Steps p.tables e below (T0.setTop (mkF m 71 #[s0, s1, s2, s3, s4, s5, .val (.int i6), .val (.long j7), .second, s9, s10, .val (.ref o11), .val (.int i12), .val (.ref o13), s14, s15] [])) _
  refine XS.iload X0.here hx rfl (hb hby at_71) rfl ?_
  show Steps p.tables e below (T0.setTop (mkF m 73 #[s0, s1, s2, s3, s4, s5, .val (.int i6), .val (.long j7), .second, s9, s10, .val (.ref o11), .val (.int i12), .val (.ref o13), s14, s15] [(.int i6)])) _
  refine XS.iconst X0.here hx rfl (hb hby at_73) ?_
  show Steps p.tables e below (T0.setTop (mkF m 74 #[s0, s1, s2, s3, s4, s5, .val (.int i6), .val (.long j7), .second, s9, s10, .val (.ref o11), .val (.int i12), .val (.ref o13), s14, s15] [(.int (2 : Int32)), (.int i6)])) _
  refine XS.iand X0.here hx rfl (hb hby at_74) rfl ?_
  show Steps p.tables e below (T0.setTop (mkF m 75 #[s0, s1, s2, s3, s4, s5, .val (.int i6), .val (.long j7), .second, s9, s10, .val (.ref o11), .val (.int i12), .val (.ref o13), s14, s15] [(.int (i6 &&& (2 : Int32)))])) _
  refine XS.ifNo X0.here hx rfl (hb hby at_75) rfl ((if0 _ _).trans (feq hc75).1) ?_
  show Steps p.tables e below (T0.setTop (mkF m 78 #[s0, s1, s2, s3, s4, s5, .val (.int i6), .val (.long j7), .second, s9, s10, .val (.ref o11), .val (.int i12), .val (.ref o13), s14, s15] [])) _
  refine XS.aload X0.here hx rfl (hb hby at_78) rfl rfl ?_
  show Steps p.tables e below (T0.setTop (mkF m 80 #[s0, s1, s2, s3, s4, s5, .val (.int i6), .val (.long j7), .second, s9, s10, .val (.ref o11), .val (.int i12), .val (.ref o13), s14, s15] [(.ref o13)])) _
  refine XS.lload X0.here hx rfl (hb hby at_80) rfl ?_
  show Steps p.tables e below (T0.setTop (mkF m 82 #[s0, s1, s2, s3, s4, s5, .val (.int i6), .val (.long j7), .second, s9, s10, .val (.ref o11), .val (.int i12), .val (.ref o13), s14, s15] [(.long j7), (.ref o13)])) _
  refine st5.trans ?_
  show Steps p.tables e below (T5.setTop (mkF m 85 #[s0, s1, s2, s3, s4, s5, .val (.int i6), .val (.long j7), .second, s9, s10, .val (.ref o11), .val (.int i12), .val (.ref o13), s14, s15] [])) _
  refine XS.aload X5.here hx rfl (hb hby at_85) rfl rfl ?_
  show Steps p.tables e below (T5.setTop (mkF m 87 #[s0, s1, s2, s3, s4, s5, .val (.int i6), .val (.long j7), .second, s9, s10, .val (.ref o11), .val (.int i12), .val (.ref o13), s14, s15] [(.ref o11)])) _
  refine XS.iload X5.here hx rfl (hb hby at_87) rfl ?_
  show Steps p.tables e below (T5.setTop (mkF m 89 #[s0, s1, s2, s3, s4, s5, .val (.int i6), .val (.long j7), .second, s9, s10, .val (.ref o11), .val (.int i12), .val (.ref o13), s14, s15] [(.int i12), (.ref o11)])) _
  refine XS.lload X5.here hx rfl (hb hby at_89) rfl ?_
  show Steps p.tables e below (T5.setTop (mkF m 91 #[s0, s1, s2, s3, s4, s5, .val (.int i6), .val (.long j7), .second, s9, s10, .val (.ref o11), .val (.int i12), .val (.ref o13), s14, s15] [(.long j7), (.int i12), (.ref o11)])) _
  refine st6 _ ?_
  show Steps p.tables e below (T6.setTop (mkF m 92 #[s0, s1, s2, s3, s4, s5, .val (.int i6), .val (.long j7), .second, s9, s10, .val (.ref o11), .val (.int i12), .val (.ref o13), s14, s15] [])) _
  refine XS.iinc X6.here hx rfl (hb hby at_92) rfl (l' := #[s0, s1, s2, s3, s4, s5, .val (.int i6), .val (.long j7), .second, s9, s10, .val (.ref o11), .val (.int (i12 + (1 : Int32))), .val (.ref o13), s14, s15]) rfl ?_
  exact kt
set_option maxRecDepth 65536 in
set_option maxHeartbeats 40000000 in
theorem pz71 {p : Program} {l : Launch} {e : Env} {s : State} {m : MethodId} {args : Array Value} {below : List Frame} {meth : Method} {c : Code} {T0 : State} {locs : List Loc} {cells slots : Nat} {Z : State} {a0 : Array Value} {h0 : Heap} (s0 : Slot) (s1 : Slot) (s2 : Slot) (s3 : Slot) (s4 : Slot) (s5 : Slot) (i6 : Int32) (s7 : Slot) (s8 : Slot) (s9 : Slot) (s10 : Slot) (s11 : Slot) (s12 : Slot) (s13 : Slot) (s14 : Slot) (s15 : Slot)
    (X0 : Stand p l e room_1 s m args below meth c T0 locs cells slots) (hx : p.tables.exec = Jvm.exec) (hZ : Z.Warmed39 s.vm) (hw : ∀ d ∈ tables_1, d.before a0 Z = true) (hby : c.code = code) (hml : c.maxLocals = 16) (hown : s.vm.findClass "com/example/tideshift/tideshift/partition/AccessCountsKeysPinLaw" = some m.cls) (e0 : T0.heap = h0) (hc75 : (i6 &&& (2 : Int32)) = (0 : Int32)) :
    ∃ (T' : State), Stand p l e room_1 s m args below meth c T' locs cells slots ∧ T'.heap = h0 ∧
      ∀ target, Steps p.tables e below (T'.setTop (mkF m 95 #[s0, s1, s2, s3, s4, s5, .val (.int i6), s7, s8, s9, s10, s11, s12, s13, s14, s15] [])) target → Steps p.tables e below (T0.setTop (mkF m 71 #[s0, s1, s2, s3, s4, s5, .val (.int i6), s7, s8, s9, s10, s11, s12, s13, s14, s15] [])) target := by
  -- 3. LAWS

  refine ⟨T0, X0, e0, fun target kt => ?_⟩
  -- 4. STEPS
  show Steps p.tables e below (T0.setTop (mkF m 71 #[s0, s1, s2, s3, s4, s5, .val (.int i6), s7, s8, s9, s10, s11, s12, s13, s14, s15] [])) _
  refine XS.iload X0.here hx rfl (hb hby at_71) rfl ?_
  show Steps p.tables e below (T0.setTop (mkF m 73 #[s0, s1, s2, s3, s4, s5, .val (.int i6), s7, s8, s9, s10, s11, s12, s13, s14, s15] [(.int i6)])) _
  refine XS.iconst X0.here hx rfl (hb hby at_73) ?_
  show Steps p.tables e below (T0.setTop (mkF m 74 #[s0, s1, s2, s3, s4, s5, .val (.int i6), s7, s8, s9, s10, s11, s12, s13, s14, s15] [(.int (2 : Int32)), (.int i6)])) _
  refine XS.iand X0.here hx rfl (hb hby at_74) rfl ?_
  show Steps p.tables e below (T0.setTop (mkF m 75 #[s0, s1, s2, s3, s4, s5, .val (.int i6), s7, s8, s9, s10, s11, s12, s13, s14, s15] [(.int (i6 &&& (2 : Int32)))])) _
  refine XS.ifYes X0.here hx rfl (pc0 := 75) (pc' := 95) rfl (hb hby at_75) rfl ((if0 _ _).trans (teq hc75).1) (by decide) (by decide) ?_
  exact kt
set_option maxRecDepth 65536 in
set_option maxHeartbeats 40000000 in
theorem pa111 {p : Program} {l : Launch} {e : Env} {s : State} {m : MethodId} {args : Array Value} {below : List Frame} {meth : Method} {c : Code} {T0 : State} {locs : List Loc} {cells slots : Nat} {Z : State} {a0 : Array Value} {h0 : Heap} (s0 : Slot) (s1 : Slot) (s2 : Slot) (s3 : Slot) (s4 : Slot) (s5 : Slot) (i6 : Int32) (s7 : Slot) (s8 : Slot) (j9 : Int64) (o11 : Addr) (i12 : Int32) (o13 : Addr) (s14 : Slot) (s15 : Slot) (t u : Addr) (ks cs : Nat → Int64) (sz : Nat) (xs : List Int64) (f : Nat → Int64) (n0 : Nat)
    (X0 : Stand p l e room_1 s m args below meth c T0 locs cells slots) (hx : p.tables.exec = Jvm.exec) (hZ : Z.Warmed39 s.vm) (hw : ∀ d ∈ tables_1, d.before a0 Z = true) (hby : c.code = code) (hml : c.maxLocals = 16) (hown : s.vm.findClass "com/example/tideshift/tideshift/partition/AccessCountsKeysPinLaw" = some m.cls) (e0 : T0.heap = h0) (Z0 : n0 ≤ h0.size) (N0 : Fr n0 locs) (A : own_AC Z h0 o13 t u ks cs sz) (I : own_Inv ks cs sz xs) (hl : xs.length ≤ 2) (La : own_La Z h0 o11 3 f) (hi : i12 = Int32.ofNat xs.length) (ga : n0 ≤ o13) (gt : n0 ≤ t) (gu : n0 ≤ u) (g_o11 : n0 ≤ o11) (m1 : o11 ≠ t) (m2 : o11 ≠ u) (m3 : o11 ≠ o13) (hcl : cells ≤ 32) (hsl : slots ≤ 256) (hc116 : ¬ ((i6 &&& (8 : Int32)) = (0 : Int32))) :
    ∃ (T' : State) (h' : Heap) (locs' : List Loc), Stand p l e room_1 s m args below meth c T' locs' cells slots ∧ T'.heap = h' ∧ Fr n0 locs' ∧ Keep h0 h' [o11, t, u, o13] ∧ (∃ (ks' cs' : Nat → Int64) (sz' : Nat), own_AC Z h' o13 t u ks' cs' sz' ∧ own_Inv ks' cs' sz' (xs ++ [j9])) ∧ own_La Z h' o11 3 (own_upd f xs.length j9) ∧
      ∀ target, Steps p.tables e below (T'.setTop (mkF m 136 #[s0, s1, s2, s3, s4, s5, .val (.int i6), s7, s8, .val (.long j9), .second, .val (.ref o11), .val (.int (i12 + (1 : Int32))), .val (.ref o13), s14, s15] [])) target → Steps p.tables e below (T0.setTop (mkF m 111 #[s0, s1, s2, s3, s4, s5, .val (.int i6), s7, s8, .val (.long j9), .second, .val (.ref o11), .val (.int i12), .val (.ref o13), s14, s15] [])) target := by
  have E_o13 := A.1
  have La0 := La
  obtain ⟨cl_o11, Ar_o11, S_o11, H_o11⟩ := La
  obtain ⟨z1, z2⟩ := own_i16 (n := xs.length) (by omega)
  have hin132 : ¬ (i12 < 0 ∨ cl_o11.slots.size ≤ (i12).toNatClampNeg) := by rw [hi, S_o11, z2]; exact fun z => z.elim z1 (fun z => by omega)
  -- 3. LAWS
  -- pc 123: com/example/tideshift/tideshift/partition/AccessCounts.add by the contract of the body that the receiver's class selects, rm6
  obtain ⟨cq5, kq5, q5a, q5b, q5c⟩ := isOf hZ e0 E_o13
  obtain ⟨_, _, ⟨T5, L5, k5, n5⟩, -, X5, ⟨Lc5, hQ5, l5, y5, z5⟩, st5⟩ := X0.virtualBack hx (y := (⟨"com/example/tideshift/tideshift/partition/AccessCounts", "add", "(J)V"⟩ : MethodName)) (z := (⟨"com/example/tideshift/tideshift/partition/AccessCounts", "add", "(J)V"⟩ : MethodName)) hown (mvT hZ (hw _ (List.mem_of_getElem? (i := 34) rfl))) (mvT hZ (hw _ (List.mem_of_getElem? (i := 35) rfl))) (notFace_of_selects (args := #[]) (mvT hZ (hw _ (List.mem_of_getElem? (i := 37) rfl)))) (mvT hZ (hw _ (List.mem_of_getElem? (i := 37) rfl))) (mvT hZ (hw _ (List.mem_of_getElem? (i := 36) rfl))) (by decide) (backOf (W := 0) (rm6 l Z a0 hw [] o13 j9 t u ks cs sz xs h0 n0 Z0 A I hl ga gt gu) hZ (hw _ (List.mem_of_getElem? (i := 38) rfl)) (hw _ (List.mem_of_getElem? (i := 3) rfl)) (by decide) (by decide)) q5a q5c (g := (mkF m 123 #[s0, s1, s2, s3, s4, s5, .val (.int i6), s7, s8, .val (.long j9), .second, .val (.ref o11), .val (.int i12), .val (.ref o13), s14, s15] [(.long j9), (.ref o13)])) rfl (by rw [hml]; rfl) (Steps.refl _) (argsL := [(.long j9)]) (rest := []) (lenOf pd_0_3 rfl) rfl (by show 2 * 0 + _ ≤ _; exact Nat.le_of_eq rfl) (hb hby at_123) (fun _ _ => ⟨rfl, e0, (by show cells + 0 ≤ 32; exact hcl), (by show slots + 0 ≤ 256; exact hsl)⟩)
  dsimp only [Pt.U, Pt.locs, Pt.cells, Pt.slots] at X5 l5 y5 z5 st5 hQ5
  subst l5 y5 z5
  obtain ⟨rfl, N5q, K5q, ks5, cs5, sz5, A5, I5⟩ := hQ5
  have ArB : Arr Z T5.heap o11 cl_o11 .long := ⟨K5q.2.1 _ _ Ar_o11.1 (ninS m1 (ninS m2 (ninS m3 nin0))), Ar_o11.2⟩
  have N5 := Fr.app N0 N5q
  -- ✋ yours: Ar_o11 must speak of T5.heap here
  obtain ⟨T6, h6, X6, e6, W6, st6⟩ := stJ X5 hx hZ rfl ArB (j := i12) hin132 (g := (mkF m 132 #[s0, s1, s2, s3, s4, s5, .val (.int i6), s7, s8, .val (.long j9), .second, .val (.ref o11), .val (.int i12), .val (.ref o13), s14, s15] [(.long j9), (.int i12), (.ref o11)])) rfl rfl (hb hby at_132)
  have N6 := Fr.snoc X6 N5 g_o11
  -- Ar_o11.same W6 : the array with (.long j9) at the place i12
  have W6x : Wr T5.heap h6 o11 xs.length (.long j9) := by have z := W6; rw [hi, z2] at z; exact z
  refine ⟨T6, _, _, X6, e6, N6, ((Keep.refl h0 [o11, t, u, o13]).trans K5q (fun y hy => Or.inl (List.mem_cons_of_mem _ hy))).wr W6 (Or.inl (List.mem_cons_self ..)), ⟨_, _, _, own_AC_other A5 W6 m3 m1 m2, I5⟩, own_La_same (own_La_keep La0 K5q (ninS m1 (ninS m2 (ninS m3 nin0)))) W6x, fun target kt => ?_⟩
  -- 4. STEPS
  show Steps p.tables e below (T0.setTop (mkF m 111 #[s0, s1, s2, s3, s4, s5, .val (.int i6), s7, s8, .val (.long j9), .second, .val (.ref o11), .val (.int i12), .val (.ref o13), s14, s15] [])) _
  refine XS.iload X0.here hx rfl (hb hby at_111) rfl ?_
  show Steps p.tables e below (T0.setTop (mkF m 113 #[s0, s1, s2, s3, s4, s5, .val (.int i6), s7, s8, .val (.long j9), .second, .val (.ref o11), .val (.int i12), .val (.ref o13), s14, s15] [(.int i6)])) _
  refine XS.bipush X0.here hx rfl (hb hby at_113) ?_
  show Steps p.tables e below (T0.setTop (mkF m 115 #[s0, s1, s2, s3, s4, s5, .val (.int i6), s7, s8, .val (.long j9), .second, .val (.ref o11), .val (.int i12), .val (.ref o13), s14, s15] [(.int (8 : Int32)), (.int i6)])) _
  refine XS.iand X0.here hx rfl (hb hby at_115) rfl ?_
  show Steps p.tables e below (T0.setTop (mkF m 116 #[s0, s1, s2, s3, s4, s5, .val (.int i6), s7, s8, .val (.long j9), .second, .val (.ref o11), .val (.int i12), .val (.ref o13), s14, s15] [(.int (i6 &&& (8 : Int32)))])) _
  refine XS.ifNo X0.here hx rfl (hb hby at_116) rfl ((if0 _ _).trans (feq hc116).1) ?_
  show Steps p.tables e below (T0.setTop (mkF m 119 #[s0, s1, s2, s3, s4, s5, .val (.int i6), s7, s8, .val (.long j9), .second, .val (.ref o11), .val (.int i12), .val (.ref o13), s14, s15] [])) _
  refine XS.aload X0.here hx rfl (hb hby at_119) rfl rfl ?_
  show Steps p.tables e below (T0.setTop (mkF m 121 #[s0, s1, s2, s3, s4, s5, .val (.int i6), s7, s8, .val (.long j9), .second, .val (.ref o11), .val (.int i12), .val (.ref o13), s14, s15] [(.ref o13)])) _
  refine XS.lload X0.here hx rfl (hb hby at_121) rfl ?_
  show Steps p.tables e below (T0.setTop (mkF m 123 #[s0, s1, s2, s3, s4, s5, .val (.int i6), s7, s8, .val (.long j9), .second, .val (.ref o11), .val (.int i12), .val (.ref o13), s14, s15] [(.long j9), (.ref o13)])) _
  refine st5.trans ?_
  show Steps p.tables e below (T5.setTop (mkF m 126 #[s0, s1, s2, s3, s4, s5, .val (.int i6), s7, s8, .val (.long j9), .second, .val (.ref o11), .val (.int i12), .val (.ref o13), s14, s15] [])) _
  refine XS.aload X5.here hx rfl (hb hby at_126) rfl rfl ?_
  show Steps p.tables e below (T5.setTop (mkF m 128 #[s0, s1, s2, s3, s4, s5, .val (.int i6), s7, s8, .val (.long j9), .second, .val (.ref o11), .val (.int i12), .val (.ref o13), s14, s15] [(.ref o11)])) _
  refine XS.iload X5.here hx rfl (hb hby at_128) rfl ?_
  show Steps p.tables e below (T5.setTop (mkF m 130 #[s0, s1, s2, s3, s4, s5, .val (.int i6), s7, s8, .val (.long j9), .second, .val (.ref o11), .val (.int i12), .val (.ref o13), s14, s15] [(.int i12), (.ref o11)])) _
  refine XS.lload X5.here hx rfl (hb hby at_130) rfl ?_
  show Steps p.tables e below (T5.setTop (mkF m 132 #[s0, s1, s2, s3, s4, s5, .val (.int i6), s7, s8, .val (.long j9), .second, .val (.ref o11), .val (.int i12), .val (.ref o13), s14, s15] [(.long j9), (.int i12), (.ref o11)])) _
  refine st6 _ ?_
  show Steps p.tables e below (T6.setTop (mkF m 133 #[s0, s1, s2, s3, s4, s5, .val (.int i6), s7, s8, .val (.long j9), .second, .val (.ref o11), .val (.int i12), .val (.ref o13), s14, s15] [])) _
  refine XS.iinc X6.here hx rfl (hb hby at_133) rfl (l' := #[s0, s1, s2, s3, s4, s5, .val (.int i6), s7, s8, .val (.long j9), .second, .val (.ref o11), .val (.int (i12 + (1 : Int32))), .val (.ref o13), s14, s15]) rfl ?_
  exact kt
set_option maxRecDepth 65536 in
set_option maxHeartbeats 40000000 in
theorem pz111 {p : Program} {l : Launch} {e : Env} {s : State} {m : MethodId} {args : Array Value} {below : List Frame} {meth : Method} {c : Code} {T0 : State} {locs : List Loc} {cells slots : Nat} {Z : State} {a0 : Array Value} {h0 : Heap} (s0 : Slot) (s1 : Slot) (s2 : Slot) (s3 : Slot) (s4 : Slot) (s5 : Slot) (i6 : Int32) (s7 : Slot) (s8 : Slot) (s9 : Slot) (s10 : Slot) (s11 : Slot) (s12 : Slot) (s13 : Slot) (s14 : Slot) (s15 : Slot)
    (X0 : Stand p l e room_1 s m args below meth c T0 locs cells slots) (hx : p.tables.exec = Jvm.exec) (hZ : Z.Warmed39 s.vm) (hw : ∀ d ∈ tables_1, d.before a0 Z = true) (hby : c.code = code) (hml : c.maxLocals = 16) (hown : s.vm.findClass "com/example/tideshift/tideshift/partition/AccessCountsKeysPinLaw" = some m.cls) (e0 : T0.heap = h0) (hc116 : (i6 &&& (8 : Int32)) = (0 : Int32)) :
    ∃ (T' : State), Stand p l e room_1 s m args below meth c T' locs cells slots ∧ T'.heap = h0 ∧
      ∀ target, Steps p.tables e below (T'.setTop (mkF m 136 #[s0, s1, s2, s3, s4, s5, .val (.int i6), s7, s8, s9, s10, s11, s12, s13, s14, s15] [])) target → Steps p.tables e below (T0.setTop (mkF m 111 #[s0, s1, s2, s3, s4, s5, .val (.int i6), s7, s8, s9, s10, s11, s12, s13, s14, s15] [])) target := by
  -- 3. LAWS

  refine ⟨T0, X0, e0, fun target kt => ?_⟩
  -- 4. STEPS
  show Steps p.tables e below (T0.setTop (mkF m 111 #[s0, s1, s2, s3, s4, s5, .val (.int i6), s7, s8, s9, s10, s11, s12, s13, s14, s15] [])) _
  refine XS.iload X0.here hx rfl (hb hby at_111) rfl ?_
  show Steps p.tables e below (T0.setTop (mkF m 113 #[s0, s1, s2, s3, s4, s5, .val (.int i6), s7, s8, s9, s10, s11, s12, s13, s14, s15] [(.int i6)])) _
  refine XS.bipush X0.here hx rfl (hb hby at_113) ?_
  show Steps p.tables e below (T0.setTop (mkF m 115 #[s0, s1, s2, s3, s4, s5, .val (.int i6), s7, s8, s9, s10, s11, s12, s13, s14, s15] [(.int (8 : Int32)), (.int i6)])) _
  refine XS.iand X0.here hx rfl (hb hby at_115) rfl ?_
  show Steps p.tables e below (T0.setTop (mkF m 116 #[s0, s1, s2, s3, s4, s5, .val (.int i6), s7, s8, s9, s10, s11, s12, s13, s14, s15] [(.int (i6 &&& (8 : Int32)))])) _
  refine XS.ifYes X0.here hx rfl (pc0 := 116) (pc' := 136) rfl (hb hby at_116) rfl ((if0 _ _).trans (teq hc116).1) (by decide) (by decide) ?_
  exact kt
theorem os0_109 {z0 : Value} {s2 : Slot} {s3 : Slot} {s4 : Slot} {s5 : Slot} {z6 : Value} {s7 : Slot} {s8 : Slot} {s9 : Slot} {s10 : Slot} {s11 : Slot} {s12 : Slot} {z13 : Value} {s14 : Slot} {s15 : Slot} {v : Int32} (h : One s12) : storeLocals #[.val z0, .second, s2, s3, s4, s5, .val z6, s7, s8, s9, s10, s11, s12, .val z13, s14, s15] 12 (.int v) = some #[.val z0, .second, s2, s3, s4, s5, .val z6, s7, s8, s9, s10, s11, .val (.int v), .val z13, s14, s15] := by
  rcases h with rfl | ⟨w, rfl, hw⟩
  · rfl
  · cases w <;> first | rfl | (simp [Value.category] at hw)
set_option maxRecDepth 65536 in
set_option maxHeartbeats 40000000 in
theorem pa95 {p : Program} {l : Launch} {e : Env} {s : State} {m : MethodId} {args : Array Value} {below : List Frame} {meth : Method} {c : Code} {T0 : State} {locs : List Loc} {cells slots : Nat} {Z : State} {a0 : Array Value} {h0 : Heap} (j0 : Int64) (s2 : Slot) (s3 : Slot) (s4 : Slot) (s5 : Slot) (i6 : Int32) (s7 : Slot) (s8 : Slot) (s9 : Slot) (s10 : Slot) (s11 : Slot) (s12 : Slot) (o13 : Addr) (s14 : Slot) (s15 : Slot) (o11 : Addr) (t u : Addr) (ks cs : Nat → Int64) (sz : Nat) (xs : List Int64) (f : Nat → Int64) (n0 : Nat)
    (X0 : Stand p l e room_1 s m args below meth c T0 locs cells slots) (hx : p.tables.exec = Jvm.exec) (hZ : Z.Warmed39 s.vm) (hw : ∀ d ∈ tables_1, d.before a0 Z = true) (hby : c.code = code) (hml : c.maxLocals = 16) (hown : s.vm.findClass "com/example/tideshift/tideshift/partition/AccessCountsKeysPinLaw" = some m.cls) (e0 : T0.heap = h0) (Z0 : n0 ≤ h0.size) (N0 : Fr n0 locs) (A : own_AC Z h0 o13 t u ks cs sz) (I : own_Inv ks cs sz xs) (La : own_La Z h0 o11 3 f) (ga : n0 ≤ o13) (gt : n0 ≤ t) (gu : n0 ≤ u) (g_o11 : n0 ≤ o11) (m1 : o11 ≠ t) (m2 : o11 ≠ u) (m3 : o11 ≠ o13) (hcl : cells + 4 ≤ 32) (hsl : slots + 34 ≤ 256) (own_cc : own_cache Z Z.heap) (X00 : Old Z n0 h0) (hs12 : One s12) (hc99 : ¬ ((i6 &&& (4 : Int32)) = (0 : Int32))) :
    ∃ (T' : State) (h' : Heap) (locs' : List Loc), Stand p l e room_1 s m args below meth c T' locs' (cells + 4) (slots + 34) ∧ T'.heap = h' ∧ Fr n0 locs' ∧ Keep h0 h' [o13] ∧ (∃ t' u' : Addr, own_AC Z h' o13 t' u' (fun _ => 0) (fun _ => 0) 0 ∧ h0.size ≤ t' ∧ h0.size ≤ u') ∧
      ∀ target, Steps p.tables e below (T'.setTop (mkF m 111 #[.val (.long j0), .second, s2, s3, s4, s5, .val (.int i6), s7, s8, s9, s10, s11, .val (.int (0 : Int32)), .val (.ref o13), s14, s15] [])) target → Steps p.tables e below (T0.setTop (mkF m 95 #[.val (.long j0), .second, s2, s3, s4, s5, .val (.int i6), s7, s8, s9, s10, s11, s12, .val (.ref o13), s14, s15] [])) target := by
  have E_o13 := A.1
  obtain ⟨-, own_fk, own_fc, own_fs, own_fz, ⟨own_r, own_fr⟩, -, -, -, -, -⟩ := id A
  -- 3. LAWS
  -- pc 105: com/example/tideshift/tideshift/partition/AccessCounts.clear by the contract of the body that the receiver's class selects, rm11
  obtain ⟨cq5, kq5, q5a, q5b, q5c⟩ := isOf hZ e0 E_o13
  obtain ⟨_, _, ⟨T5, L5, k5, n5⟩, -, X5, ⟨Lc5, hQ5, l5, y5, z5⟩, st5⟩ := X0.virtualBack hx (y := (⟨"com/example/tideshift/tideshift/partition/AccessCounts", "clear", "(J)V"⟩ : MethodName)) (z := (⟨"com/example/tideshift/tideshift/partition/AccessCounts", "clear", "(J)V"⟩ : MethodName)) hown (mvT hZ (hw _ (List.mem_of_getElem? (i := 56) rfl))) (mvT hZ (hw _ (List.mem_of_getElem? (i := 57) rfl))) (notFace_of_selects (args := #[]) (mvT hZ (hw _ (List.mem_of_getElem? (i := 59) rfl)))) (mvT hZ (hw _ (List.mem_of_getElem? (i := 59) rfl))) (mvT hZ (hw _ (List.mem_of_getElem? (i := 58) rfl))) (by decide) (backOf (W := 0) (rm11 l Z a0 hw [] o13 j0 own_r h0 n0 Z0 A.1 own_fr ga _ _ _ _ own_fk own_fc own_fs own_fz own_cc X00) hZ (hw _ (List.mem_of_getElem? (i := 60) rfl)) (hw _ (List.mem_of_getElem? (i := 3) rfl)) (by decide) (by decide)) q5a q5c (g := (mkF m 105 #[.val (.long j0), .second, s2, s3, s4, s5, .val (.int i6), s7, s8, s9, s10, s11, s12, .val (.ref o13), s14, s15] [(.long j0), (.ref o13)])) rfl (by rw [hml]; rfl) (Steps.refl _) (argsL := [(.long j0)]) (rest := []) (lenOf pd_0_3 rfl) rfl (by show 2 * 0 + _ ≤ _; exact Nat.le_of_eq rfl) (hb hby at_105) (fun _ _ => ⟨rfl, e0, (by show cells + 4 ≤ 32; exact hcl), (by show slots + 34 ≤ 256; exact hsl)⟩)
  dsimp only [Pt.U, Pt.locs, Pt.cells, Pt.slots] at X5 l5 y5 z5 st5 hQ5
  subst l5 y5 z5
  obtain ⟨rfl, N5q, K5q, t5, u5, A5, A5g1, A5g2⟩ := hQ5
  have N5 := Fr.app N0 N5q
  refine ⟨T5, _, _, X5, rfl, N5, K5q, ⟨t5, u5, A5, A5g1, A5g2⟩, fun target kt => ?_⟩
  -- 4. STEPS
  show Steps p.tables e below (T0.setTop (mkF m 95 #[.val (.long j0), .second, s2, s3, s4, s5, .val (.int i6), s7, s8, s9, s10, s11, s12, .val (.ref o13), s14, s15] [])) _
  refine XS.iload X0.here hx rfl (hb hby at_95) rfl ?_
  show Steps p.tables e below (T0.setTop (mkF m 97 #[.val (.long j0), .second, s2, s3, s4, s5, .val (.int i6), s7, s8, s9, s10, s11, s12, .val (.ref o13), s14, s15] [(.int i6)])) _
  refine XS.iconst X0.here hx rfl (hb hby at_97) ?_
  show Steps p.tables e below (T0.setTop (mkF m 98 #[.val (.long j0), .second, s2, s3, s4, s5, .val (.int i6), s7, s8, s9, s10, s11, s12, .val (.ref o13), s14, s15] [(.int (4 : Int32)), (.int i6)])) _
  refine XS.iand X0.here hx rfl (hb hby at_98) rfl ?_
  show Steps p.tables e below (T0.setTop (mkF m 99 #[.val (.long j0), .second, s2, s3, s4, s5, .val (.int i6), s7, s8, s9, s10, s11, s12, .val (.ref o13), s14, s15] [(.int (i6 &&& (4 : Int32)))])) _
  refine XS.ifNo X0.here hx rfl (hb hby at_99) rfl ((if0 _ _).trans (feq hc99).1) ?_
  show Steps p.tables e below (T0.setTop (mkF m 102 #[.val (.long j0), .second, s2, s3, s4, s5, .val (.int i6), s7, s8, s9, s10, s11, s12, .val (.ref o13), s14, s15] [])) _
  refine XS.aload X0.here hx rfl (hb hby at_102) rfl rfl ?_
  show Steps p.tables e below (T0.setTop (mkF m 104 #[.val (.long j0), .second, s2, s3, s4, s5, .val (.int i6), s7, s8, s9, s10, s11, s12, .val (.ref o13), s14, s15] [(.ref o13)])) _
  refine XS.lloadN X0.here hx rfl (hb hby at_104) rfl ?_
  show Steps p.tables e below (T0.setTop (mkF m 105 #[.val (.long j0), .second, s2, s3, s4, s5, .val (.int i6), s7, s8, s9, s10, s11, s12, .val (.ref o13), s14, s15] [(.long j0), (.ref o13)])) _
  refine st5.trans ?_
  show Steps p.tables e below (T5.setTop (mkF m 108 #[.val (.long j0), .second, s2, s3, s4, s5, .val (.int i6), s7, s8, s9, s10, s11, s12, .val (.ref o13), s14, s15] [])) _
  refine XS.iconst X5.here hx rfl (hb hby at_108) ?_
  show Steps p.tables e below (T5.setTop (mkF m 109 #[.val (.long j0), .second, s2, s3, s4, s5, .val (.int i6), s7, s8, s9, s10, s11, s12, .val (.ref o13), s14, s15] [(.int (0 : Int32))])) _
  refine XS.istore X5.here hx rfl (hb hby at_109) rfl (l' := #[.val (.long j0), .second, s2, s3, s4, s5, .val (.int i6), s7, s8, s9, s10, s11, .val (.int (0 : Int32)), .val (.ref o13), s14, s15]) (os0_109 hs12) ?_
  exact kt
set_option maxRecDepth 65536 in
set_option maxHeartbeats 40000000 in
theorem pz95 {p : Program} {l : Launch} {e : Env} {s : State} {m : MethodId} {args : Array Value} {below : List Frame} {meth : Method} {c : Code} {T0 : State} {locs : List Loc} {cells slots : Nat} {Z : State} {a0 : Array Value} {h0 : Heap} (s0 : Slot) (s1 : Slot) (s2 : Slot) (s3 : Slot) (s4 : Slot) (s5 : Slot) (i6 : Int32) (s7 : Slot) (s8 : Slot) (s9 : Slot) (s10 : Slot) (s11 : Slot) (s12 : Slot) (s13 : Slot) (s14 : Slot) (s15 : Slot)
    (X0 : Stand p l e room_1 s m args below meth c T0 locs cells slots) (hx : p.tables.exec = Jvm.exec) (hZ : Z.Warmed39 s.vm) (hw : ∀ d ∈ tables_1, d.before a0 Z = true) (hby : c.code = code) (hml : c.maxLocals = 16) (hown : s.vm.findClass "com/example/tideshift/tideshift/partition/AccessCountsKeysPinLaw" = some m.cls) (e0 : T0.heap = h0) (hc99 : (i6 &&& (4 : Int32)) = (0 : Int32)) :
    ∃ (T' : State), Stand p l e room_1 s m args below meth c T' locs cells slots ∧ T'.heap = h0 ∧
      ∀ target, Steps p.tables e below (T'.setTop (mkF m 111 #[s0, s1, s2, s3, s4, s5, .val (.int i6), s7, s8, s9, s10, s11, s12, s13, s14, s15] [])) target → Steps p.tables e below (T0.setTop (mkF m 95 #[s0, s1, s2, s3, s4, s5, .val (.int i6), s7, s8, s9, s10, s11, s12, s13, s14, s15] [])) target := by
  -- 3. LAWS

  refine ⟨T0, X0, e0, fun target kt => ?_⟩
  -- 4. STEPS
  show Steps p.tables e below (T0.setTop (mkF m 95 #[s0, s1, s2, s3, s4, s5, .val (.int i6), s7, s8, s9, s10, s11, s12, s13, s14, s15] [])) _
  refine XS.iload X0.here hx rfl (hb hby at_95) rfl ?_
  show Steps p.tables e below (T0.setTop (mkF m 97 #[s0, s1, s2, s3, s4, s5, .val (.int i6), s7, s8, s9, s10, s11, s12, s13, s14, s15] [(.int i6)])) _
  refine XS.iconst X0.here hx rfl (hb hby at_97) ?_
  show Steps p.tables e below (T0.setTop (mkF m 98 #[s0, s1, s2, s3, s4, s5, .val (.int i6), s7, s8, s9, s10, s11, s12, s13, s14, s15] [(.int (4 : Int32)), (.int i6)])) _
  refine XS.iand X0.here hx rfl (hb hby at_98) rfl ?_
  show Steps p.tables e below (T0.setTop (mkF m 99 #[s0, s1, s2, s3, s4, s5, .val (.int i6), s7, s8, s9, s10, s11, s12, s13, s14, s15] [(.int (i6 &&& (4 : Int32)))])) _
  refine XS.ifYes X0.here hx rfl (pc0 := 99) (pc' := 111) rfl (hb hby at_99) rfl ((if0 _ _).trans (teq hc99).1) (by decide) (by decide) ?_
  exact kt
def own_Ph (Z : State) (n0 : Nat) (o11 o13 : Addr) (xs : List Int64) (h : Heap) (locs : List Loc) : Prop := Fr n0 locs ∧ Old Z n0 h ∧ own_St Z h n0 o11 o13 xs
theorem own_hf {xs : List Int64} {f : Nat → Int64} {v : Int64} (hf : ∀ i, i < xs.length → f i = xs.getD i 0) : ∀ i, i < (xs ++ [v]).length → own_upd f xs.length v i = (xs ++ [v]).getD i 0 := by
  intro i hi
  refine Eq.trans ?_ (congrFun (own_getD_snoc xs v) i)
  by_cases h : i = xs.length
  · subst h; rw [own_upd_at, own_upd_at]
  · rw [own_upd_ne _ _ h, own_upd_ne _ _ h]
    rw [List.length_append, List.length_singleton] at hi
    exact hf i (by omega)
set_option maxHeartbeats 4000000 in
theorem own_c49 {p : Program} {l : Launch} {e : Env} {s : State} {m : MethodId} {args : Array Value} {below : List Frame} {meth : Method} {c : Code} {T0 : State} {locs : List Loc} {cells slots : Nat} {Z : State} {a0 : Array Value} {h0 : Heap} (j0 : Int64) (s2 s3 s4 s5 : Slot) (i6 : Int32) (j7 j9 : Int64) (o11 o13 : Addr) (s14 s15 : Slot) (xs : List Int64) (n0 : Nat) (X0 : Stand p l e room_1 s m args below meth c T0 locs cells slots) (hx : p.tables.exec = Jvm.exec) (hZ : Z.Warmed39 s.vm) (hw : ∀ d ∈ tables_1, d.before a0 Z = true) (hby : c.code = code) (hml : c.maxLocals = 16) (hown : s.vm.findClass "com/example/tideshift/tideshift/partition/AccessCountsKeysPinLaw" = some m.cls) (e0 : T0.heap = h0) (P : own_Ph Z n0 o11 o13 xs h0 locs) (hl : xs.length ≤ 2) (hcl : cells ≤ 32) (hsl : slots ≤ 256) :
    ∃ (T' : State) (h' : Heap) (locs' : List Loc) (xs' : List Int64), Stand p l e room_1 s m args below meth c T' locs' cells slots ∧ T'.heap = h' ∧ own_Ph Z n0 o11 o13 xs' h' locs' ∧ xs'.length ≤ xs.length + 1 ∧
      ∀ target, Steps p.tables e below (T'.setTop (mkF m 71 #[.val (.long j0), .second, s2, s3, s4, s5, .val (.int i6), .val (.long j7), .second, .val (.long j9), .second, .val (.ref o11), .val (.int (Int32.ofNat xs'.length)), .val (.ref o13), s14, s15] [])) target → Steps p.tables e below (T0.setTop (mkF m 49 #[.val (.long j0), .second, s2, s3, s4, s5, .val (.int i6), .val (.long j7), .second, .val (.long j9), .second, .val (.ref o11), .val (.int (Int32.ofNat xs.length)), .val (.ref o13), s14, s15] [])) target := by
  obtain ⟨N0, O0, t, u, ks, cs, sz, f, A, I, La, hf, gt, gu, ga, go, m1, m2, m3⟩ := P
  have Z0 : n0 ≤ h0.size := Nat.le_trans (Nat.le_of_eq O0.1.symm) O0.2.1
  by_cases hc : (i6 &&& (1 : Int32)) = (0 : Int32)
  · obtain ⟨T', X', e', st⟩ := pz49 (.val (.long j0)) .second s2 s3 s4 s5 i6 (.val (.long j7)) .second (.val (.long j9)) .second (.val (.ref o11)) (.val (.int (Int32.ofNat xs.length))) (.val (.ref o13)) s14 s15 X0 hx hZ hw hby hml hown e0 hc
    exact ⟨T', h0, locs, xs, X', e', ⟨N0, O0, t, u, ks, cs, sz, f, A, I, La, hf, gt, gu, ga, go, m1, m2, m3⟩, Nat.le_succ _, st⟩
  · obtain ⟨T', h', locs', X', e', N', K', ⟨ks', cs', sz', A', I'⟩, La', st⟩ := pa49 j0 s2 s3 s4 s5 i6 (.val (.long j7)) .second (.val (.long j9)) .second o11 (Int32.ofNat xs.length) o13 s14 s15 t u ks cs sz xs f n0 X0 hx hZ hw hby hml hown e0 Z0 N0 A I hl La rfl ga gt gu go m1 m2 m3 hcl hsl hc
    refine ⟨T', h', locs', xs ++ [j0], X', e', ⟨N', O0.keep K' (allS go (allS gt (allS gu (allS ga all0)))), t, u, ks', cs', sz', _, A', I', La', own_hf hf, gt, gu, ga, go, m1, m2, m3⟩, by rw [List.length_append]; exact Nat.le_refl _, fun target kt => st target ?_⟩
    rw [own_one]
    rw [List.length_append, List.length_singleton] at kt
    exact kt
set_option maxHeartbeats 4000000 in
theorem own_c71 {p : Program} {l : Launch} {e : Env} {s : State} {m : MethodId} {args : Array Value} {below : List Frame} {meth : Method} {c : Code} {T0 : State} {locs : List Loc} {cells slots : Nat} {Z : State} {a0 : Array Value} {h0 : Heap} (j0 : Int64) (s2 s3 s4 s5 : Slot) (i6 : Int32) (j7 j9 : Int64) (o11 o13 : Addr) (s14 s15 : Slot) (xs : List Int64) (n0 : Nat) (X0 : Stand p l e room_1 s m args below meth c T0 locs cells slots) (hx : p.tables.exec = Jvm.exec) (hZ : Z.Warmed39 s.vm) (hw : ∀ d ∈ tables_1, d.before a0 Z = true) (hby : c.code = code) (hml : c.maxLocals = 16) (hown : s.vm.findClass "com/example/tideshift/tideshift/partition/AccessCountsKeysPinLaw" = some m.cls) (e0 : T0.heap = h0) (P : own_Ph Z n0 o11 o13 xs h0 locs) (hl : xs.length ≤ 2) (hcl : cells ≤ 32) (hsl : slots ≤ 256) :
    ∃ (T' : State) (h' : Heap) (locs' : List Loc) (xs' : List Int64), Stand p l e room_1 s m args below meth c T' locs' cells slots ∧ T'.heap = h' ∧ own_Ph Z n0 o11 o13 xs' h' locs' ∧ xs'.length ≤ xs.length + 1 ∧
      ∀ target, Steps p.tables e below (T'.setTop (mkF m 95 #[.val (.long j0), .second, s2, s3, s4, s5, .val (.int i6), .val (.long j7), .second, .val (.long j9), .second, .val (.ref o11), .val (.int (Int32.ofNat xs'.length)), .val (.ref o13), s14, s15] [])) target → Steps p.tables e below (T0.setTop (mkF m 71 #[.val (.long j0), .second, s2, s3, s4, s5, .val (.int i6), .val (.long j7), .second, .val (.long j9), .second, .val (.ref o11), .val (.int (Int32.ofNat xs.length)), .val (.ref o13), s14, s15] [])) target := by
  obtain ⟨N0, O0, t, u, ks, cs, sz, f, A, I, La, hf, gt, gu, ga, go, m1, m2, m3⟩ := P
  have Z0 : n0 ≤ h0.size := Nat.le_trans (Nat.le_of_eq O0.1.symm) O0.2.1
  by_cases hc : (i6 &&& (2 : Int32)) = (0 : Int32)
  · obtain ⟨T', X', e', st⟩ := pz71 (.val (.long j0)) .second s2 s3 s4 s5 i6 (.val (.long j7)) .second (.val (.long j9)) .second (.val (.ref o11)) (.val (.int (Int32.ofNat xs.length))) (.val (.ref o13)) s14 s15 X0 hx hZ hw hby hml hown e0 hc
    exact ⟨T', h0, locs, xs, X', e', ⟨N0, O0, t, u, ks, cs, sz, f, A, I, La, hf, gt, gu, ga, go, m1, m2, m3⟩, Nat.le_succ _, st⟩
  · obtain ⟨T', h', locs', X', e', N', K', ⟨ks', cs', sz', A', I'⟩, La', st⟩ := pa71 (.val (.long j0)) .second s2 s3 s4 s5 i6 j7 (.val (.long j9)) .second o11 (Int32.ofNat xs.length) o13 s14 s15 t u ks cs sz xs f n0 X0 hx hZ hw hby hml hown e0 Z0 N0 A I hl La rfl ga gt gu go m1 m2 m3 hcl hsl hc
    refine ⟨T', h', locs', xs ++ [j7], X', e', ⟨N', O0.keep K' (allS go (allS gt (allS gu (allS ga all0)))), t, u, ks', cs', sz', _, A', I', La', own_hf hf, gt, gu, ga, go, m1, m2, m3⟩, by rw [List.length_append]; exact Nat.le_refl _, fun target kt => st target ?_⟩
    rw [own_one]
    rw [List.length_append, List.length_singleton] at kt
    exact kt
set_option maxHeartbeats 4000000 in
theorem own_c111 {p : Program} {l : Launch} {e : Env} {s : State} {m : MethodId} {args : Array Value} {below : List Frame} {meth : Method} {c : Code} {T0 : State} {locs : List Loc} {cells slots : Nat} {Z : State} {a0 : Array Value} {h0 : Heap} (j0 : Int64) (s2 s3 s4 s5 : Slot) (i6 : Int32) (j7 j9 : Int64) (o11 o13 : Addr) (s14 s15 : Slot) (xs : List Int64) (n0 : Nat) (X0 : Stand p l e room_1 s m args below meth c T0 locs cells slots) (hx : p.tables.exec = Jvm.exec) (hZ : Z.Warmed39 s.vm) (hw : ∀ d ∈ tables_1, d.before a0 Z = true) (hby : c.code = code) (hml : c.maxLocals = 16) (hown : s.vm.findClass "com/example/tideshift/tideshift/partition/AccessCountsKeysPinLaw" = some m.cls) (e0 : T0.heap = h0) (P : own_Ph Z n0 o11 o13 xs h0 locs) (hl : xs.length ≤ 2) (hcl : cells ≤ 32) (hsl : slots ≤ 256) :
    ∃ (T' : State) (h' : Heap) (locs' : List Loc) (xs' : List Int64), Stand p l e room_1 s m args below meth c T' locs' cells slots ∧ T'.heap = h' ∧ own_Ph Z n0 o11 o13 xs' h' locs' ∧ xs'.length ≤ xs.length + 1 ∧
      ∀ target, Steps p.tables e below (T'.setTop (mkF m 136 #[.val (.long j0), .second, s2, s3, s4, s5, .val (.int i6), .val (.long j7), .second, .val (.long j9), .second, .val (.ref o11), .val (.int (Int32.ofNat xs'.length)), .val (.ref o13), s14, s15] [])) target → Steps p.tables e below (T0.setTop (mkF m 111 #[.val (.long j0), .second, s2, s3, s4, s5, .val (.int i6), .val (.long j7), .second, .val (.long j9), .second, .val (.ref o11), .val (.int (Int32.ofNat xs.length)), .val (.ref o13), s14, s15] [])) target := by
  obtain ⟨N0, O0, t, u, ks, cs, sz, f, A, I, La, hf, gt, gu, ga, go, m1, m2, m3⟩ := P
  have Z0 : n0 ≤ h0.size := Nat.le_trans (Nat.le_of_eq O0.1.symm) O0.2.1
  by_cases hc : (i6 &&& (8 : Int32)) = (0 : Int32)
  · obtain ⟨T', X', e', st⟩ := pz111 (.val (.long j0)) .second s2 s3 s4 s5 i6 (.val (.long j7)) .second (.val (.long j9)) .second (.val (.ref o11)) (.val (.int (Int32.ofNat xs.length))) (.val (.ref o13)) s14 s15 X0 hx hZ hw hby hml hown e0 hc
    exact ⟨T', h0, locs, xs, X', e', ⟨N0, O0, t, u, ks, cs, sz, f, A, I, La, hf, gt, gu, ga, go, m1, m2, m3⟩, Nat.le_succ _, st⟩
  · obtain ⟨T', h', locs', X', e', N', K', ⟨ks', cs', sz', A', I'⟩, La', st⟩ := pa111 (.val (.long j0)) .second s2 s3 s4 s5 i6 (.val (.long j7)) .second j9 o11 (Int32.ofNat xs.length) o13 s14 s15 t u ks cs sz xs f n0 X0 hx hZ hw hby hml hown e0 Z0 N0 A I hl La rfl ga gt gu go m1 m2 m3 hcl hsl hc
    refine ⟨T', h', locs', xs ++ [j9], X', e', ⟨N', O0.keep K' (allS go (allS gt (allS gu (allS ga all0)))), t, u, ks', cs', sz', _, A', I', La', own_hf hf, gt, gu, ga, go, m1, m2, m3⟩, by rw [List.length_append]; exact Nat.le_refl _, fun target kt => st target ?_⟩
    rw [own_one]
    rw [List.length_append, List.length_singleton] at kt
    exact kt
set_option maxHeartbeats 4000000 in
theorem own_c95 {p : Program} {l : Launch} {e : Env} {s : State} {m : MethodId} {args : Array Value} {below : List Frame} {meth : Method} {c : Code} {T0 : State} {locs : List Loc} {cells slots : Nat} {Z : State} {a0 : Array Value} {h0 : Heap} (j0 : Int64) (s2 s3 s4 s5 : Slot) (i6 : Int32) (j7 j9 : Int64) (o11 o13 : Addr) (s14 s15 : Slot) (xs : List Int64) (n0 : Nat) (X0 : Stand p l e room_1 s m args below meth c T0 locs cells slots) (hx : p.tables.exec = Jvm.exec) (hZ : Z.Warmed39 s.vm) (hw : ∀ d ∈ tables_1, d.before a0 Z = true) (hby : c.code = code) (hml : c.maxLocals = 16) (hown : s.vm.findClass "com/example/tideshift/tideshift/partition/AccessCountsKeysPinLaw" = some m.cls) (e0 : T0.heap = h0) (P : own_Ph Z n0 o11 o13 xs h0 locs) (own_cc : own_cache Z Z.heap) (hcl : cells + 4 ≤ 32) (hsl : slots + 34 ≤ 256) :
    ∃ (T' : State) (h' : Heap) (locs' : List Loc) (xs' : List Int64), Stand p l e room_1 s m args below meth c T' locs' (cells + 4) (slots + 34) ∧ T'.heap = h' ∧ own_Ph Z n0 o11 o13 xs' h' locs' ∧ xs'.length ≤ xs.length ∧
      ∀ target, Steps p.tables e below (T'.setTop (mkF m 111 #[.val (.long j0), .second, s2, s3, s4, s5, .val (.int i6), .val (.long j7), .second, .val (.long j9), .second, .val (.ref o11), .val (.int (Int32.ofNat xs'.length)), .val (.ref o13), s14, s15] [])) target → Steps p.tables e below (T0.setTop (mkF m 95 #[.val (.long j0), .second, s2, s3, s4, s5, .val (.int i6), .val (.long j7), .second, .val (.long j9), .second, .val (.ref o11), .val (.int (Int32.ofNat xs.length)), .val (.ref o13), s14, s15] [])) target := by
  obtain ⟨N0, O0, t, u, ks, cs, sz, f, A, I, La, hf, gt, gu, ga, go, m1, m2, m3⟩ := P
  have Z0 : n0 ≤ h0.size := Nat.le_trans (Nat.le_of_eq O0.1.symm) O0.2.1
  by_cases hc : (i6 &&& (4 : Int32)) = (0 : Int32)
  · obtain ⟨T', X', e', st⟩ := pz95 (.val (.long j0)) .second s2 s3 s4 s5 i6 (.val (.long j7)) .second (.val (.long j9)) .second (.val (.ref o11)) (.val (.int (Int32.ofNat xs.length))) (.val (.ref o13)) s14 s15 X0 hx hZ hw hby hml hown e0 hc
    exact ⟨T', h0, locs, xs, X'.more (Nat.le_add_right _ _) (Nat.le_add_right _ _), e', ⟨N0, O0, t, u, ks, cs, sz, f, A, I, La, hf, gt, gu, ga, go, m1, m2, m3⟩, Nat.le_refl _, st⟩
  · obtain ⟨T', h', locs', X', e', N', K', ⟨t', u', A', gt', gu'⟩, st⟩ := pa95 j0 s2 s3 s4 s5 i6 (.val (.long j7)) .second (.val (.long j9)) .second (.val (.ref o11)) (.val (.int (Int32.ofNat xs.length))) o13 s14 s15 o11 t u ks cs sz xs f n0 X0 hx hZ hw hby hml hown e0 Z0 N0 A I La ga gt gu go m1 m2 m3 hcl hsl own_cc O0 (One.val rfl) hc
    have lt := own_La_lt La
    exact ⟨T', h', locs', [], X', e', ⟨N', O0.keep K' (allS ga all0), t', u', _, _, _, f, A', own_Inv_nil _, own_La_keep La K' (ninS m3 nin0), fun i hi => absurd hi (Nat.not_lt_zero _), Nat.le_trans Z0 gt', Nat.le_trans Z0 gu', ga, go, Nat.ne_of_lt (Nat.lt_of_lt_of_le lt gt'), Nat.ne_of_lt (Nat.lt_of_lt_of_le lt gu'), m3⟩, Nat.zero_le _, st⟩
theorem pd_0_5 : parseMethodDescriptor "()[J" = some ⟨[], some (.array .long)⟩ := by decide +kernel
theorem os0_141 {s0 : Slot} {s1 : Slot} {s2 : Slot} {s3 : Slot} {s4 : Slot} {s5 : Slot} {s6 : Slot} {s7 : Slot} {s8 : Slot} {s9 : Slot} {s10 : Slot} {s11 : Slot} {s12 : Slot} {z13 : Value} {s14 : Slot} {s15 : Slot} {v : Addr} (h : One s14) : storeLocals #[s0, s1, s2, s3, s4, s5, s6, s7, s8, s9, s10, s11, s12, .val z13, s14, s15] 14 (.ref v) = some #[s0, s1, s2, s3, s4, s5, s6, s7, s8, s9, s10, s11, s12, .val z13, .val (.ref v), s15] := by
  rcases h with rfl | ⟨w, rfl, hw⟩
  · rfl
  · cases w <;> first | rfl | (simp [Value.category] at hw)
theorem os0_144 {s0 : Slot} {s1 : Slot} {s2 : Slot} {s3 : Slot} {s4 : Slot} {s5 : Slot} {s6 : Slot} {s7 : Slot} {s8 : Slot} {s9 : Slot} {s10 : Slot} {s11 : Slot} {s12 : Slot} {z13 : Value} {z14 : Value} {s15 : Slot} {v : Int32} (h : One s15) : storeLocals #[s0, s1, s2, s3, s4, s5, s6, s7, s8, s9, s10, s11, s12, .val z13, .val z14, s15] 15 (.int v) = some #[s0, s1, s2, s3, s4, s5, s6, s7, s8, s9, s10, s11, s12, .val z13, .val z14, .val (.int v)] := by
  rcases h with rfl | ⟨w, rfl, hw⟩
  · rfl
  · cases w <;> first | rfl | (simp [Value.category] at hw)
set_option maxRecDepth 65536 in
set_option maxHeartbeats 40000000 in
theorem pk136 {p : Program} {l : Launch} {e : Env} {s : State} {m : MethodId} {args : Array Value} {below : List Frame} {meth : Method} {c : Code} {T0 : State} {locs : List Loc} {cells slots : Nat} {Z : State} {a0 : Array Value} {h0 : Heap} (s0 : Slot) (s1 : Slot) (s2 : Slot) (s3 : Slot) (s4 : Slot) (s5 : Slot) (s6 : Slot) (s7 : Slot) (s8 : Slot) (s9 : Slot) (s10 : Slot) (s11 : Slot) (s12 : Slot) (o13 : Addr) (s14 : Slot) (s15 : Slot) (t u : Addr) (ks cs : Nat → Int64) (sz : Nat) (n0 : Nat)
    (X0 : Stand p l e room_1 s m args below meth c T0 locs cells slots) (hx : p.tables.exec = Jvm.exec) (hZ : Z.Warmed39 s.vm) (hw : ∀ d ∈ tables_1, d.before a0 Z = true) (hby : c.code = code) (hml : c.maxLocals = 16) (hown : s.vm.findClass "com/example/tideshift/tideshift/partition/AccessCountsKeysPinLaw" = some m.cls) (e0 : T0.heap = h0) (Z0 : n0 ≤ h0.size) (N0 : Fr n0 locs) (A : own_AC Z h0 o13 t u ks cs sz) (hsz : own_cnt (own_occ cs) 16 = sz) (hsz3 : sz ≤ 3) (hcl : cells + 1 ≤ 32) (hsl : slots + 3 ≤ 256) (hs14 : One s14) (hs15 : One s15) :
    ∃ (T' : State) (h' : Heap) (locs' : List Loc) (r : Addr), Stand p l e room_1 s m args below meth c T' locs' (cells + 1) (slots + 3) ∧ T'.heap = h' ∧ Fr n0 locs' ∧ Keep h0 h' [] ∧ own_La Z h' r sz (fun j => (own_lst ks (own_occ cs) 16).getD j 0) ∧
      ∀ target, Steps p.tables e below (T'.setTop (mkF m 146 #[s0, s1, s2, s3, s4, s5, s6, s7, s8, s9, s10, s11, s12, .val (.ref o13), .val (.ref r), .val (.int (0 : Int32))] [])) target → Steps p.tables e below (T0.setTop (mkF m 136 #[s0, s1, s2, s3, s4, s5, s6, s7, s8, s9, s10, s11, s12, .val (.ref o13), s14, s15] [])) target := by
  have E_o13 := A.1
  obtain ⟨-, own_fk, own_fc, own_fs, own_fz, -, own_lk, own_lc, -, -, -⟩ := id A
  -- 3. LAWS
  -- pc 138: com/example/tideshift/tideshift/partition/AccessCounts.keys by the contract of the body that the receiver's class selects, rm8
  obtain ⟨cq5, kq5, q5a, q5b, q5c⟩ := isOf hZ e0 E_o13
  obtain ⟨_, _, ⟨T5, L5, k5, n5⟩, -, X5, ⟨Lc5, hQ5, l5, y5, z5⟩, st5⟩ := X0.virtualBack hx (y := (⟨"com/example/tideshift/tideshift/partition/AccessCounts", "keys", "()[J"⟩ : MethodName)) (z := (⟨"com/example/tideshift/tideshift/partition/AccessCounts", "keys", "()[J"⟩ : MethodName)) hown (mvT hZ (hw _ (List.mem_of_getElem? (i := 44) rfl))) (mvT hZ (hw _ (List.mem_of_getElem? (i := 45) rfl))) (notFace_of_selects (args := #[]) (mvT hZ (hw _ (List.mem_of_getElem? (i := 47) rfl)))) (mvT hZ (hw _ (List.mem_of_getElem? (i := 47) rfl))) (mvT hZ (hw _ (List.mem_of_getElem? (i := 46) rfl))) (by decide) (backOf (W := 0) (rm8 l Z a0 hw [] o13 (Int32.ofNat sz) h0 n0 Z0 own_fz t u ks cs sz hsz hsz3 rfl own_fk own_fc own_lk own_lc) hZ (hw _ (List.mem_of_getElem? (i := 48) rfl)) (hw _ (List.mem_of_getElem? (i := 3) rfl)) (by decide) (by decide)) q5a q5c (g := (mkF m 138 #[s0, s1, s2, s3, s4, s5, s6, s7, s8, s9, s10, s11, s12, .val (.ref o13), s14, s15] [(.ref o13)])) rfl (by rw [hml]; rfl) (Steps.refl _) (argsL := []) (rest := []) (lenOf pd_0_5 rfl) rfl (by show 2 * 0 + _ ≤ _; exact Nat.le_of_eq rfl) (hb hby at_138) (fun _ _ => ⟨rfl, e0, (by show cells + 1 ≤ 32; exact hcl), (by show slots + 3 ≤ 256; exact hsl)⟩)
  dsimp only [Pt.U, Pt.locs, Pt.cells, Pt.slots] at X5 l5 y5 z5 st5 hQ5
  subst l5 y5 z5
  obtain ⟨r5, rfl, N5q, K5q, R5, -⟩ := hQ5
  have N5 := Fr.app N0 N5q
  refine ⟨T5, _, _, r5, X5, rfl, N5, K5q, R5, fun target kt => ?_⟩
  -- 4. STEPS
  show Steps p.tables e below (T0.setTop (mkF m 136 #[s0, s1, s2, s3, s4, s5, s6, s7, s8, s9, s10, s11, s12, .val (.ref o13), s14, s15] [])) _
  refine XS.aload X0.here hx rfl (hb hby at_136) rfl rfl ?_
  show Steps p.tables e below (T0.setTop (mkF m 138 #[s0, s1, s2, s3, s4, s5, s6, s7, s8, s9, s10, s11, s12, .val (.ref o13), s14, s15] [(.ref o13)])) _
  refine st5.trans ?_
  show Steps p.tables e below (T5.setTop (mkF m 141 #[s0, s1, s2, s3, s4, s5, s6, s7, s8, s9, s10, s11, s12, .val (.ref o13), s14, s15] [(.ref r5)])) _
  refine XS.astore X5.here hx rfl (hb hby at_141) rfl rfl (l' := #[s0, s1, s2, s3, s4, s5, s6, s7, s8, s9, s10, s11, s12, .val (.ref o13), .val (.ref r5), s15]) (os0_141 hs14) ?_
  show Steps p.tables e below (T5.setTop (mkF m 143 #[s0, s1, s2, s3, s4, s5, s6, s7, s8, s9, s10, s11, s12, .val (.ref o13), .val (.ref r5), s15] [])) _
  refine XS.iconst X5.here hx rfl (hb hby at_143) ?_
  show Steps p.tables e below (T5.setTop (mkF m 144 #[s0, s1, s2, s3, s4, s5, s6, s7, s8, s9, s10, s11, s12, .val (.ref o13), .val (.ref r5), s15] [(.int (0 : Int32))])) _
  refine XS.istore X5.here hx rfl (hb hby at_144) rfl (l' := #[s0, s1, s2, s3, s4, s5, s6, s7, s8, s9, s10, s11, s12, .val (.ref o13), .val (.ref r5), .val (.int (0 : Int32))]) (os0_144 hs15) ?_
  exact kt
set_option maxRecDepth 65536 in
set_option maxHeartbeats 40000000 in
theorem pdttt {p : Program} {l : Launch} {e : Env} {s : State} {m : MethodId} {args : Array Value} {below : List Frame} {meth : Method} {c : Code} {T0 : State} {locs : List Loc} {cells slots : Nat} {Z : State} {a0 : Array Value} {h0 : Heap} (s0 : Slot) (s1 : Slot) (s2 : Slot) (s3 : Slot) (s4 : Slot) (s5 : Slot) (s6 : Slot) (s7 : Slot) (s8 : Slot) (s9 : Slot) (s10 : Slot) (s11 : Slot) (i12 : Int32) (s13 : Slot) (s14 : Slot) (s15 : Slot)
    (X0 : Stand p l e room_1 s m args below meth c T0 locs cells slots) (hx : p.tables.exec = Jvm.exec) (hZ : Z.Warmed39 s.vm) (hw : ∀ d ∈ tables_1, d.before a0 Z = true) (hby : c.code = code) (hml : c.maxLocals = 16) (hown : s.vm.findClass "com/example/tideshift/tideshift/partition/AccessCountsKeysPinLaw" = some m.cls) (e0 : T0.heap = h0) (hc148 : ¬ ((0 : Int32) < i12)) (hc160 : ¬ ((1 : Int32) < i12)) (hc184 : ¬ ((2 : Int32) < i12)) :
    ∃ (T' : State), Stand p l e room_1 s m args below meth c T' locs cells slots ∧ T'.heap = h0 ∧
      ∀ target, Steps p.tables e below (T'.setTop (mkF m 217 #[s0, s1, s2, s3, s4, s5, s6, s7, s8, s9, s10, s11, .val (.int i12), s13, s14, s15] [])) target → Steps p.tables e below (T0.setTop (mkF m 146 #[s0, s1, s2, s3, s4, s5, s6, s7, s8, s9, s10, s11, .val (.int i12), s13, s14, s15] [])) target := by
  -- 3. LAWS

  refine ⟨T0, X0, e0, fun target kt => ?_⟩
  -- 4. STEPS
  show Steps p.tables e below (T0.setTop (mkF m 146 #[s0, s1, s2, s3, s4, s5, s6, s7, s8, s9, s10, s11, .val (.int i12), s13, s14, s15] [])) _
  refine XS.iload X0.here hx rfl (hb hby at_146) rfl ?_
  show Steps p.tables e below (T0.setTop (mkF m 148 #[s0, s1, s2, s3, s4, s5, s6, s7, s8, s9, s10, s11, .val (.int i12), s13, s14, s15] [(.int i12)])) _
  refine XS.ifYes X0.here hx rfl (pc0 := 148) (pc' := 157) rfl (hb hby at_148) rfl ((if0 _ _).trans (flt hc148).2.2.2) (by decide) (by decide) ?_
  show Steps p.tables e below (T0.setTop (mkF m 157 #[s0, s1, s2, s3, s4, s5, s6, s7, s8, s9, s10, s11, .val (.int i12), s13, s14, s15] [])) _
  refine XS.iload X0.here hx rfl (hb hby at_157) rfl ?_
  show Steps p.tables e below (T0.setTop (mkF m 159 #[s0, s1, s2, s3, s4, s5, s6, s7, s8, s9, s10, s11, .val (.int i12), s13, s14, s15] [(.int i12)])) _
  refine XS.iconst X0.here hx rfl (hb hby at_159) ?_
  show Steps p.tables e below (T0.setTop (mkF m 160 #[s0, s1, s2, s3, s4, s5, s6, s7, s8, s9, s10, s11, .val (.int i12), s13, s14, s15] [(.int (1 : Int32)), (.int i12)])) _
  refine XS.icmpYes X0.here hx rfl (pc0 := 160) (pc' := 181) rfl (hb hby at_160) rfl (flt hc160).2.2.2 (by decide) (by decide) ?_
  show Steps p.tables e below (T0.setTop (mkF m 181 #[s0, s1, s2, s3, s4, s5, s6, s7, s8, s9, s10, s11, .val (.int i12), s13, s14, s15] [])) _
  refine XS.iload X0.here hx rfl (hb hby at_181) rfl ?_
  show Steps p.tables e below (T0.setTop (mkF m 183 #[s0, s1, s2, s3, s4, s5, s6, s7, s8, s9, s10, s11, .val (.int i12), s13, s14, s15] [(.int i12)])) _
  refine XS.iconst X0.here hx rfl (hb hby at_183) ?_
  show Steps p.tables e below (T0.setTop (mkF m 184 #[s0, s1, s2, s3, s4, s5, s6, s7, s8, s9, s10, s11, .val (.int i12), s13, s14, s15] [(.int (2 : Int32)), (.int i12)])) _
  refine XS.icmpYes X0.here hx rfl (pc0 := 184) (pc' := 217) rfl (hb hby at_184) rfl (flt hc184).2.2.2 (by decide) (by decide) ?_
  exact kt
set_option maxRecDepth 65536 in
set_option maxHeartbeats 40000000 in
theorem pdftt {p : Program} {l : Launch} {e : Env} {s : State} {m : MethodId} {args : Array Value} {below : List Frame} {meth : Method} {c : Code} {T0 : State} {locs : List Loc} {cells slots : Nat} {Z : State} {a0 : Array Value} {h0 : Heap} (s0 : Slot) (s1 : Slot) (s2 : Slot) (s3 : Slot) (s4 : Slot) (s5 : Slot) (s6 : Slot) (s7 : Slot) (s8 : Slot) (s9 : Slot) (s10 : Slot) (s11 : Slot) (i12 : Int32) (s13 : Slot) (s14 : Slot) (i15 : Int32)
    (X0 : Stand p l e room_1 s m args below meth c T0 locs cells slots) (hx : p.tables.exec = Jvm.exec) (hZ : Z.Warmed39 s.vm) (hw : ∀ d ∈ tables_1, d.before a0 Z = true) (hby : c.code = code) (hml : c.maxLocals = 16) (hown : s.vm.findClass "com/example/tideshift/tideshift/partition/AccessCountsKeysPinLaw" = some m.cls) (e0 : T0.heap = h0) (hc148 : (0 : Int32) < i12) (hc160 : ¬ ((1 : Int32) < i12)) (hc184 : ¬ ((2 : Int32) < i12)) :
    ∃ (T' : State), Stand p l e room_1 s m args below meth c T' locs cells slots ∧ T'.heap = h0 ∧
      ∀ target, Steps p.tables e below (T'.setTop (mkF m 217 #[s0, s1, s2, s3, s4, s5, s6, s7, s8, s9, s10, s11, .val (.int i12), s13, s14, .val (.int (i15 + (1 : Int32)))] [])) target → Steps p.tables e below (T0.setTop (mkF m 146 #[s0, s1, s2, s3, s4, s5, s6, s7, s8, s9, s10, s11, .val (.int i12), s13, s14, .val (.int i15)] [])) target := by
  -- 3. LAWS

  refine ⟨T0, X0, e0, fun target kt => ?_⟩
  -- 4. STEPS
  show Steps p.tables e below (T0.setTop (mkF m 146 #[s0, s1, s2, s3, s4, s5, s6, s7, s8, s9, s10, s11, .val (.int i12), s13, s14, .val (.int i15)] [])) _
  refine XS.iload X0.here hx rfl (hb hby at_146) rfl ?_
  show Steps p.tables e below (T0.setTop (mkF m 148 #[s0, s1, s2, s3, s4, s5, s6, s7, s8, s9, s10, s11, .val (.int i12), s13, s14, .val (.int i15)] [(.int i12)])) _
  refine XS.ifNo X0.here hx rfl (hb hby at_148) rfl ((if0 _ _).trans (tlt hc148).2.2.2) ?_
  show Steps p.tables e below (T0.setTop (mkF m 151 #[s0, s1, s2, s3, s4, s5, s6, s7, s8, s9, s10, s11, .val (.int i12), s13, s14, .val (.int i15)] [])) _
  refine XS.iload X0.here hx rfl (hb hby at_151) rfl ?_
  show Steps p.tables e below (T0.setTop (mkF m 153 #[s0, s1, s2, s3, s4, s5, s6, s7, s8, s9, s10, s11, .val (.int i12), s13, s14, .val (.int i15)] [(.int i15)])) _
  refine XS.iconst X0.here hx rfl (hb hby at_153) ?_
  show Steps p.tables e below (T0.setTop (mkF m 154 #[s0, s1, s2, s3, s4, s5, s6, s7, s8, s9, s10, s11, .val (.int i12), s13, s14, .val (.int i15)] [(.int (1 : Int32)), (.int i15)])) _
  refine XS.iadd X0.here hx rfl (hb hby at_154) rfl ?_
  show Steps p.tables e below (T0.setTop (mkF m 155 #[s0, s1, s2, s3, s4, s5, s6, s7, s8, s9, s10, s11, .val (.int i12), s13, s14, .val (.int i15)] [(.int (i15 + (1 : Int32)))])) _
  refine XS.istore X0.here hx rfl (hb hby at_155) rfl (l' := #[s0, s1, s2, s3, s4, s5, s6, s7, s8, s9, s10, s11, .val (.int i12), s13, s14, .val (.int (i15 + (1 : Int32)))]) rfl ?_
  show Steps p.tables e below (T0.setTop (mkF m 157 #[s0, s1, s2, s3, s4, s5, s6, s7, s8, s9, s10, s11, .val (.int i12), s13, s14, .val (.int (i15 + (1 : Int32)))] [])) _
  refine XS.iload X0.here hx rfl (hb hby at_157) rfl ?_
  show Steps p.tables e below (T0.setTop (mkF m 159 #[s0, s1, s2, s3, s4, s5, s6, s7, s8, s9, s10, s11, .val (.int i12), s13, s14, .val (.int (i15 + (1 : Int32)))] [(.int i12)])) _
  refine XS.iconst X0.here hx rfl (hb hby at_159) ?_
  show Steps p.tables e below (T0.setTop (mkF m 160 #[s0, s1, s2, s3, s4, s5, s6, s7, s8, s9, s10, s11, .val (.int i12), s13, s14, .val (.int (i15 + (1 : Int32)))] [(.int (1 : Int32)), (.int i12)])) _
  refine XS.icmpYes X0.here hx rfl (pc0 := 160) (pc' := 181) rfl (hb hby at_160) rfl (flt hc160).2.2.2 (by decide) (by decide) ?_
  show Steps p.tables e below (T0.setTop (mkF m 181 #[s0, s1, s2, s3, s4, s5, s6, s7, s8, s9, s10, s11, .val (.int i12), s13, s14, .val (.int (i15 + (1 : Int32)))] [])) _
  refine XS.iload X0.here hx rfl (hb hby at_181) rfl ?_
  show Steps p.tables e below (T0.setTop (mkF m 183 #[s0, s1, s2, s3, s4, s5, s6, s7, s8, s9, s10, s11, .val (.int i12), s13, s14, .val (.int (i15 + (1 : Int32)))] [(.int i12)])) _
  refine XS.iconst X0.here hx rfl (hb hby at_183) ?_
  show Steps p.tables e below (T0.setTop (mkF m 184 #[s0, s1, s2, s3, s4, s5, s6, s7, s8, s9, s10, s11, .val (.int i12), s13, s14, .val (.int (i15 + (1 : Int32)))] [(.int (2 : Int32)), (.int i12)])) _
  refine XS.icmpYes X0.here hx rfl (pc0 := 184) (pc' := 217) rfl (hb hby at_184) rfl (flt hc184).2.2.2 (by decide) (by decide) ?_
  exact kt
set_option maxRecDepth 65536 in
set_option maxHeartbeats 40000000 in
theorem pdfftt {p : Program} {l : Launch} {e : Env} {s : State} {m : MethodId} {args : Array Value} {below : List Frame} {meth : Method} {c : Code} {T0 : State} {locs : List Loc} {cells slots : Nat} {Z : State} {a0 : Array Value} {h0 : Heap} (s0 : Slot) (s1 : Slot) (s2 : Slot) (s3 : Slot) (s4 : Slot) (s5 : Slot) (s6 : Slot) (s7 : Slot) (s8 : Slot) (s9 : Slot) (s10 : Slot) (o11 : Addr) (i12 : Int32) (s13 : Slot) (s14 : Slot) (i15 : Int32) (w5 : Int64) (cl_o11 : Cell) (w6 : Int64)
    (X0 : Stand p l e room_1 s m args below meth c T0 locs cells slots) (hx : p.tables.exec = Jvm.exec) (hZ : Z.Warmed39 s.vm) (hw : ∀ d ∈ tables_1, d.before a0 Z = true) (hby : c.code = code) (hml : c.maxLocals = 16) (hown : s.vm.findClass "com/example/tideshift/tideshift/partition/AccessCountsKeysPinLaw" = some m.cls) (e0 : T0.heap = h0) (Ar_o11 : Arr Z h0 o11 cl_o11 .long) (hin166 : ¬ ((1 : Int32) < 0 ∨ cl_o11.slots.size ≤ ((1 : Int32)).toNatClampNeg)) (hat166 : cl_o11.slots[((1 : Int32)).toNatClampNeg]? = some (.long w5)) (hin170 : ¬ ((0 : Int32) < 0 ∨ cl_o11.slots.size ≤ ((0 : Int32)).toNatClampNeg)) (hat170 : cl_o11.slots[((0 : Int32)).toNatClampNeg]? = some (.long w6)) (hc148 : (0 : Int32) < i12) (hc160 : (1 : Int32) < i12) (hc172 : (lcmpW w5 w6) = (0 : Int32)) (hc184 : ¬ ((2 : Int32) < i12)) :
    ∃ (T' : State), Stand p l e room_1 s m args below meth c T' locs cells slots ∧ T'.heap = h0 ∧
      ∀ target, Steps p.tables e below (T'.setTop (mkF m 217 #[s0, s1, s2, s3, s4, s5, s6, s7, s8, s9, s10, .val (.ref o11), .val (.int i12), s13, s14, .val (.int (i15 + (1 : Int32)))] [])) target → Steps p.tables e below (T0.setTop (mkF m 146 #[s0, s1, s2, s3, s4, s5, s6, s7, s8, s9, s10, .val (.ref o11), .val (.int i12), s13, s14, .val (.int i15)] [])) target := by
  -- 3. LAWS

  refine ⟨T0, X0, e0, fun target kt => ?_⟩
  -- 4. STEPS
  show Steps p.tables e below (T0.setTop (mkF m 146 #[s0, s1, s2, s3, s4, s5, s6, s7, s8, s9, s10, .val (.ref o11), .val (.int i12), s13, s14, .val (.int i15)] [])) _
  refine XS.iload X0.here hx rfl (hb hby at_146) rfl ?_
  show Steps p.tables e below (T0.setTop (mkF m 148 #[s0, s1, s2, s3, s4, s5, s6, s7, s8, s9, s10, .val (.ref o11), .val (.int i12), s13, s14, .val (.int i15)] [(.int i12)])) _
  refine XS.ifNo X0.here hx rfl (hb hby at_148) rfl ((if0 _ _).trans (tlt hc148).2.2.2) ?_
  show Steps p.tables e below (T0.setTop (mkF m 151 #[s0, s1, s2, s3, s4, s5, s6, s7, s8, s9, s10, .val (.ref o11), .val (.int i12), s13, s14, .val (.int i15)] [])) _
  refine XS.iload X0.here hx rfl (hb hby at_151) rfl ?_
  show Steps p.tables e below (T0.setTop (mkF m 153 #[s0, s1, s2, s3, s4, s5, s6, s7, s8, s9, s10, .val (.ref o11), .val (.int i12), s13, s14, .val (.int i15)] [(.int i15)])) _
  refine XS.iconst X0.here hx rfl (hb hby at_153) ?_
  show Steps p.tables e below (T0.setTop (mkF m 154 #[s0, s1, s2, s3, s4, s5, s6, s7, s8, s9, s10, .val (.ref o11), .val (.int i12), s13, s14, .val (.int i15)] [(.int (1 : Int32)), (.int i15)])) _
  refine XS.iadd X0.here hx rfl (hb hby at_154) rfl ?_
  show Steps p.tables e below (T0.setTop (mkF m 155 #[s0, s1, s2, s3, s4, s5, s6, s7, s8, s9, s10, .val (.ref o11), .val (.int i12), s13, s14, .val (.int i15)] [(.int (i15 + (1 : Int32)))])) _
  refine XS.istore X0.here hx rfl (hb hby at_155) rfl (l' := #[s0, s1, s2, s3, s4, s5, s6, s7, s8, s9, s10, .val (.ref o11), .val (.int i12), s13, s14, .val (.int (i15 + (1 : Int32)))]) rfl ?_
  show Steps p.tables e below (T0.setTop (mkF m 157 #[s0, s1, s2, s3, s4, s5, s6, s7, s8, s9, s10, .val (.ref o11), .val (.int i12), s13, s14, .val (.int (i15 + (1 : Int32)))] [])) _
  refine XS.iload X0.here hx rfl (hb hby at_157) rfl ?_
  show Steps p.tables e below (T0.setTop (mkF m 159 #[s0, s1, s2, s3, s4, s5, s6, s7, s8, s9, s10, .val (.ref o11), .val (.int i12), s13, s14, .val (.int (i15 + (1 : Int32)))] [(.int i12)])) _
  refine XS.iconst X0.here hx rfl (hb hby at_159) ?_
  show Steps p.tables e below (T0.setTop (mkF m 160 #[s0, s1, s2, s3, s4, s5, s6, s7, s8, s9, s10, .val (.ref o11), .val (.int i12), s13, s14, .val (.int (i15 + (1 : Int32)))] [(.int (1 : Int32)), (.int i12)])) _
  refine XS.icmpNo X0.here hx rfl (hb hby at_160) rfl (tlt hc160).2.2.2 ?_
  show Steps p.tables e below (T0.setTop (mkF m 163 #[s0, s1, s2, s3, s4, s5, s6, s7, s8, s9, s10, .val (.ref o11), .val (.int i12), s13, s14, .val (.int (i15 + (1 : Int32)))] [])) _
  refine XS.aload X0.here hx rfl (hb hby at_163) rfl rfl ?_
  show Steps p.tables e below (T0.setTop (mkF m 165 #[s0, s1, s2, s3, s4, s5, s6, s7, s8, s9, s10, .val (.ref o11), .val (.int i12), s13, s14, .val (.int (i15 + (1 : Int32)))] [(.ref o11)])) _
  refine XS.iconst X0.here hx rfl (hb hby at_165) ?_
  show Steps p.tables e below (T0.setTop (mkF m 166 #[s0, s1, s2, s3, s4, s5, s6, s7, s8, s9, s10, .val (.ref o11), .val (.int i12), s13, s14, .val (.int (i15 + (1 : Int32)))] [(.int (1 : Int32)), (.ref o11)])) _
  refine X0.laload hx (j := (1 : Int32)) (v := (.long w5)) (by rw [e0]; exact Ar_o11.1) (State.isArrayOf_alike hZ.alike Ar_o11.2.1) Ar_o11.2.2 hin166 hat166 (g := (mkF m 166 #[s0, s1, s2, s3, s4, s5, s6, s7, s8, s9, s10, .val (.ref o11), .val (.int i12), s13, s14, .val (.int (i15 + (1 : Int32)))] [(.int (1 : Int32)), (.ref o11)])) rfl rfl (hb hby at_166) _ ?_
  show Steps p.tables e below (T0.setTop (mkF m 167 #[s0, s1, s2, s3, s4, s5, s6, s7, s8, s9, s10, .val (.ref o11), .val (.int i12), s13, s14, .val (.int (i15 + (1 : Int32)))] [(.long w5)])) _
  refine XS.aload X0.here hx rfl (hb hby at_167) rfl rfl ?_
  show Steps p.tables e below (T0.setTop (mkF m 169 #[s0, s1, s2, s3, s4, s5, s6, s7, s8, s9, s10, .val (.ref o11), .val (.int i12), s13, s14, .val (.int (i15 + (1 : Int32)))] [(.ref o11), (.long w5)])) _
  refine XS.iconst X0.here hx rfl (hb hby at_169) ?_
  show Steps p.tables e below (T0.setTop (mkF m 170 #[s0, s1, s2, s3, s4, s5, s6, s7, s8, s9, s10, .val (.ref o11), .val (.int i12), s13, s14, .val (.int (i15 + (1 : Int32)))] [(.int (0 : Int32)), (.ref o11), (.long w5)])) _
  refine X0.laload hx (j := (0 : Int32)) (v := (.long w6)) (by rw [e0]; exact Ar_o11.1) (State.isArrayOf_alike hZ.alike Ar_o11.2.1) Ar_o11.2.2 hin170 hat170 (g := (mkF m 170 #[s0, s1, s2, s3, s4, s5, s6, s7, s8, s9, s10, .val (.ref o11), .val (.int i12), s13, s14, .val (.int (i15 + (1 : Int32)))] [(.int (0 : Int32)), (.ref o11), (.long w5)])) rfl rfl (hb hby at_170) _ ?_
  show Steps p.tables e below (T0.setTop (mkF m 171 #[s0, s1, s2, s3, s4, s5, s6, s7, s8, s9, s10, .val (.ref o11), .val (.int i12), s13, s14, .val (.int (i15 + (1 : Int32)))] [(.long w6), (.long w5)])) _
  refine XS.lcmp X0.here hx rfl (hb hby at_171) rfl ?_
  show Steps p.tables e below (T0.setTop (mkF m 172 #[s0, s1, s2, s3, s4, s5, s6, s7, s8, s9, s10, .val (.ref o11), .val (.int i12), s13, s14, .val (.int (i15 + (1 : Int32)))] [(.int (lcmpW w5 w6))])) _
  refine XS.ifYes X0.here hx rfl (pc0 := 172) (pc' := 181) rfl (hb hby at_172) rfl ((if0 _ _).trans (teq hc172).1) (by decide) (by decide) ?_
  show Steps p.tables e below (T0.setTop (mkF m 181 #[s0, s1, s2, s3, s4, s5, s6, s7, s8, s9, s10, .val (.ref o11), .val (.int i12), s13, s14, .val (.int (i15 + (1 : Int32)))] [])) _
  refine XS.iload X0.here hx rfl (hb hby at_181) rfl ?_
  show Steps p.tables e below (T0.setTop (mkF m 183 #[s0, s1, s2, s3, s4, s5, s6, s7, s8, s9, s10, .val (.ref o11), .val (.int i12), s13, s14, .val (.int (i15 + (1 : Int32)))] [(.int i12)])) _
  refine XS.iconst X0.here hx rfl (hb hby at_183) ?_
  show Steps p.tables e below (T0.setTop (mkF m 184 #[s0, s1, s2, s3, s4, s5, s6, s7, s8, s9, s10, .val (.ref o11), .val (.int i12), s13, s14, .val (.int (i15 + (1 : Int32)))] [(.int (2 : Int32)), (.int i12)])) _
  refine XS.icmpYes X0.here hx rfl (pc0 := 184) (pc' := 217) rfl (hb hby at_184) rfl (flt hc184).2.2.2 (by decide) (by decide) ?_
  exact kt
set_option maxRecDepth 65536 in
set_option maxHeartbeats 40000000 in
theorem pdffft {p : Program} {l : Launch} {e : Env} {s : State} {m : MethodId} {args : Array Value} {below : List Frame} {meth : Method} {c : Code} {T0 : State} {locs : List Loc} {cells slots : Nat} {Z : State} {a0 : Array Value} {h0 : Heap} (s0 : Slot) (s1 : Slot) (s2 : Slot) (s3 : Slot) (s4 : Slot) (s5 : Slot) (s6 : Slot) (s7 : Slot) (s8 : Slot) (s9 : Slot) (s10 : Slot) (o11 : Addr) (i12 : Int32) (s13 : Slot) (s14 : Slot) (i15 : Int32) (w5 : Int64) (cl_o11 : Cell) (w6 : Int64)
    (X0 : Stand p l e room_1 s m args below meth c T0 locs cells slots) (hx : p.tables.exec = Jvm.exec) (hZ : Z.Warmed39 s.vm) (hw : ∀ d ∈ tables_1, d.before a0 Z = true) (hby : c.code = code) (hml : c.maxLocals = 16) (hown : s.vm.findClass "com/example/tideshift/tideshift/partition/AccessCountsKeysPinLaw" = some m.cls) (e0 : T0.heap = h0) (Ar_o11 : Arr Z h0 o11 cl_o11 .long) (hin166 : ¬ ((1 : Int32) < 0 ∨ cl_o11.slots.size ≤ ((1 : Int32)).toNatClampNeg)) (hat166 : cl_o11.slots[((1 : Int32)).toNatClampNeg]? = some (.long w5)) (hin170 : ¬ ((0 : Int32) < 0 ∨ cl_o11.slots.size ≤ ((0 : Int32)).toNatClampNeg)) (hat170 : cl_o11.slots[((0 : Int32)).toNatClampNeg]? = some (.long w6)) (hc148 : (0 : Int32) < i12) (hc160 : (1 : Int32) < i12) (hc172 : ¬ ((lcmpW w5 w6) = (0 : Int32))) (hc184 : ¬ ((2 : Int32) < i12)) :
    ∃ (T' : State), Stand p l e room_1 s m args below meth c T' locs cells slots ∧ T'.heap = h0 ∧
      ∀ target, Steps p.tables e below (T'.setTop (mkF m 217 #[s0, s1, s2, s3, s4, s5, s6, s7, s8, s9, s10, .val (.ref o11), .val (.int i12), s13, s14, .val (.int ((i15 + (1 : Int32)) + (1 : Int32)))] [])) target → Steps p.tables e below (T0.setTop (mkF m 146 #[s0, s1, s2, s3, s4, s5, s6, s7, s8, s9, s10, .val (.ref o11), .val (.int i12), s13, s14, .val (.int i15)] [])) target := by
  -- 3. LAWS

  refine ⟨T0, X0, e0, fun target kt => ?_⟩
  -- 4. STEPS
  show Steps p.tables e below (T0.setTop (mkF m 146 #[s0, s1, s2, s3, s4, s5, s6, s7, s8, s9, s10, .val (.ref o11), .val (.int i12), s13, s14, .val (.int i15)] [])) _
  refine XS.iload X0.here hx rfl (hb hby at_146) rfl ?_
  show Steps p.tables e below (T0.setTop (mkF m 148 #[s0, s1, s2, s3, s4, s5, s6, s7, s8, s9, s10, .val (.ref o11), .val (.int i12), s13, s14, .val (.int i15)] [(.int i12)])) _
  refine XS.ifNo X0.here hx rfl (hb hby at_148) rfl ((if0 _ _).trans (tlt hc148).2.2.2) ?_
  show Steps p.tables e below (T0.setTop (mkF m 151 #[s0, s1, s2, s3, s4, s5, s6, s7, s8, s9, s10, .val (.ref o11), .val (.int i12), s13, s14, .val (.int i15)] [])) _
  refine XS.iload X0.here hx rfl (hb hby at_151) rfl ?_
  show Steps p.tables e below (T0.setTop (mkF m 153 #[s0, s1, s2, s3, s4, s5, s6, s7, s8, s9, s10, .val (.ref o11), .val (.int i12), s13, s14, .val (.int i15)] [(.int i15)])) _
  refine XS.iconst X0.here hx rfl (hb hby at_153) ?_
  show Steps p.tables e below (T0.setTop (mkF m 154 #[s0, s1, s2, s3, s4, s5, s6, s7, s8, s9, s10, .val (.ref o11), .val (.int i12), s13, s14, .val (.int i15)] [(.int (1 : Int32)), (.int i15)])) _
  refine XS.iadd X0.here hx rfl (hb hby at_154) rfl ?_
  show Steps p.tables e below (T0.setTop (mkF m 155 #[s0, s1, s2, s3, s4, s5, s6, s7, s8, s9, s10, .val (.ref o11), .val (.int i12), s13, s14, .val (.int i15)] [(.int (i15 + (1 : Int32)))])) _
  refine XS.istore X0.here hx rfl (hb hby at_155) rfl (l' := #[s0, s1, s2, s3, s4, s5, s6, s7, s8, s9, s10, .val (.ref o11), .val (.int i12), s13, s14, .val (.int (i15 + (1 : Int32)))]) rfl ?_
  show Steps p.tables e below (T0.setTop (mkF m 157 #[s0, s1, s2, s3, s4, s5, s6, s7, s8, s9, s10, .val (.ref o11), .val (.int i12), s13, s14, .val (.int (i15 + (1 : Int32)))] [])) _
  refine XS.iload X0.here hx rfl (hb hby at_157) rfl ?_
  show Steps p.tables e below (T0.setTop (mkF m 159 #[s0, s1, s2, s3, s4, s5, s6, s7, s8, s9, s10, .val (.ref o11), .val (.int i12), s13, s14, .val (.int (i15 + (1 : Int32)))] [(.int i12)])) _
  refine XS.iconst X0.here hx rfl (hb hby at_159) ?_
  show Steps p.tables e below (T0.setTop (mkF m 160 #[s0, s1, s2, s3, s4, s5, s6, s7, s8, s9, s10, .val (.ref o11), .val (.int i12), s13, s14, .val (.int (i15 + (1 : Int32)))] [(.int (1 : Int32)), (.int i12)])) _
  refine XS.icmpNo X0.here hx rfl (hb hby at_160) rfl (tlt hc160).2.2.2 ?_
  show Steps p.tables e below (T0.setTop (mkF m 163 #[s0, s1, s2, s3, s4, s5, s6, s7, s8, s9, s10, .val (.ref o11), .val (.int i12), s13, s14, .val (.int (i15 + (1 : Int32)))] [])) _
  refine XS.aload X0.here hx rfl (hb hby at_163) rfl rfl ?_
  show Steps p.tables e below (T0.setTop (mkF m 165 #[s0, s1, s2, s3, s4, s5, s6, s7, s8, s9, s10, .val (.ref o11), .val (.int i12), s13, s14, .val (.int (i15 + (1 : Int32)))] [(.ref o11)])) _
  refine XS.iconst X0.here hx rfl (hb hby at_165) ?_
  show Steps p.tables e below (T0.setTop (mkF m 166 #[s0, s1, s2, s3, s4, s5, s6, s7, s8, s9, s10, .val (.ref o11), .val (.int i12), s13, s14, .val (.int (i15 + (1 : Int32)))] [(.int (1 : Int32)), (.ref o11)])) _
  refine X0.laload hx (j := (1 : Int32)) (v := (.long w5)) (by rw [e0]; exact Ar_o11.1) (State.isArrayOf_alike hZ.alike Ar_o11.2.1) Ar_o11.2.2 hin166 hat166 (g := (mkF m 166 #[s0, s1, s2, s3, s4, s5, s6, s7, s8, s9, s10, .val (.ref o11), .val (.int i12), s13, s14, .val (.int (i15 + (1 : Int32)))] [(.int (1 : Int32)), (.ref o11)])) rfl rfl (hb hby at_166) _ ?_
  show Steps p.tables e below (T0.setTop (mkF m 167 #[s0, s1, s2, s3, s4, s5, s6, s7, s8, s9, s10, .val (.ref o11), .val (.int i12), s13, s14, .val (.int (i15 + (1 : Int32)))] [(.long w5)])) _
  refine XS.aload X0.here hx rfl (hb hby at_167) rfl rfl ?_
  show Steps p.tables e below (T0.setTop (mkF m 169 #[s0, s1, s2, s3, s4, s5, s6, s7, s8, s9, s10, .val (.ref o11), .val (.int i12), s13, s14, .val (.int (i15 + (1 : Int32)))] [(.ref o11), (.long w5)])) _
  refine XS.iconst X0.here hx rfl (hb hby at_169) ?_
  show Steps p.tables e below (T0.setTop (mkF m 170 #[s0, s1, s2, s3, s4, s5, s6, s7, s8, s9, s10, .val (.ref o11), .val (.int i12), s13, s14, .val (.int (i15 + (1 : Int32)))] [(.int (0 : Int32)), (.ref o11), (.long w5)])) _
  refine X0.laload hx (j := (0 : Int32)) (v := (.long w6)) (by rw [e0]; exact Ar_o11.1) (State.isArrayOf_alike hZ.alike Ar_o11.2.1) Ar_o11.2.2 hin170 hat170 (g := (mkF m 170 #[s0, s1, s2, s3, s4, s5, s6, s7, s8, s9, s10, .val (.ref o11), .val (.int i12), s13, s14, .val (.int (i15 + (1 : Int32)))] [(.int (0 : Int32)), (.ref o11), (.long w5)])) rfl rfl (hb hby at_170) _ ?_
  show Steps p.tables e below (T0.setTop (mkF m 171 #[s0, s1, s2, s3, s4, s5, s6, s7, s8, s9, s10, .val (.ref o11), .val (.int i12), s13, s14, .val (.int (i15 + (1 : Int32)))] [(.long w6), (.long w5)])) _
  refine XS.lcmp X0.here hx rfl (hb hby at_171) rfl ?_
  show Steps p.tables e below (T0.setTop (mkF m 172 #[s0, s1, s2, s3, s4, s5, s6, s7, s8, s9, s10, .val (.ref o11), .val (.int i12), s13, s14, .val (.int (i15 + (1 : Int32)))] [(.int (lcmpW w5 w6))])) _
  refine XS.ifNo X0.here hx rfl (hb hby at_172) rfl ((if0 _ _).trans (feq hc172).1) ?_
  show Steps p.tables e below (T0.setTop (mkF m 175 #[s0, s1, s2, s3, s4, s5, s6, s7, s8, s9, s10, .val (.ref o11), .val (.int i12), s13, s14, .val (.int (i15 + (1 : Int32)))] [])) _
  refine XS.iload X0.here hx rfl (hb hby at_175) rfl ?_
  show Steps p.tables e below (T0.setTop (mkF m 177 #[s0, s1, s2, s3, s4, s5, s6, s7, s8, s9, s10, .val (.ref o11), .val (.int i12), s13, s14, .val (.int (i15 + (1 : Int32)))] [(.int (i15 + (1 : Int32)))])) _
  refine XS.iconst X0.here hx rfl (hb hby at_177) ?_
  show Steps p.tables e below (T0.setTop (mkF m 178 #[s0, s1, s2, s3, s4, s5, s6, s7, s8, s9, s10, .val (.ref o11), .val (.int i12), s13, s14, .val (.int (i15 + (1 : Int32)))] [(.int (1 : Int32)), (.int (i15 + (1 : Int32)))])) _
  refine XS.iadd X0.here hx rfl (hb hby at_178) rfl ?_
  show Steps p.tables e below (T0.setTop (mkF m 179 #[s0, s1, s2, s3, s4, s5, s6, s7, s8, s9, s10, .val (.ref o11), .val (.int i12), s13, s14, .val (.int (i15 + (1 : Int32)))] [(.int ((i15 + (1 : Int32)) + (1 : Int32)))])) _
  refine XS.istore X0.here hx rfl (hb hby at_179) rfl (l' := #[s0, s1, s2, s3, s4, s5, s6, s7, s8, s9, s10, .val (.ref o11), .val (.int i12), s13, s14, .val (.int ((i15 + (1 : Int32)) + (1 : Int32)))]) rfl ?_
  show Steps p.tables e below (T0.setTop (mkF m 181 #[s0, s1, s2, s3, s4, s5, s6, s7, s8, s9, s10, .val (.ref o11), .val (.int i12), s13, s14, .val (.int ((i15 + (1 : Int32)) + (1 : Int32)))] [])) _
  refine XS.iload X0.here hx rfl (hb hby at_181) rfl ?_
  show Steps p.tables e below (T0.setTop (mkF m 183 #[s0, s1, s2, s3, s4, s5, s6, s7, s8, s9, s10, .val (.ref o11), .val (.int i12), s13, s14, .val (.int ((i15 + (1 : Int32)) + (1 : Int32)))] [(.int i12)])) _
  refine XS.iconst X0.here hx rfl (hb hby at_183) ?_
  show Steps p.tables e below (T0.setTop (mkF m 184 #[s0, s1, s2, s3, s4, s5, s6, s7, s8, s9, s10, .val (.ref o11), .val (.int i12), s13, s14, .val (.int ((i15 + (1 : Int32)) + (1 : Int32)))] [(.int (2 : Int32)), (.int i12)])) _
  refine XS.icmpYes X0.here hx rfl (pc0 := 184) (pc' := 217) rfl (hb hby at_184) rfl (flt hc184).2.2.2 (by decide) (by decide) ?_
  exact kt
set_option maxRecDepth 65536 in
set_option maxHeartbeats 40000000 in
theorem pdfftft {p : Program} {l : Launch} {e : Env} {s : State} {m : MethodId} {args : Array Value} {below : List Frame} {meth : Method} {c : Code} {T0 : State} {locs : List Loc} {cells slots : Nat} {Z : State} {a0 : Array Value} {h0 : Heap} (s0 : Slot) (s1 : Slot) (s2 : Slot) (s3 : Slot) (s4 : Slot) (s5 : Slot) (s6 : Slot) (s7 : Slot) (s8 : Slot) (s9 : Slot) (s10 : Slot) (o11 : Addr) (i12 : Int32) (s13 : Slot) (s14 : Slot) (i15 : Int32) (w5 : Int64) (cl_o11 : Cell) (w6 : Int64) (w7 : Int64) (w8 : Int64)
    (X0 : Stand p l e room_1 s m args below meth c T0 locs cells slots) (hx : p.tables.exec = Jvm.exec) (hZ : Z.Warmed39 s.vm) (hw : ∀ d ∈ tables_1, d.before a0 Z = true) (hby : c.code = code) (hml : c.maxLocals = 16) (hown : s.vm.findClass "com/example/tideshift/tideshift/partition/AccessCountsKeysPinLaw" = some m.cls) (e0 : T0.heap = h0) (Ar_o11 : Arr Z h0 o11 cl_o11 .long) (hin166 : ¬ ((1 : Int32) < 0 ∨ cl_o11.slots.size ≤ ((1 : Int32)).toNatClampNeg)) (hat166 : cl_o11.slots[((1 : Int32)).toNatClampNeg]? = some (.long w5)) (hin170 : ¬ ((0 : Int32) < 0 ∨ cl_o11.slots.size ≤ ((0 : Int32)).toNatClampNeg)) (hat170 : cl_o11.slots[((0 : Int32)).toNatClampNeg]? = some (.long w6)) (hin190 : ¬ ((2 : Int32) < 0 ∨ cl_o11.slots.size ≤ ((2 : Int32)).toNatClampNeg)) (hat190 : cl_o11.slots[((2 : Int32)).toNatClampNeg]? = some (.long w7)) (hin194 : ¬ ((0 : Int32) < 0 ∨ cl_o11.slots.size ≤ ((0 : Int32)).toNatClampNeg)) (hat194 : cl_o11.slots[((0 : Int32)).toNatClampNeg]? = some (.long w8)) (hc148 : (0 : Int32) < i12) (hc160 : (1 : Int32) < i12) (hc172 : (lcmpW w5 w6) = (0 : Int32)) (hc184 : (2 : Int32) < i12) (hc196 : (lcmpW w7 w8) = (0 : Int32)) :
    ∃ (T' : State), Stand p l e room_1 s m args below meth c T' locs cells slots ∧ T'.heap = h0 ∧
      ∀ target, Steps p.tables e below (T'.setTop (mkF m 217 #[s0, s1, s2, s3, s4, s5, s6, s7, s8, s9, s10, .val (.ref o11), .val (.int i12), s13, s14, .val (.int (i15 + (1 : Int32)))] [])) target → Steps p.tables e below (T0.setTop (mkF m 146 #[s0, s1, s2, s3, s4, s5, s6, s7, s8, s9, s10, .val (.ref o11), .val (.int i12), s13, s14, .val (.int i15)] [])) target := by
  -- 3. LAWS

  refine ⟨T0, X0, e0, fun target kt => ?_⟩
  -- 4. STEPS
  show Steps p.tables e below (T0.setTop (mkF m 146 #[s0, s1, s2, s3, s4, s5, s6, s7, s8, s9, s10, .val (.ref o11), .val (.int i12), s13, s14, .val (.int i15)] [])) _
  refine XS.iload X0.here hx rfl (hb hby at_146) rfl ?_
  show Steps p.tables e below (T0.setTop (mkF m 148 #[s0, s1, s2, s3, s4, s5, s6, s7, s8, s9, s10, .val (.ref o11), .val (.int i12), s13, s14, .val (.int i15)] [(.int i12)])) _
  refine XS.ifNo X0.here hx rfl (hb hby at_148) rfl ((if0 _ _).trans (tlt hc148).2.2.2) ?_
  show Steps p.tables e below (T0.setTop (mkF m 151 #[s0, s1, s2, s3, s4, s5, s6, s7, s8, s9, s10, .val (.ref o11), .val (.int i12), s13, s14, .val (.int i15)] [])) _
  refine XS.iload X0.here hx rfl (hb hby at_151) rfl ?_
  show Steps p.tables e below (T0.setTop (mkF m 153 #[s0, s1, s2, s3, s4, s5, s6, s7, s8, s9, s10, .val (.ref o11), .val (.int i12), s13, s14, .val (.int i15)] [(.int i15)])) _
  refine XS.iconst X0.here hx rfl (hb hby at_153) ?_
  show Steps p.tables e below (T0.setTop (mkF m 154 #[s0, s1, s2, s3, s4, s5, s6, s7, s8, s9, s10, .val (.ref o11), .val (.int i12), s13, s14, .val (.int i15)] [(.int (1 : Int32)), (.int i15)])) _
  refine XS.iadd X0.here hx rfl (hb hby at_154) rfl ?_
  show Steps p.tables e below (T0.setTop (mkF m 155 #[s0, s1, s2, s3, s4, s5, s6, s7, s8, s9, s10, .val (.ref o11), .val (.int i12), s13, s14, .val (.int i15)] [(.int (i15 + (1 : Int32)))])) _
  refine XS.istore X0.here hx rfl (hb hby at_155) rfl (l' := #[s0, s1, s2, s3, s4, s5, s6, s7, s8, s9, s10, .val (.ref o11), .val (.int i12), s13, s14, .val (.int (i15 + (1 : Int32)))]) rfl ?_
  show Steps p.tables e below (T0.setTop (mkF m 157 #[s0, s1, s2, s3, s4, s5, s6, s7, s8, s9, s10, .val (.ref o11), .val (.int i12), s13, s14, .val (.int (i15 + (1 : Int32)))] [])) _
  refine XS.iload X0.here hx rfl (hb hby at_157) rfl ?_
  show Steps p.tables e below (T0.setTop (mkF m 159 #[s0, s1, s2, s3, s4, s5, s6, s7, s8, s9, s10, .val (.ref o11), .val (.int i12), s13, s14, .val (.int (i15 + (1 : Int32)))] [(.int i12)])) _
  refine XS.iconst X0.here hx rfl (hb hby at_159) ?_
  show Steps p.tables e below (T0.setTop (mkF m 160 #[s0, s1, s2, s3, s4, s5, s6, s7, s8, s9, s10, .val (.ref o11), .val (.int i12), s13, s14, .val (.int (i15 + (1 : Int32)))] [(.int (1 : Int32)), (.int i12)])) _
  refine XS.icmpNo X0.here hx rfl (hb hby at_160) rfl (tlt hc160).2.2.2 ?_
  show Steps p.tables e below (T0.setTop (mkF m 163 #[s0, s1, s2, s3, s4, s5, s6, s7, s8, s9, s10, .val (.ref o11), .val (.int i12), s13, s14, .val (.int (i15 + (1 : Int32)))] [])) _
  refine XS.aload X0.here hx rfl (hb hby at_163) rfl rfl ?_
  show Steps p.tables e below (T0.setTop (mkF m 165 #[s0, s1, s2, s3, s4, s5, s6, s7, s8, s9, s10, .val (.ref o11), .val (.int i12), s13, s14, .val (.int (i15 + (1 : Int32)))] [(.ref o11)])) _
  refine XS.iconst X0.here hx rfl (hb hby at_165) ?_
  show Steps p.tables e below (T0.setTop (mkF m 166 #[s0, s1, s2, s3, s4, s5, s6, s7, s8, s9, s10, .val (.ref o11), .val (.int i12), s13, s14, .val (.int (i15 + (1 : Int32)))] [(.int (1 : Int32)), (.ref o11)])) _
  refine X0.laload hx (j := (1 : Int32)) (v := (.long w5)) (by rw [e0]; exact Ar_o11.1) (State.isArrayOf_alike hZ.alike Ar_o11.2.1) Ar_o11.2.2 hin166 hat166 (g := (mkF m 166 #[s0, s1, s2, s3, s4, s5, s6, s7, s8, s9, s10, .val (.ref o11), .val (.int i12), s13, s14, .val (.int (i15 + (1 : Int32)))] [(.int (1 : Int32)), (.ref o11)])) rfl rfl (hb hby at_166) _ ?_
  show Steps p.tables e below (T0.setTop (mkF m 167 #[s0, s1, s2, s3, s4, s5, s6, s7, s8, s9, s10, .val (.ref o11), .val (.int i12), s13, s14, .val (.int (i15 + (1 : Int32)))] [(.long w5)])) _
  refine XS.aload X0.here hx rfl (hb hby at_167) rfl rfl ?_
  show Steps p.tables e below (T0.setTop (mkF m 169 #[s0, s1, s2, s3, s4, s5, s6, s7, s8, s9, s10, .val (.ref o11), .val (.int i12), s13, s14, .val (.int (i15 + (1 : Int32)))] [(.ref o11), (.long w5)])) _
  refine XS.iconst X0.here hx rfl (hb hby at_169) ?_
  show Steps p.tables e below (T0.setTop (mkF m 170 #[s0, s1, s2, s3, s4, s5, s6, s7, s8, s9, s10, .val (.ref o11), .val (.int i12), s13, s14, .val (.int (i15 + (1 : Int32)))] [(.int (0 : Int32)), (.ref o11), (.long w5)])) _
  refine X0.laload hx (j := (0 : Int32)) (v := (.long w6)) (by rw [e0]; exact Ar_o11.1) (State.isArrayOf_alike hZ.alike Ar_o11.2.1) Ar_o11.2.2 hin170 hat170 (g := (mkF m 170 #[s0, s1, s2, s3, s4, s5, s6, s7, s8, s9, s10, .val (.ref o11), .val (.int i12), s13, s14, .val (.int (i15 + (1 : Int32)))] [(.int (0 : Int32)), (.ref o11), (.long w5)])) rfl rfl (hb hby at_170) _ ?_
  show Steps p.tables e below (T0.setTop (mkF m 171 #[s0, s1, s2, s3, s4, s5, s6, s7, s8, s9, s10, .val (.ref o11), .val (.int i12), s13, s14, .val (.int (i15 + (1 : Int32)))] [(.long w6), (.long w5)])) _
  refine XS.lcmp X0.here hx rfl (hb hby at_171) rfl ?_
  show Steps p.tables e below (T0.setTop (mkF m 172 #[s0, s1, s2, s3, s4, s5, s6, s7, s8, s9, s10, .val (.ref o11), .val (.int i12), s13, s14, .val (.int (i15 + (1 : Int32)))] [(.int (lcmpW w5 w6))])) _
  refine XS.ifYes X0.here hx rfl (pc0 := 172) (pc' := 181) rfl (hb hby at_172) rfl ((if0 _ _).trans (teq hc172).1) (by decide) (by decide) ?_
  show Steps p.tables e below (T0.setTop (mkF m 181 #[s0, s1, s2, s3, s4, s5, s6, s7, s8, s9, s10, .val (.ref o11), .val (.int i12), s13, s14, .val (.int (i15 + (1 : Int32)))] [])) _
  refine XS.iload X0.here hx rfl (hb hby at_181) rfl ?_
  show Steps p.tables e below (T0.setTop (mkF m 183 #[s0, s1, s2, s3, s4, s5, s6, s7, s8, s9, s10, .val (.ref o11), .val (.int i12), s13, s14, .val (.int (i15 + (1 : Int32)))] [(.int i12)])) _
  refine XS.iconst X0.here hx rfl (hb hby at_183) ?_
  show Steps p.tables e below (T0.setTop (mkF m 184 #[s0, s1, s2, s3, s4, s5, s6, s7, s8, s9, s10, .val (.ref o11), .val (.int i12), s13, s14, .val (.int (i15 + (1 : Int32)))] [(.int (2 : Int32)), (.int i12)])) _
  refine XS.icmpNo X0.here hx rfl (hb hby at_184) rfl (tlt hc184).2.2.2 ?_
  show Steps p.tables e below (T0.setTop (mkF m 187 #[s0, s1, s2, s3, s4, s5, s6, s7, s8, s9, s10, .val (.ref o11), .val (.int i12), s13, s14, .val (.int (i15 + (1 : Int32)))] [])) _
  refine XS.aload X0.here hx rfl (hb hby at_187) rfl rfl ?_
  show Steps p.tables e below (T0.setTop (mkF m 189 #[s0, s1, s2, s3, s4, s5, s6, s7, s8, s9, s10, .val (.ref o11), .val (.int i12), s13, s14, .val (.int (i15 + (1 : Int32)))] [(.ref o11)])) _
  refine XS.iconst X0.here hx rfl (hb hby at_189) ?_
  show Steps p.tables e below (T0.setTop (mkF m 190 #[s0, s1, s2, s3, s4, s5, s6, s7, s8, s9, s10, .val (.ref o11), .val (.int i12), s13, s14, .val (.int (i15 + (1 : Int32)))] [(.int (2 : Int32)), (.ref o11)])) _
  refine X0.laload hx (j := (2 : Int32)) (v := (.long w7)) (by rw [e0]; exact Ar_o11.1) (State.isArrayOf_alike hZ.alike Ar_o11.2.1) Ar_o11.2.2 hin190 hat190 (g := (mkF m 190 #[s0, s1, s2, s3, s4, s5, s6, s7, s8, s9, s10, .val (.ref o11), .val (.int i12), s13, s14, .val (.int (i15 + (1 : Int32)))] [(.int (2 : Int32)), (.ref o11)])) rfl rfl (hb hby at_190) _ ?_
  show Steps p.tables e below (T0.setTop (mkF m 191 #[s0, s1, s2, s3, s4, s5, s6, s7, s8, s9, s10, .val (.ref o11), .val (.int i12), s13, s14, .val (.int (i15 + (1 : Int32)))] [(.long w7)])) _
  refine XS.aload X0.here hx rfl (hb hby at_191) rfl rfl ?_
  show Steps p.tables e below (T0.setTop (mkF m 193 #[s0, s1, s2, s3, s4, s5, s6, s7, s8, s9, s10, .val (.ref o11), .val (.int i12), s13, s14, .val (.int (i15 + (1 : Int32)))] [(.ref o11), (.long w7)])) _
  refine XS.iconst X0.here hx rfl (hb hby at_193) ?_
  show Steps p.tables e below (T0.setTop (mkF m 194 #[s0, s1, s2, s3, s4, s5, s6, s7, s8, s9, s10, .val (.ref o11), .val (.int i12), s13, s14, .val (.int (i15 + (1 : Int32)))] [(.int (0 : Int32)), (.ref o11), (.long w7)])) _
  refine X0.laload hx (j := (0 : Int32)) (v := (.long w8)) (by rw [e0]; exact Ar_o11.1) (State.isArrayOf_alike hZ.alike Ar_o11.2.1) Ar_o11.2.2 hin194 hat194 (g := (mkF m 194 #[s0, s1, s2, s3, s4, s5, s6, s7, s8, s9, s10, .val (.ref o11), .val (.int i12), s13, s14, .val (.int (i15 + (1 : Int32)))] [(.int (0 : Int32)), (.ref o11), (.long w7)])) rfl rfl (hb hby at_194) _ ?_
  show Steps p.tables e below (T0.setTop (mkF m 195 #[s0, s1, s2, s3, s4, s5, s6, s7, s8, s9, s10, .val (.ref o11), .val (.int i12), s13, s14, .val (.int (i15 + (1 : Int32)))] [(.long w8), (.long w7)])) _
  refine XS.lcmp X0.here hx rfl (hb hby at_195) rfl ?_
  show Steps p.tables e below (T0.setTop (mkF m 196 #[s0, s1, s2, s3, s4, s5, s6, s7, s8, s9, s10, .val (.ref o11), .val (.int i12), s13, s14, .val (.int (i15 + (1 : Int32)))] [(.int (lcmpW w7 w8))])) _
  refine XS.ifYes X0.here hx rfl (pc0 := 196) (pc' := 217) rfl (hb hby at_196) rfl ((if0 _ _).trans (teq hc196).1) (by decide) (by decide) ?_
  exact kt
set_option maxRecDepth 65536 in
set_option maxHeartbeats 40000000 in
theorem pdfftfff {p : Program} {l : Launch} {e : Env} {s : State} {m : MethodId} {args : Array Value} {below : List Frame} {meth : Method} {c : Code} {T0 : State} {locs : List Loc} {cells slots : Nat} {Z : State} {a0 : Array Value} {h0 : Heap} (s0 : Slot) (s1 : Slot) (s2 : Slot) (s3 : Slot) (s4 : Slot) (s5 : Slot) (s6 : Slot) (s7 : Slot) (s8 : Slot) (s9 : Slot) (s10 : Slot) (o11 : Addr) (i12 : Int32) (s13 : Slot) (s14 : Slot) (i15 : Int32) (w5 : Int64) (cl_o11 : Cell) (w6 : Int64) (w7 : Int64) (w8 : Int64) (w9 : Int64) (w10 : Int64)
    (X0 : Stand p l e room_1 s m args below meth c T0 locs cells slots) (hx : p.tables.exec = Jvm.exec) (hZ : Z.Warmed39 s.vm) (hw : ∀ d ∈ tables_1, d.before a0 Z = true) (hby : c.code = code) (hml : c.maxLocals = 16) (hown : s.vm.findClass "com/example/tideshift/tideshift/partition/AccessCountsKeysPinLaw" = some m.cls) (e0 : T0.heap = h0) (Ar_o11 : Arr Z h0 o11 cl_o11 .long) (hin166 : ¬ ((1 : Int32) < 0 ∨ cl_o11.slots.size ≤ ((1 : Int32)).toNatClampNeg)) (hat166 : cl_o11.slots[((1 : Int32)).toNatClampNeg]? = some (.long w5)) (hin170 : ¬ ((0 : Int32) < 0 ∨ cl_o11.slots.size ≤ ((0 : Int32)).toNatClampNeg)) (hat170 : cl_o11.slots[((0 : Int32)).toNatClampNeg]? = some (.long w6)) (hin190 : ¬ ((2 : Int32) < 0 ∨ cl_o11.slots.size ≤ ((2 : Int32)).toNatClampNeg)) (hat190 : cl_o11.slots[((2 : Int32)).toNatClampNeg]? = some (.long w7)) (hin194 : ¬ ((0 : Int32) < 0 ∨ cl_o11.slots.size ≤ ((0 : Int32)).toNatClampNeg)) (hat194 : cl_o11.slots[((0 : Int32)).toNatClampNeg]? = some (.long w8)) (hin202 : ¬ ((2 : Int32) < 0 ∨ cl_o11.slots.size ≤ ((2 : Int32)).toNatClampNeg)) (hat202 : cl_o11.slots[((2 : Int32)).toNatClampNeg]? = some (.long w9)) (hin206 : ¬ ((1 : Int32) < 0 ∨ cl_o11.slots.size ≤ ((1 : Int32)).toNatClampNeg)) (hat206 : cl_o11.slots[((1 : Int32)).toNatClampNeg]? = some (.long w10)) (hc148 : (0 : Int32) < i12) (hc160 : (1 : Int32) < i12) (hc172 : (lcmpW w5 w6) = (0 : Int32)) (hc184 : (2 : Int32) < i12) (hc196 : ¬ ((lcmpW w7 w8) = (0 : Int32))) (hc208 : ¬ ((lcmpW w9 w10) = (0 : Int32))) :
    ∃ (T' : State), Stand p l e room_1 s m args below meth c T' locs cells slots ∧ T'.heap = h0 ∧
      ∀ target, Steps p.tables e below (T'.setTop (mkF m 217 #[s0, s1, s2, s3, s4, s5, s6, s7, s8, s9, s10, .val (.ref o11), .val (.int i12), s13, s14, .val (.int ((i15 + (1 : Int32)) + (1 : Int32)))] [])) target → Steps p.tables e below (T0.setTop (mkF m 146 #[s0, s1, s2, s3, s4, s5, s6, s7, s8, s9, s10, .val (.ref o11), .val (.int i12), s13, s14, .val (.int i15)] [])) target := by
  -- 3. LAWS

  refine ⟨T0, X0, e0, fun target kt => ?_⟩
  -- 4. STEPS
  show Steps p.tables e below (T0.setTop (mkF m 146 #[s0, s1, s2, s3, s4, s5, s6, s7, s8, s9, s10, .val (.ref o11), .val (.int i12), s13, s14, .val (.int i15)] [])) _
  refine XS.iload X0.here hx rfl (hb hby at_146) rfl ?_
  show Steps p.tables e below (T0.setTop (mkF m 148 #[s0, s1, s2, s3, s4, s5, s6, s7, s8, s9, s10, .val (.ref o11), .val (.int i12), s13, s14, .val (.int i15)] [(.int i12)])) _
  refine XS.ifNo X0.here hx rfl (hb hby at_148) rfl ((if0 _ _).trans (tlt hc148).2.2.2) ?_
  show Steps p.tables e below (T0.setTop (mkF m 151 #[s0, s1, s2, s3, s4, s5, s6, s7, s8, s9, s10, .val (.ref o11), .val (.int i12), s13, s14, .val (.int i15)] [])) _
  refine XS.iload X0.here hx rfl (hb hby at_151) rfl ?_
  show Steps p.tables e below (T0.setTop (mkF m 153 #[s0, s1, s2, s3, s4, s5, s6, s7, s8, s9, s10, .val (.ref o11), .val (.int i12), s13, s14, .val (.int i15)] [(.int i15)])) _
  refine XS.iconst X0.here hx rfl (hb hby at_153) ?_
  show Steps p.tables e below (T0.setTop (mkF m 154 #[s0, s1, s2, s3, s4, s5, s6, s7, s8, s9, s10, .val (.ref o11), .val (.int i12), s13, s14, .val (.int i15)] [(.int (1 : Int32)), (.int i15)])) _
  refine XS.iadd X0.here hx rfl (hb hby at_154) rfl ?_
  show Steps p.tables e below (T0.setTop (mkF m 155 #[s0, s1, s2, s3, s4, s5, s6, s7, s8, s9, s10, .val (.ref o11), .val (.int i12), s13, s14, .val (.int i15)] [(.int (i15 + (1 : Int32)))])) _
  refine XS.istore X0.here hx rfl (hb hby at_155) rfl (l' := #[s0, s1, s2, s3, s4, s5, s6, s7, s8, s9, s10, .val (.ref o11), .val (.int i12), s13, s14, .val (.int (i15 + (1 : Int32)))]) rfl ?_
  show Steps p.tables e below (T0.setTop (mkF m 157 #[s0, s1, s2, s3, s4, s5, s6, s7, s8, s9, s10, .val (.ref o11), .val (.int i12), s13, s14, .val (.int (i15 + (1 : Int32)))] [])) _
  refine XS.iload X0.here hx rfl (hb hby at_157) rfl ?_
  show Steps p.tables e below (T0.setTop (mkF m 159 #[s0, s1, s2, s3, s4, s5, s6, s7, s8, s9, s10, .val (.ref o11), .val (.int i12), s13, s14, .val (.int (i15 + (1 : Int32)))] [(.int i12)])) _
  refine XS.iconst X0.here hx rfl (hb hby at_159) ?_
  show Steps p.tables e below (T0.setTop (mkF m 160 #[s0, s1, s2, s3, s4, s5, s6, s7, s8, s9, s10, .val (.ref o11), .val (.int i12), s13, s14, .val (.int (i15 + (1 : Int32)))] [(.int (1 : Int32)), (.int i12)])) _
  refine XS.icmpNo X0.here hx rfl (hb hby at_160) rfl (tlt hc160).2.2.2 ?_
  show Steps p.tables e below (T0.setTop (mkF m 163 #[s0, s1, s2, s3, s4, s5, s6, s7, s8, s9, s10, .val (.ref o11), .val (.int i12), s13, s14, .val (.int (i15 + (1 : Int32)))] [])) _
  refine XS.aload X0.here hx rfl (hb hby at_163) rfl rfl ?_
  show Steps p.tables e below (T0.setTop (mkF m 165 #[s0, s1, s2, s3, s4, s5, s6, s7, s8, s9, s10, .val (.ref o11), .val (.int i12), s13, s14, .val (.int (i15 + (1 : Int32)))] [(.ref o11)])) _
  refine XS.iconst X0.here hx rfl (hb hby at_165) ?_
  show Steps p.tables e below (T0.setTop (mkF m 166 #[s0, s1, s2, s3, s4, s5, s6, s7, s8, s9, s10, .val (.ref o11), .val (.int i12), s13, s14, .val (.int (i15 + (1 : Int32)))] [(.int (1 : Int32)), (.ref o11)])) _
  refine X0.laload hx (j := (1 : Int32)) (v := (.long w5)) (by rw [e0]; exact Ar_o11.1) (State.isArrayOf_alike hZ.alike Ar_o11.2.1) Ar_o11.2.2 hin166 hat166 (g := (mkF m 166 #[s0, s1, s2, s3, s4, s5, s6, s7, s8, s9, s10, .val (.ref o11), .val (.int i12), s13, s14, .val (.int (i15 + (1 : Int32)))] [(.int (1 : Int32)), (.ref o11)])) rfl rfl (hb hby at_166) _ ?_
  show Steps p.tables e below (T0.setTop (mkF m 167 #[s0, s1, s2, s3, s4, s5, s6, s7, s8, s9, s10, .val (.ref o11), .val (.int i12), s13, s14, .val (.int (i15 + (1 : Int32)))] [(.long w5)])) _
  refine XS.aload X0.here hx rfl (hb hby at_167) rfl rfl ?_
  show Steps p.tables e below (T0.setTop (mkF m 169 #[s0, s1, s2, s3, s4, s5, s6, s7, s8, s9, s10, .val (.ref o11), .val (.int i12), s13, s14, .val (.int (i15 + (1 : Int32)))] [(.ref o11), (.long w5)])) _
  refine XS.iconst X0.here hx rfl (hb hby at_169) ?_
  show Steps p.tables e below (T0.setTop (mkF m 170 #[s0, s1, s2, s3, s4, s5, s6, s7, s8, s9, s10, .val (.ref o11), .val (.int i12), s13, s14, .val (.int (i15 + (1 : Int32)))] [(.int (0 : Int32)), (.ref o11), (.long w5)])) _
  refine X0.laload hx (j := (0 : Int32)) (v := (.long w6)) (by rw [e0]; exact Ar_o11.1) (State.isArrayOf_alike hZ.alike Ar_o11.2.1) Ar_o11.2.2 hin170 hat170 (g := (mkF m 170 #[s0, s1, s2, s3, s4, s5, s6, s7, s8, s9, s10, .val (.ref o11), .val (.int i12), s13, s14, .val (.int (i15 + (1 : Int32)))] [(.int (0 : Int32)), (.ref o11), (.long w5)])) rfl rfl (hb hby at_170) _ ?_
  show Steps p.tables e below (T0.setTop (mkF m 171 #[s0, s1, s2, s3, s4, s5, s6, s7, s8, s9, s10, .val (.ref o11), .val (.int i12), s13, s14, .val (.int (i15 + (1 : Int32)))] [(.long w6), (.long w5)])) _
  refine XS.lcmp X0.here hx rfl (hb hby at_171) rfl ?_
  show Steps p.tables e below (T0.setTop (mkF m 172 #[s0, s1, s2, s3, s4, s5, s6, s7, s8, s9, s10, .val (.ref o11), .val (.int i12), s13, s14, .val (.int (i15 + (1 : Int32)))] [(.int (lcmpW w5 w6))])) _
  refine XS.ifYes X0.here hx rfl (pc0 := 172) (pc' := 181) rfl (hb hby at_172) rfl ((if0 _ _).trans (teq hc172).1) (by decide) (by decide) ?_
  show Steps p.tables e below (T0.setTop (mkF m 181 #[s0, s1, s2, s3, s4, s5, s6, s7, s8, s9, s10, .val (.ref o11), .val (.int i12), s13, s14, .val (.int (i15 + (1 : Int32)))] [])) _
  refine XS.iload X0.here hx rfl (hb hby at_181) rfl ?_
  show Steps p.tables e below (T0.setTop (mkF m 183 #[s0, s1, s2, s3, s4, s5, s6, s7, s8, s9, s10, .val (.ref o11), .val (.int i12), s13, s14, .val (.int (i15 + (1 : Int32)))] [(.int i12)])) _
  refine XS.iconst X0.here hx rfl (hb hby at_183) ?_
  show Steps p.tables e below (T0.setTop (mkF m 184 #[s0, s1, s2, s3, s4, s5, s6, s7, s8, s9, s10, .val (.ref o11), .val (.int i12), s13, s14, .val (.int (i15 + (1 : Int32)))] [(.int (2 : Int32)), (.int i12)])) _
  refine XS.icmpNo X0.here hx rfl (hb hby at_184) rfl (tlt hc184).2.2.2 ?_
  show Steps p.tables e below (T0.setTop (mkF m 187 #[s0, s1, s2, s3, s4, s5, s6, s7, s8, s9, s10, .val (.ref o11), .val (.int i12), s13, s14, .val (.int (i15 + (1 : Int32)))] [])) _
  refine XS.aload X0.here hx rfl (hb hby at_187) rfl rfl ?_
  show Steps p.tables e below (T0.setTop (mkF m 189 #[s0, s1, s2, s3, s4, s5, s6, s7, s8, s9, s10, .val (.ref o11), .val (.int i12), s13, s14, .val (.int (i15 + (1 : Int32)))] [(.ref o11)])) _
  refine XS.iconst X0.here hx rfl (hb hby at_189) ?_
  show Steps p.tables e below (T0.setTop (mkF m 190 #[s0, s1, s2, s3, s4, s5, s6, s7, s8, s9, s10, .val (.ref o11), .val (.int i12), s13, s14, .val (.int (i15 + (1 : Int32)))] [(.int (2 : Int32)), (.ref o11)])) _
  refine X0.laload hx (j := (2 : Int32)) (v := (.long w7)) (by rw [e0]; exact Ar_o11.1) (State.isArrayOf_alike hZ.alike Ar_o11.2.1) Ar_o11.2.2 hin190 hat190 (g := (mkF m 190 #[s0, s1, s2, s3, s4, s5, s6, s7, s8, s9, s10, .val (.ref o11), .val (.int i12), s13, s14, .val (.int (i15 + (1 : Int32)))] [(.int (2 : Int32)), (.ref o11)])) rfl rfl (hb hby at_190) _ ?_
  show Steps p.tables e below (T0.setTop (mkF m 191 #[s0, s1, s2, s3, s4, s5, s6, s7, s8, s9, s10, .val (.ref o11), .val (.int i12), s13, s14, .val (.int (i15 + (1 : Int32)))] [(.long w7)])) _
  refine XS.aload X0.here hx rfl (hb hby at_191) rfl rfl ?_
  show Steps p.tables e below (T0.setTop (mkF m 193 #[s0, s1, s2, s3, s4, s5, s6, s7, s8, s9, s10, .val (.ref o11), .val (.int i12), s13, s14, .val (.int (i15 + (1 : Int32)))] [(.ref o11), (.long w7)])) _
  refine XS.iconst X0.here hx rfl (hb hby at_193) ?_
  show Steps p.tables e below (T0.setTop (mkF m 194 #[s0, s1, s2, s3, s4, s5, s6, s7, s8, s9, s10, .val (.ref o11), .val (.int i12), s13, s14, .val (.int (i15 + (1 : Int32)))] [(.int (0 : Int32)), (.ref o11), (.long w7)])) _
  refine X0.laload hx (j := (0 : Int32)) (v := (.long w8)) (by rw [e0]; exact Ar_o11.1) (State.isArrayOf_alike hZ.alike Ar_o11.2.1) Ar_o11.2.2 hin194 hat194 (g := (mkF m 194 #[s0, s1, s2, s3, s4, s5, s6, s7, s8, s9, s10, .val (.ref o11), .val (.int i12), s13, s14, .val (.int (i15 + (1 : Int32)))] [(.int (0 : Int32)), (.ref o11), (.long w7)])) rfl rfl (hb hby at_194) _ ?_
  show Steps p.tables e below (T0.setTop (mkF m 195 #[s0, s1, s2, s3, s4, s5, s6, s7, s8, s9, s10, .val (.ref o11), .val (.int i12), s13, s14, .val (.int (i15 + (1 : Int32)))] [(.long w8), (.long w7)])) _
  refine XS.lcmp X0.here hx rfl (hb hby at_195) rfl ?_
  show Steps p.tables e below (T0.setTop (mkF m 196 #[s0, s1, s2, s3, s4, s5, s6, s7, s8, s9, s10, .val (.ref o11), .val (.int i12), s13, s14, .val (.int (i15 + (1 : Int32)))] [(.int (lcmpW w7 w8))])) _
  refine XS.ifNo X0.here hx rfl (hb hby at_196) rfl ((if0 _ _).trans (feq hc196).1) ?_
  show Steps p.tables e below (T0.setTop (mkF m 199 #[s0, s1, s2, s3, s4, s5, s6, s7, s8, s9, s10, .val (.ref o11), .val (.int i12), s13, s14, .val (.int (i15 + (1 : Int32)))] [])) _
  refine XS.aload X0.here hx rfl (hb hby at_199) rfl rfl ?_
  show Steps p.tables e below (T0.setTop (mkF m 201 #[s0, s1, s2, s3, s4, s5, s6, s7, s8, s9, s10, .val (.ref o11), .val (.int i12), s13, s14, .val (.int (i15 + (1 : Int32)))] [(.ref o11)])) _
  refine XS.iconst X0.here hx rfl (hb hby at_201) ?_
  show Steps p.tables e below (T0.setTop (mkF m 202 #[s0, s1, s2, s3, s4, s5, s6, s7, s8, s9, s10, .val (.ref o11), .val (.int i12), s13, s14, .val (.int (i15 + (1 : Int32)))] [(.int (2 : Int32)), (.ref o11)])) _
  refine X0.laload hx (j := (2 : Int32)) (v := (.long w9)) (by rw [e0]; exact Ar_o11.1) (State.isArrayOf_alike hZ.alike Ar_o11.2.1) Ar_o11.2.2 hin202 hat202 (g := (mkF m 202 #[s0, s1, s2, s3, s4, s5, s6, s7, s8, s9, s10, .val (.ref o11), .val (.int i12), s13, s14, .val (.int (i15 + (1 : Int32)))] [(.int (2 : Int32)), (.ref o11)])) rfl rfl (hb hby at_202) _ ?_
  show Steps p.tables e below (T0.setTop (mkF m 203 #[s0, s1, s2, s3, s4, s5, s6, s7, s8, s9, s10, .val (.ref o11), .val (.int i12), s13, s14, .val (.int (i15 + (1 : Int32)))] [(.long w9)])) _
  refine XS.aload X0.here hx rfl (hb hby at_203) rfl rfl ?_
  show Steps p.tables e below (T0.setTop (mkF m 205 #[s0, s1, s2, s3, s4, s5, s6, s7, s8, s9, s10, .val (.ref o11), .val (.int i12), s13, s14, .val (.int (i15 + (1 : Int32)))] [(.ref o11), (.long w9)])) _
  refine XS.iconst X0.here hx rfl (hb hby at_205) ?_
  show Steps p.tables e below (T0.setTop (mkF m 206 #[s0, s1, s2, s3, s4, s5, s6, s7, s8, s9, s10, .val (.ref o11), .val (.int i12), s13, s14, .val (.int (i15 + (1 : Int32)))] [(.int (1 : Int32)), (.ref o11), (.long w9)])) _
  refine X0.laload hx (j := (1 : Int32)) (v := (.long w10)) (by rw [e0]; exact Ar_o11.1) (State.isArrayOf_alike hZ.alike Ar_o11.2.1) Ar_o11.2.2 hin206 hat206 (g := (mkF m 206 #[s0, s1, s2, s3, s4, s5, s6, s7, s8, s9, s10, .val (.ref o11), .val (.int i12), s13, s14, .val (.int (i15 + (1 : Int32)))] [(.int (1 : Int32)), (.ref o11), (.long w9)])) rfl rfl (hb hby at_206) _ ?_
  show Steps p.tables e below (T0.setTop (mkF m 207 #[s0, s1, s2, s3, s4, s5, s6, s7, s8, s9, s10, .val (.ref o11), .val (.int i12), s13, s14, .val (.int (i15 + (1 : Int32)))] [(.long w10), (.long w9)])) _
  refine XS.lcmp X0.here hx rfl (hb hby at_207) rfl ?_
  show Steps p.tables e below (T0.setTop (mkF m 208 #[s0, s1, s2, s3, s4, s5, s6, s7, s8, s9, s10, .val (.ref o11), .val (.int i12), s13, s14, .val (.int (i15 + (1 : Int32)))] [(.int (lcmpW w9 w10))])) _
  refine XS.ifNo X0.here hx rfl (hb hby at_208) rfl ((if0 _ _).trans (feq hc208).1) ?_
  show Steps p.tables e below (T0.setTop (mkF m 211 #[s0, s1, s2, s3, s4, s5, s6, s7, s8, s9, s10, .val (.ref o11), .val (.int i12), s13, s14, .val (.int (i15 + (1 : Int32)))] [])) _
  refine XS.iload X0.here hx rfl (hb hby at_211) rfl ?_
  show Steps p.tables e below (T0.setTop (mkF m 213 #[s0, s1, s2, s3, s4, s5, s6, s7, s8, s9, s10, .val (.ref o11), .val (.int i12), s13, s14, .val (.int (i15 + (1 : Int32)))] [(.int (i15 + (1 : Int32)))])) _
  refine XS.iconst X0.here hx rfl (hb hby at_213) ?_
  show Steps p.tables e below (T0.setTop (mkF m 214 #[s0, s1, s2, s3, s4, s5, s6, s7, s8, s9, s10, .val (.ref o11), .val (.int i12), s13, s14, .val (.int (i15 + (1 : Int32)))] [(.int (1 : Int32)), (.int (i15 + (1 : Int32)))])) _
  refine XS.iadd X0.here hx rfl (hb hby at_214) rfl ?_
  show Steps p.tables e below (T0.setTop (mkF m 215 #[s0, s1, s2, s3, s4, s5, s6, s7, s8, s9, s10, .val (.ref o11), .val (.int i12), s13, s14, .val (.int (i15 + (1 : Int32)))] [(.int ((i15 + (1 : Int32)) + (1 : Int32)))])) _
  refine XS.istore X0.here hx rfl (hb hby at_215) rfl (l' := #[s0, s1, s2, s3, s4, s5, s6, s7, s8, s9, s10, .val (.ref o11), .val (.int i12), s13, s14, .val (.int ((i15 + (1 : Int32)) + (1 : Int32)))]) rfl ?_
  exact kt
set_option maxRecDepth 65536 in
set_option maxHeartbeats 40000000 in
theorem pdfffft {p : Program} {l : Launch} {e : Env} {s : State} {m : MethodId} {args : Array Value} {below : List Frame} {meth : Method} {c : Code} {T0 : State} {locs : List Loc} {cells slots : Nat} {Z : State} {a0 : Array Value} {h0 : Heap} (s0 : Slot) (s1 : Slot) (s2 : Slot) (s3 : Slot) (s4 : Slot) (s5 : Slot) (s6 : Slot) (s7 : Slot) (s8 : Slot) (s9 : Slot) (s10 : Slot) (o11 : Addr) (i12 : Int32) (s13 : Slot) (s14 : Slot) (i15 : Int32) (w5 : Int64) (cl_o11 : Cell) (w6 : Int64) (w7 : Int64) (w8 : Int64)
    (X0 : Stand p l e room_1 s m args below meth c T0 locs cells slots) (hx : p.tables.exec = Jvm.exec) (hZ : Z.Warmed39 s.vm) (hw : ∀ d ∈ tables_1, d.before a0 Z = true) (hby : c.code = code) (hml : c.maxLocals = 16) (hown : s.vm.findClass "com/example/tideshift/tideshift/partition/AccessCountsKeysPinLaw" = some m.cls) (e0 : T0.heap = h0) (Ar_o11 : Arr Z h0 o11 cl_o11 .long) (hin166 : ¬ ((1 : Int32) < 0 ∨ cl_o11.slots.size ≤ ((1 : Int32)).toNatClampNeg)) (hat166 : cl_o11.slots[((1 : Int32)).toNatClampNeg]? = some (.long w5)) (hin170 : ¬ ((0 : Int32) < 0 ∨ cl_o11.slots.size ≤ ((0 : Int32)).toNatClampNeg)) (hat170 : cl_o11.slots[((0 : Int32)).toNatClampNeg]? = some (.long w6)) (hin190 : ¬ ((2 : Int32) < 0 ∨ cl_o11.slots.size ≤ ((2 : Int32)).toNatClampNeg)) (hat190 : cl_o11.slots[((2 : Int32)).toNatClampNeg]? = some (.long w7)) (hin194 : ¬ ((0 : Int32) < 0 ∨ cl_o11.slots.size ≤ ((0 : Int32)).toNatClampNeg)) (hat194 : cl_o11.slots[((0 : Int32)).toNatClampNeg]? = some (.long w8)) (hc148 : (0 : Int32) < i12) (hc160 : (1 : Int32) < i12) (hc172 : ¬ ((lcmpW w5 w6) = (0 : Int32))) (hc184 : (2 : Int32) < i12) (hc196 : (lcmpW w7 w8) = (0 : Int32)) :
    ∃ (T' : State), Stand p l e room_1 s m args below meth c T' locs cells slots ∧ T'.heap = h0 ∧
      ∀ target, Steps p.tables e below (T'.setTop (mkF m 217 #[s0, s1, s2, s3, s4, s5, s6, s7, s8, s9, s10, .val (.ref o11), .val (.int i12), s13, s14, .val (.int ((i15 + (1 : Int32)) + (1 : Int32)))] [])) target → Steps p.tables e below (T0.setTop (mkF m 146 #[s0, s1, s2, s3, s4, s5, s6, s7, s8, s9, s10, .val (.ref o11), .val (.int i12), s13, s14, .val (.int i15)] [])) target := by
  -- 3. LAWS

  refine ⟨T0, X0, e0, fun target kt => ?_⟩
  -- 4. STEPS
  show Steps p.tables e below (T0.setTop (mkF m 146 #[s0, s1, s2, s3, s4, s5, s6, s7, s8, s9, s10, .val (.ref o11), .val (.int i12), s13, s14, .val (.int i15)] [])) _
  refine XS.iload X0.here hx rfl (hb hby at_146) rfl ?_
  show Steps p.tables e below (T0.setTop (mkF m 148 #[s0, s1, s2, s3, s4, s5, s6, s7, s8, s9, s10, .val (.ref o11), .val (.int i12), s13, s14, .val (.int i15)] [(.int i12)])) _
  refine XS.ifNo X0.here hx rfl (hb hby at_148) rfl ((if0 _ _).trans (tlt hc148).2.2.2) ?_
  show Steps p.tables e below (T0.setTop (mkF m 151 #[s0, s1, s2, s3, s4, s5, s6, s7, s8, s9, s10, .val (.ref o11), .val (.int i12), s13, s14, .val (.int i15)] [])) _
  refine XS.iload X0.here hx rfl (hb hby at_151) rfl ?_
  show Steps p.tables e below (T0.setTop (mkF m 153 #[s0, s1, s2, s3, s4, s5, s6, s7, s8, s9, s10, .val (.ref o11), .val (.int i12), s13, s14, .val (.int i15)] [(.int i15)])) _
  refine XS.iconst X0.here hx rfl (hb hby at_153) ?_
  show Steps p.tables e below (T0.setTop (mkF m 154 #[s0, s1, s2, s3, s4, s5, s6, s7, s8, s9, s10, .val (.ref o11), .val (.int i12), s13, s14, .val (.int i15)] [(.int (1 : Int32)), (.int i15)])) _
  refine XS.iadd X0.here hx rfl (hb hby at_154) rfl ?_
  show Steps p.tables e below (T0.setTop (mkF m 155 #[s0, s1, s2, s3, s4, s5, s6, s7, s8, s9, s10, .val (.ref o11), .val (.int i12), s13, s14, .val (.int i15)] [(.int (i15 + (1 : Int32)))])) _
  refine XS.istore X0.here hx rfl (hb hby at_155) rfl (l' := #[s0, s1, s2, s3, s4, s5, s6, s7, s8, s9, s10, .val (.ref o11), .val (.int i12), s13, s14, .val (.int (i15 + (1 : Int32)))]) rfl ?_
  show Steps p.tables e below (T0.setTop (mkF m 157 #[s0, s1, s2, s3, s4, s5, s6, s7, s8, s9, s10, .val (.ref o11), .val (.int i12), s13, s14, .val (.int (i15 + (1 : Int32)))] [])) _
  refine XS.iload X0.here hx rfl (hb hby at_157) rfl ?_
  show Steps p.tables e below (T0.setTop (mkF m 159 #[s0, s1, s2, s3, s4, s5, s6, s7, s8, s9, s10, .val (.ref o11), .val (.int i12), s13, s14, .val (.int (i15 + (1 : Int32)))] [(.int i12)])) _
  refine XS.iconst X0.here hx rfl (hb hby at_159) ?_
  show Steps p.tables e below (T0.setTop (mkF m 160 #[s0, s1, s2, s3, s4, s5, s6, s7, s8, s9, s10, .val (.ref o11), .val (.int i12), s13, s14, .val (.int (i15 + (1 : Int32)))] [(.int (1 : Int32)), (.int i12)])) _
  refine XS.icmpNo X0.here hx rfl (hb hby at_160) rfl (tlt hc160).2.2.2 ?_
  show Steps p.tables e below (T0.setTop (mkF m 163 #[s0, s1, s2, s3, s4, s5, s6, s7, s8, s9, s10, .val (.ref o11), .val (.int i12), s13, s14, .val (.int (i15 + (1 : Int32)))] [])) _
  refine XS.aload X0.here hx rfl (hb hby at_163) rfl rfl ?_
  show Steps p.tables e below (T0.setTop (mkF m 165 #[s0, s1, s2, s3, s4, s5, s6, s7, s8, s9, s10, .val (.ref o11), .val (.int i12), s13, s14, .val (.int (i15 + (1 : Int32)))] [(.ref o11)])) _
  refine XS.iconst X0.here hx rfl (hb hby at_165) ?_
  show Steps p.tables e below (T0.setTop (mkF m 166 #[s0, s1, s2, s3, s4, s5, s6, s7, s8, s9, s10, .val (.ref o11), .val (.int i12), s13, s14, .val (.int (i15 + (1 : Int32)))] [(.int (1 : Int32)), (.ref o11)])) _
  refine X0.laload hx (j := (1 : Int32)) (v := (.long w5)) (by rw [e0]; exact Ar_o11.1) (State.isArrayOf_alike hZ.alike Ar_o11.2.1) Ar_o11.2.2 hin166 hat166 (g := (mkF m 166 #[s0, s1, s2, s3, s4, s5, s6, s7, s8, s9, s10, .val (.ref o11), .val (.int i12), s13, s14, .val (.int (i15 + (1 : Int32)))] [(.int (1 : Int32)), (.ref o11)])) rfl rfl (hb hby at_166) _ ?_
  show Steps p.tables e below (T0.setTop (mkF m 167 #[s0, s1, s2, s3, s4, s5, s6, s7, s8, s9, s10, .val (.ref o11), .val (.int i12), s13, s14, .val (.int (i15 + (1 : Int32)))] [(.long w5)])) _
  refine XS.aload X0.here hx rfl (hb hby at_167) rfl rfl ?_
  show Steps p.tables e below (T0.setTop (mkF m 169 #[s0, s1, s2, s3, s4, s5, s6, s7, s8, s9, s10, .val (.ref o11), .val (.int i12), s13, s14, .val (.int (i15 + (1 : Int32)))] [(.ref o11), (.long w5)])) _
  refine XS.iconst X0.here hx rfl (hb hby at_169) ?_
  show Steps p.tables e below (T0.setTop (mkF m 170 #[s0, s1, s2, s3, s4, s5, s6, s7, s8, s9, s10, .val (.ref o11), .val (.int i12), s13, s14, .val (.int (i15 + (1 : Int32)))] [(.int (0 : Int32)), (.ref o11), (.long w5)])) _
  refine X0.laload hx (j := (0 : Int32)) (v := (.long w6)) (by rw [e0]; exact Ar_o11.1) (State.isArrayOf_alike hZ.alike Ar_o11.2.1) Ar_o11.2.2 hin170 hat170 (g := (mkF m 170 #[s0, s1, s2, s3, s4, s5, s6, s7, s8, s9, s10, .val (.ref o11), .val (.int i12), s13, s14, .val (.int (i15 + (1 : Int32)))] [(.int (0 : Int32)), (.ref o11), (.long w5)])) rfl rfl (hb hby at_170) _ ?_
  show Steps p.tables e below (T0.setTop (mkF m 171 #[s0, s1, s2, s3, s4, s5, s6, s7, s8, s9, s10, .val (.ref o11), .val (.int i12), s13, s14, .val (.int (i15 + (1 : Int32)))] [(.long w6), (.long w5)])) _
  refine XS.lcmp X0.here hx rfl (hb hby at_171) rfl ?_
  show Steps p.tables e below (T0.setTop (mkF m 172 #[s0, s1, s2, s3, s4, s5, s6, s7, s8, s9, s10, .val (.ref o11), .val (.int i12), s13, s14, .val (.int (i15 + (1 : Int32)))] [(.int (lcmpW w5 w6))])) _
  refine XS.ifNo X0.here hx rfl (hb hby at_172) rfl ((if0 _ _).trans (feq hc172).1) ?_
  show Steps p.tables e below (T0.setTop (mkF m 175 #[s0, s1, s2, s3, s4, s5, s6, s7, s8, s9, s10, .val (.ref o11), .val (.int i12), s13, s14, .val (.int (i15 + (1 : Int32)))] [])) _
  refine XS.iload X0.here hx rfl (hb hby at_175) rfl ?_
  show Steps p.tables e below (T0.setTop (mkF m 177 #[s0, s1, s2, s3, s4, s5, s6, s7, s8, s9, s10, .val (.ref o11), .val (.int i12), s13, s14, .val (.int (i15 + (1 : Int32)))] [(.int (i15 + (1 : Int32)))])) _
  refine XS.iconst X0.here hx rfl (hb hby at_177) ?_
  show Steps p.tables e below (T0.setTop (mkF m 178 #[s0, s1, s2, s3, s4, s5, s6, s7, s8, s9, s10, .val (.ref o11), .val (.int i12), s13, s14, .val (.int (i15 + (1 : Int32)))] [(.int (1 : Int32)), (.int (i15 + (1 : Int32)))])) _
  refine XS.iadd X0.here hx rfl (hb hby at_178) rfl ?_
  show Steps p.tables e below (T0.setTop (mkF m 179 #[s0, s1, s2, s3, s4, s5, s6, s7, s8, s9, s10, .val (.ref o11), .val (.int i12), s13, s14, .val (.int (i15 + (1 : Int32)))] [(.int ((i15 + (1 : Int32)) + (1 : Int32)))])) _
  refine XS.istore X0.here hx rfl (hb hby at_179) rfl (l' := #[s0, s1, s2, s3, s4, s5, s6, s7, s8, s9, s10, .val (.ref o11), .val (.int i12), s13, s14, .val (.int ((i15 + (1 : Int32)) + (1 : Int32)))]) rfl ?_
  show Steps p.tables e below (T0.setTop (mkF m 181 #[s0, s1, s2, s3, s4, s5, s6, s7, s8, s9, s10, .val (.ref o11), .val (.int i12), s13, s14, .val (.int ((i15 + (1 : Int32)) + (1 : Int32)))] [])) _
  refine XS.iload X0.here hx rfl (hb hby at_181) rfl ?_
  show Steps p.tables e below (T0.setTop (mkF m 183 #[s0, s1, s2, s3, s4, s5, s6, s7, s8, s9, s10, .val (.ref o11), .val (.int i12), s13, s14, .val (.int ((i15 + (1 : Int32)) + (1 : Int32)))] [(.int i12)])) _
  refine XS.iconst X0.here hx rfl (hb hby at_183) ?_
  show Steps p.tables e below (T0.setTop (mkF m 184 #[s0, s1, s2, s3, s4, s5, s6, s7, s8, s9, s10, .val (.ref o11), .val (.int i12), s13, s14, .val (.int ((i15 + (1 : Int32)) + (1 : Int32)))] [(.int (2 : Int32)), (.int i12)])) _
  refine XS.icmpNo X0.here hx rfl (hb hby at_184) rfl (tlt hc184).2.2.2 ?_
  show Steps p.tables e below (T0.setTop (mkF m 187 #[s0, s1, s2, s3, s4, s5, s6, s7, s8, s9, s10, .val (.ref o11), .val (.int i12), s13, s14, .val (.int ((i15 + (1 : Int32)) + (1 : Int32)))] [])) _
  refine XS.aload X0.here hx rfl (hb hby at_187) rfl rfl ?_
  show Steps p.tables e below (T0.setTop (mkF m 189 #[s0, s1, s2, s3, s4, s5, s6, s7, s8, s9, s10, .val (.ref o11), .val (.int i12), s13, s14, .val (.int ((i15 + (1 : Int32)) + (1 : Int32)))] [(.ref o11)])) _
  refine XS.iconst X0.here hx rfl (hb hby at_189) ?_
  show Steps p.tables e below (T0.setTop (mkF m 190 #[s0, s1, s2, s3, s4, s5, s6, s7, s8, s9, s10, .val (.ref o11), .val (.int i12), s13, s14, .val (.int ((i15 + (1 : Int32)) + (1 : Int32)))] [(.int (2 : Int32)), (.ref o11)])) _
  refine X0.laload hx (j := (2 : Int32)) (v := (.long w7)) (by rw [e0]; exact Ar_o11.1) (State.isArrayOf_alike hZ.alike Ar_o11.2.1) Ar_o11.2.2 hin190 hat190 (g := (mkF m 190 #[s0, s1, s2, s3, s4, s5, s6, s7, s8, s9, s10, .val (.ref o11), .val (.int i12), s13, s14, .val (.int ((i15 + (1 : Int32)) + (1 : Int32)))] [(.int (2 : Int32)), (.ref o11)])) rfl rfl (hb hby at_190) _ ?_
  show Steps p.tables e below (T0.setTop (mkF m 191 #[s0, s1, s2, s3, s4, s5, s6, s7, s8, s9, s10, .val (.ref o11), .val (.int i12), s13, s14, .val (.int ((i15 + (1 : Int32)) + (1 : Int32)))] [(.long w7)])) _
  refine XS.aload X0.here hx rfl (hb hby at_191) rfl rfl ?_
  show Steps p.tables e below (T0.setTop (mkF m 193 #[s0, s1, s2, s3, s4, s5, s6, s7, s8, s9, s10, .val (.ref o11), .val (.int i12), s13, s14, .val (.int ((i15 + (1 : Int32)) + (1 : Int32)))] [(.ref o11), (.long w7)])) _
  refine XS.iconst X0.here hx rfl (hb hby at_193) ?_
  show Steps p.tables e below (T0.setTop (mkF m 194 #[s0, s1, s2, s3, s4, s5, s6, s7, s8, s9, s10, .val (.ref o11), .val (.int i12), s13, s14, .val (.int ((i15 + (1 : Int32)) + (1 : Int32)))] [(.int (0 : Int32)), (.ref o11), (.long w7)])) _
  refine X0.laload hx (j := (0 : Int32)) (v := (.long w8)) (by rw [e0]; exact Ar_o11.1) (State.isArrayOf_alike hZ.alike Ar_o11.2.1) Ar_o11.2.2 hin194 hat194 (g := (mkF m 194 #[s0, s1, s2, s3, s4, s5, s6, s7, s8, s9, s10, .val (.ref o11), .val (.int i12), s13, s14, .val (.int ((i15 + (1 : Int32)) + (1 : Int32)))] [(.int (0 : Int32)), (.ref o11), (.long w7)])) rfl rfl (hb hby at_194) _ ?_
  show Steps p.tables e below (T0.setTop (mkF m 195 #[s0, s1, s2, s3, s4, s5, s6, s7, s8, s9, s10, .val (.ref o11), .val (.int i12), s13, s14, .val (.int ((i15 + (1 : Int32)) + (1 : Int32)))] [(.long w8), (.long w7)])) _
  refine XS.lcmp X0.here hx rfl (hb hby at_195) rfl ?_
  show Steps p.tables e below (T0.setTop (mkF m 196 #[s0, s1, s2, s3, s4, s5, s6, s7, s8, s9, s10, .val (.ref o11), .val (.int i12), s13, s14, .val (.int ((i15 + (1 : Int32)) + (1 : Int32)))] [(.int (lcmpW w7 w8))])) _
  refine XS.ifYes X0.here hx rfl (pc0 := 196) (pc' := 217) rfl (hb hby at_196) rfl ((if0 _ _).trans (teq hc196).1) (by decide) (by decide) ?_
  exact kt
set_option maxRecDepth 65536 in
set_option maxHeartbeats 40000000 in
theorem pdffffft {p : Program} {l : Launch} {e : Env} {s : State} {m : MethodId} {args : Array Value} {below : List Frame} {meth : Method} {c : Code} {T0 : State} {locs : List Loc} {cells slots : Nat} {Z : State} {a0 : Array Value} {h0 : Heap} (s0 : Slot) (s1 : Slot) (s2 : Slot) (s3 : Slot) (s4 : Slot) (s5 : Slot) (s6 : Slot) (s7 : Slot) (s8 : Slot) (s9 : Slot) (s10 : Slot) (o11 : Addr) (i12 : Int32) (s13 : Slot) (s14 : Slot) (i15 : Int32) (w5 : Int64) (cl_o11 : Cell) (w6 : Int64) (w7 : Int64) (w8 : Int64) (w9 : Int64) (w10 : Int64)
    (X0 : Stand p l e room_1 s m args below meth c T0 locs cells slots) (hx : p.tables.exec = Jvm.exec) (hZ : Z.Warmed39 s.vm) (hw : ∀ d ∈ tables_1, d.before a0 Z = true) (hby : c.code = code) (hml : c.maxLocals = 16) (hown : s.vm.findClass "com/example/tideshift/tideshift/partition/AccessCountsKeysPinLaw" = some m.cls) (e0 : T0.heap = h0) (Ar_o11 : Arr Z h0 o11 cl_o11 .long) (hin166 : ¬ ((1 : Int32) < 0 ∨ cl_o11.slots.size ≤ ((1 : Int32)).toNatClampNeg)) (hat166 : cl_o11.slots[((1 : Int32)).toNatClampNeg]? = some (.long w5)) (hin170 : ¬ ((0 : Int32) < 0 ∨ cl_o11.slots.size ≤ ((0 : Int32)).toNatClampNeg)) (hat170 : cl_o11.slots[((0 : Int32)).toNatClampNeg]? = some (.long w6)) (hin190 : ¬ ((2 : Int32) < 0 ∨ cl_o11.slots.size ≤ ((2 : Int32)).toNatClampNeg)) (hat190 : cl_o11.slots[((2 : Int32)).toNatClampNeg]? = some (.long w7)) (hin194 : ¬ ((0 : Int32) < 0 ∨ cl_o11.slots.size ≤ ((0 : Int32)).toNatClampNeg)) (hat194 : cl_o11.slots[((0 : Int32)).toNatClampNeg]? = some (.long w8)) (hin202 : ¬ ((2 : Int32) < 0 ∨ cl_o11.slots.size ≤ ((2 : Int32)).toNatClampNeg)) (hat202 : cl_o11.slots[((2 : Int32)).toNatClampNeg]? = some (.long w9)) (hin206 : ¬ ((1 : Int32) < 0 ∨ cl_o11.slots.size ≤ ((1 : Int32)).toNatClampNeg)) (hat206 : cl_o11.slots[((1 : Int32)).toNatClampNeg]? = some (.long w10)) (hc148 : (0 : Int32) < i12) (hc160 : (1 : Int32) < i12) (hc172 : ¬ ((lcmpW w5 w6) = (0 : Int32))) (hc184 : (2 : Int32) < i12) (hc196 : ¬ ((lcmpW w7 w8) = (0 : Int32))) (hc208 : (lcmpW w9 w10) = (0 : Int32)) :
    ∃ (T' : State), Stand p l e room_1 s m args below meth c T' locs cells slots ∧ T'.heap = h0 ∧
      ∀ target, Steps p.tables e below (T'.setTop (mkF m 217 #[s0, s1, s2, s3, s4, s5, s6, s7, s8, s9, s10, .val (.ref o11), .val (.int i12), s13, s14, .val (.int ((i15 + (1 : Int32)) + (1 : Int32)))] [])) target → Steps p.tables e below (T0.setTop (mkF m 146 #[s0, s1, s2, s3, s4, s5, s6, s7, s8, s9, s10, .val (.ref o11), .val (.int i12), s13, s14, .val (.int i15)] [])) target := by
  -- 3. LAWS

  refine ⟨T0, X0, e0, fun target kt => ?_⟩
  -- 4. STEPS
  show Steps p.tables e below (T0.setTop (mkF m 146 #[s0, s1, s2, s3, s4, s5, s6, s7, s8, s9, s10, .val (.ref o11), .val (.int i12), s13, s14, .val (.int i15)] [])) _
  refine XS.iload X0.here hx rfl (hb hby at_146) rfl ?_
  show Steps p.tables e below (T0.setTop (mkF m 148 #[s0, s1, s2, s3, s4, s5, s6, s7, s8, s9, s10, .val (.ref o11), .val (.int i12), s13, s14, .val (.int i15)] [(.int i12)])) _
  refine XS.ifNo X0.here hx rfl (hb hby at_148) rfl ((if0 _ _).trans (tlt hc148).2.2.2) ?_
  show Steps p.tables e below (T0.setTop (mkF m 151 #[s0, s1, s2, s3, s4, s5, s6, s7, s8, s9, s10, .val (.ref o11), .val (.int i12), s13, s14, .val (.int i15)] [])) _
  refine XS.iload X0.here hx rfl (hb hby at_151) rfl ?_
  show Steps p.tables e below (T0.setTop (mkF m 153 #[s0, s1, s2, s3, s4, s5, s6, s7, s8, s9, s10, .val (.ref o11), .val (.int i12), s13, s14, .val (.int i15)] [(.int i15)])) _
  refine XS.iconst X0.here hx rfl (hb hby at_153) ?_
  show Steps p.tables e below (T0.setTop (mkF m 154 #[s0, s1, s2, s3, s4, s5, s6, s7, s8, s9, s10, .val (.ref o11), .val (.int i12), s13, s14, .val (.int i15)] [(.int (1 : Int32)), (.int i15)])) _
  refine XS.iadd X0.here hx rfl (hb hby at_154) rfl ?_
  show Steps p.tables e below (T0.setTop (mkF m 155 #[s0, s1, s2, s3, s4, s5, s6, s7, s8, s9, s10, .val (.ref o11), .val (.int i12), s13, s14, .val (.int i15)] [(.int (i15 + (1 : Int32)))])) _
  refine XS.istore X0.here hx rfl (hb hby at_155) rfl (l' := #[s0, s1, s2, s3, s4, s5, s6, s7, s8, s9, s10, .val (.ref o11), .val (.int i12), s13, s14, .val (.int (i15 + (1 : Int32)))]) rfl ?_
  show Steps p.tables e below (T0.setTop (mkF m 157 #[s0, s1, s2, s3, s4, s5, s6, s7, s8, s9, s10, .val (.ref o11), .val (.int i12), s13, s14, .val (.int (i15 + (1 : Int32)))] [])) _
  refine XS.iload X0.here hx rfl (hb hby at_157) rfl ?_
  show Steps p.tables e below (T0.setTop (mkF m 159 #[s0, s1, s2, s3, s4, s5, s6, s7, s8, s9, s10, .val (.ref o11), .val (.int i12), s13, s14, .val (.int (i15 + (1 : Int32)))] [(.int i12)])) _
  refine XS.iconst X0.here hx rfl (hb hby at_159) ?_
  show Steps p.tables e below (T0.setTop (mkF m 160 #[s0, s1, s2, s3, s4, s5, s6, s7, s8, s9, s10, .val (.ref o11), .val (.int i12), s13, s14, .val (.int (i15 + (1 : Int32)))] [(.int (1 : Int32)), (.int i12)])) _
  refine XS.icmpNo X0.here hx rfl (hb hby at_160) rfl (tlt hc160).2.2.2 ?_
  show Steps p.tables e below (T0.setTop (mkF m 163 #[s0, s1, s2, s3, s4, s5, s6, s7, s8, s9, s10, .val (.ref o11), .val (.int i12), s13, s14, .val (.int (i15 + (1 : Int32)))] [])) _
  refine XS.aload X0.here hx rfl (hb hby at_163) rfl rfl ?_
  show Steps p.tables e below (T0.setTop (mkF m 165 #[s0, s1, s2, s3, s4, s5, s6, s7, s8, s9, s10, .val (.ref o11), .val (.int i12), s13, s14, .val (.int (i15 + (1 : Int32)))] [(.ref o11)])) _
  refine XS.iconst X0.here hx rfl (hb hby at_165) ?_
  show Steps p.tables e below (T0.setTop (mkF m 166 #[s0, s1, s2, s3, s4, s5, s6, s7, s8, s9, s10, .val (.ref o11), .val (.int i12), s13, s14, .val (.int (i15 + (1 : Int32)))] [(.int (1 : Int32)), (.ref o11)])) _
  refine X0.laload hx (j := (1 : Int32)) (v := (.long w5)) (by rw [e0]; exact Ar_o11.1) (State.isArrayOf_alike hZ.alike Ar_o11.2.1) Ar_o11.2.2 hin166 hat166 (g := (mkF m 166 #[s0, s1, s2, s3, s4, s5, s6, s7, s8, s9, s10, .val (.ref o11), .val (.int i12), s13, s14, .val (.int (i15 + (1 : Int32)))] [(.int (1 : Int32)), (.ref o11)])) rfl rfl (hb hby at_166) _ ?_
  show Steps p.tables e below (T0.setTop (mkF m 167 #[s0, s1, s2, s3, s4, s5, s6, s7, s8, s9, s10, .val (.ref o11), .val (.int i12), s13, s14, .val (.int (i15 + (1 : Int32)))] [(.long w5)])) _
  refine XS.aload X0.here hx rfl (hb hby at_167) rfl rfl ?_
  show Steps p.tables e below (T0.setTop (mkF m 169 #[s0, s1, s2, s3, s4, s5, s6, s7, s8, s9, s10, .val (.ref o11), .val (.int i12), s13, s14, .val (.int (i15 + (1 : Int32)))] [(.ref o11), (.long w5)])) _
  refine XS.iconst X0.here hx rfl (hb hby at_169) ?_
  show Steps p.tables e below (T0.setTop (mkF m 170 #[s0, s1, s2, s3, s4, s5, s6, s7, s8, s9, s10, .val (.ref o11), .val (.int i12), s13, s14, .val (.int (i15 + (1 : Int32)))] [(.int (0 : Int32)), (.ref o11), (.long w5)])) _
  refine X0.laload hx (j := (0 : Int32)) (v := (.long w6)) (by rw [e0]; exact Ar_o11.1) (State.isArrayOf_alike hZ.alike Ar_o11.2.1) Ar_o11.2.2 hin170 hat170 (g := (mkF m 170 #[s0, s1, s2, s3, s4, s5, s6, s7, s8, s9, s10, .val (.ref o11), .val (.int i12), s13, s14, .val (.int (i15 + (1 : Int32)))] [(.int (0 : Int32)), (.ref o11), (.long w5)])) rfl rfl (hb hby at_170) _ ?_
  show Steps p.tables e below (T0.setTop (mkF m 171 #[s0, s1, s2, s3, s4, s5, s6, s7, s8, s9, s10, .val (.ref o11), .val (.int i12), s13, s14, .val (.int (i15 + (1 : Int32)))] [(.long w6), (.long w5)])) _
  refine XS.lcmp X0.here hx rfl (hb hby at_171) rfl ?_
  show Steps p.tables e below (T0.setTop (mkF m 172 #[s0, s1, s2, s3, s4, s5, s6, s7, s8, s9, s10, .val (.ref o11), .val (.int i12), s13, s14, .val (.int (i15 + (1 : Int32)))] [(.int (lcmpW w5 w6))])) _
  refine XS.ifNo X0.here hx rfl (hb hby at_172) rfl ((if0 _ _).trans (feq hc172).1) ?_
  show Steps p.tables e below (T0.setTop (mkF m 175 #[s0, s1, s2, s3, s4, s5, s6, s7, s8, s9, s10, .val (.ref o11), .val (.int i12), s13, s14, .val (.int (i15 + (1 : Int32)))] [])) _
  refine XS.iload X0.here hx rfl (hb hby at_175) rfl ?_
  show Steps p.tables e below (T0.setTop (mkF m 177 #[s0, s1, s2, s3, s4, s5, s6, s7, s8, s9, s10, .val (.ref o11), .val (.int i12), s13, s14, .val (.int (i15 + (1 : Int32)))] [(.int (i15 + (1 : Int32)))])) _
  refine XS.iconst X0.here hx rfl (hb hby at_177) ?_
  show Steps p.tables e below (T0.setTop (mkF m 178 #[s0, s1, s2, s3, s4, s5, s6, s7, s8, s9, s10, .val (.ref o11), .val (.int i12), s13, s14, .val (.int (i15 + (1 : Int32)))] [(.int (1 : Int32)), (.int (i15 + (1 : Int32)))])) _
  refine XS.iadd X0.here hx rfl (hb hby at_178) rfl ?_
  show Steps p.tables e below (T0.setTop (mkF m 179 #[s0, s1, s2, s3, s4, s5, s6, s7, s8, s9, s10, .val (.ref o11), .val (.int i12), s13, s14, .val (.int (i15 + (1 : Int32)))] [(.int ((i15 + (1 : Int32)) + (1 : Int32)))])) _
  refine XS.istore X0.here hx rfl (hb hby at_179) rfl (l' := #[s0, s1, s2, s3, s4, s5, s6, s7, s8, s9, s10, .val (.ref o11), .val (.int i12), s13, s14, .val (.int ((i15 + (1 : Int32)) + (1 : Int32)))]) rfl ?_
  show Steps p.tables e below (T0.setTop (mkF m 181 #[s0, s1, s2, s3, s4, s5, s6, s7, s8, s9, s10, .val (.ref o11), .val (.int i12), s13, s14, .val (.int ((i15 + (1 : Int32)) + (1 : Int32)))] [])) _
  refine XS.iload X0.here hx rfl (hb hby at_181) rfl ?_
  show Steps p.tables e below (T0.setTop (mkF m 183 #[s0, s1, s2, s3, s4, s5, s6, s7, s8, s9, s10, .val (.ref o11), .val (.int i12), s13, s14, .val (.int ((i15 + (1 : Int32)) + (1 : Int32)))] [(.int i12)])) _
  refine XS.iconst X0.here hx rfl (hb hby at_183) ?_
  show Steps p.tables e below (T0.setTop (mkF m 184 #[s0, s1, s2, s3, s4, s5, s6, s7, s8, s9, s10, .val (.ref o11), .val (.int i12), s13, s14, .val (.int ((i15 + (1 : Int32)) + (1 : Int32)))] [(.int (2 : Int32)), (.int i12)])) _
  refine XS.icmpNo X0.here hx rfl (hb hby at_184) rfl (tlt hc184).2.2.2 ?_
  show Steps p.tables e below (T0.setTop (mkF m 187 #[s0, s1, s2, s3, s4, s5, s6, s7, s8, s9, s10, .val (.ref o11), .val (.int i12), s13, s14, .val (.int ((i15 + (1 : Int32)) + (1 : Int32)))] [])) _
  refine XS.aload X0.here hx rfl (hb hby at_187) rfl rfl ?_
  show Steps p.tables e below (T0.setTop (mkF m 189 #[s0, s1, s2, s3, s4, s5, s6, s7, s8, s9, s10, .val (.ref o11), .val (.int i12), s13, s14, .val (.int ((i15 + (1 : Int32)) + (1 : Int32)))] [(.ref o11)])) _
  refine XS.iconst X0.here hx rfl (hb hby at_189) ?_
  show Steps p.tables e below (T0.setTop (mkF m 190 #[s0, s1, s2, s3, s4, s5, s6, s7, s8, s9, s10, .val (.ref o11), .val (.int i12), s13, s14, .val (.int ((i15 + (1 : Int32)) + (1 : Int32)))] [(.int (2 : Int32)), (.ref o11)])) _
  refine X0.laload hx (j := (2 : Int32)) (v := (.long w7)) (by rw [e0]; exact Ar_o11.1) (State.isArrayOf_alike hZ.alike Ar_o11.2.1) Ar_o11.2.2 hin190 hat190 (g := (mkF m 190 #[s0, s1, s2, s3, s4, s5, s6, s7, s8, s9, s10, .val (.ref o11), .val (.int i12), s13, s14, .val (.int ((i15 + (1 : Int32)) + (1 : Int32)))] [(.int (2 : Int32)), (.ref o11)])) rfl rfl (hb hby at_190) _ ?_
  show Steps p.tables e below (T0.setTop (mkF m 191 #[s0, s1, s2, s3, s4, s5, s6, s7, s8, s9, s10, .val (.ref o11), .val (.int i12), s13, s14, .val (.int ((i15 + (1 : Int32)) + (1 : Int32)))] [(.long w7)])) _
  refine XS.aload X0.here hx rfl (hb hby at_191) rfl rfl ?_
  show Steps p.tables e below (T0.setTop (mkF m 193 #[s0, s1, s2, s3, s4, s5, s6, s7, s8, s9, s10, .val (.ref o11), .val (.int i12), s13, s14, .val (.int ((i15 + (1 : Int32)) + (1 : Int32)))] [(.ref o11), (.long w7)])) _
  refine XS.iconst X0.here hx rfl (hb hby at_193) ?_
  show Steps p.tables e below (T0.setTop (mkF m 194 #[s0, s1, s2, s3, s4, s5, s6, s7, s8, s9, s10, .val (.ref o11), .val (.int i12), s13, s14, .val (.int ((i15 + (1 : Int32)) + (1 : Int32)))] [(.int (0 : Int32)), (.ref o11), (.long w7)])) _
  refine X0.laload hx (j := (0 : Int32)) (v := (.long w8)) (by rw [e0]; exact Ar_o11.1) (State.isArrayOf_alike hZ.alike Ar_o11.2.1) Ar_o11.2.2 hin194 hat194 (g := (mkF m 194 #[s0, s1, s2, s3, s4, s5, s6, s7, s8, s9, s10, .val (.ref o11), .val (.int i12), s13, s14, .val (.int ((i15 + (1 : Int32)) + (1 : Int32)))] [(.int (0 : Int32)), (.ref o11), (.long w7)])) rfl rfl (hb hby at_194) _ ?_
  show Steps p.tables e below (T0.setTop (mkF m 195 #[s0, s1, s2, s3, s4, s5, s6, s7, s8, s9, s10, .val (.ref o11), .val (.int i12), s13, s14, .val (.int ((i15 + (1 : Int32)) + (1 : Int32)))] [(.long w8), (.long w7)])) _
  refine XS.lcmp X0.here hx rfl (hb hby at_195) rfl ?_
  show Steps p.tables e below (T0.setTop (mkF m 196 #[s0, s1, s2, s3, s4, s5, s6, s7, s8, s9, s10, .val (.ref o11), .val (.int i12), s13, s14, .val (.int ((i15 + (1 : Int32)) + (1 : Int32)))] [(.int (lcmpW w7 w8))])) _
  refine XS.ifNo X0.here hx rfl (hb hby at_196) rfl ((if0 _ _).trans (feq hc196).1) ?_
  show Steps p.tables e below (T0.setTop (mkF m 199 #[s0, s1, s2, s3, s4, s5, s6, s7, s8, s9, s10, .val (.ref o11), .val (.int i12), s13, s14, .val (.int ((i15 + (1 : Int32)) + (1 : Int32)))] [])) _
  refine XS.aload X0.here hx rfl (hb hby at_199) rfl rfl ?_
  show Steps p.tables e below (T0.setTop (mkF m 201 #[s0, s1, s2, s3, s4, s5, s6, s7, s8, s9, s10, .val (.ref o11), .val (.int i12), s13, s14, .val (.int ((i15 + (1 : Int32)) + (1 : Int32)))] [(.ref o11)])) _
  refine XS.iconst X0.here hx rfl (hb hby at_201) ?_
  show Steps p.tables e below (T0.setTop (mkF m 202 #[s0, s1, s2, s3, s4, s5, s6, s7, s8, s9, s10, .val (.ref o11), .val (.int i12), s13, s14, .val (.int ((i15 + (1 : Int32)) + (1 : Int32)))] [(.int (2 : Int32)), (.ref o11)])) _
  refine X0.laload hx (j := (2 : Int32)) (v := (.long w9)) (by rw [e0]; exact Ar_o11.1) (State.isArrayOf_alike hZ.alike Ar_o11.2.1) Ar_o11.2.2 hin202 hat202 (g := (mkF m 202 #[s0, s1, s2, s3, s4, s5, s6, s7, s8, s9, s10, .val (.ref o11), .val (.int i12), s13, s14, .val (.int ((i15 + (1 : Int32)) + (1 : Int32)))] [(.int (2 : Int32)), (.ref o11)])) rfl rfl (hb hby at_202) _ ?_
  show Steps p.tables e below (T0.setTop (mkF m 203 #[s0, s1, s2, s3, s4, s5, s6, s7, s8, s9, s10, .val (.ref o11), .val (.int i12), s13, s14, .val (.int ((i15 + (1 : Int32)) + (1 : Int32)))] [(.long w9)])) _
  refine XS.aload X0.here hx rfl (hb hby at_203) rfl rfl ?_
  show Steps p.tables e below (T0.setTop (mkF m 205 #[s0, s1, s2, s3, s4, s5, s6, s7, s8, s9, s10, .val (.ref o11), .val (.int i12), s13, s14, .val (.int ((i15 + (1 : Int32)) + (1 : Int32)))] [(.ref o11), (.long w9)])) _
  refine XS.iconst X0.here hx rfl (hb hby at_205) ?_
  show Steps p.tables e below (T0.setTop (mkF m 206 #[s0, s1, s2, s3, s4, s5, s6, s7, s8, s9, s10, .val (.ref o11), .val (.int i12), s13, s14, .val (.int ((i15 + (1 : Int32)) + (1 : Int32)))] [(.int (1 : Int32)), (.ref o11), (.long w9)])) _
  refine X0.laload hx (j := (1 : Int32)) (v := (.long w10)) (by rw [e0]; exact Ar_o11.1) (State.isArrayOf_alike hZ.alike Ar_o11.2.1) Ar_o11.2.2 hin206 hat206 (g := (mkF m 206 #[s0, s1, s2, s3, s4, s5, s6, s7, s8, s9, s10, .val (.ref o11), .val (.int i12), s13, s14, .val (.int ((i15 + (1 : Int32)) + (1 : Int32)))] [(.int (1 : Int32)), (.ref o11), (.long w9)])) rfl rfl (hb hby at_206) _ ?_
  show Steps p.tables e below (T0.setTop (mkF m 207 #[s0, s1, s2, s3, s4, s5, s6, s7, s8, s9, s10, .val (.ref o11), .val (.int i12), s13, s14, .val (.int ((i15 + (1 : Int32)) + (1 : Int32)))] [(.long w10), (.long w9)])) _
  refine XS.lcmp X0.here hx rfl (hb hby at_207) rfl ?_
  show Steps p.tables e below (T0.setTop (mkF m 208 #[s0, s1, s2, s3, s4, s5, s6, s7, s8, s9, s10, .val (.ref o11), .val (.int i12), s13, s14, .val (.int ((i15 + (1 : Int32)) + (1 : Int32)))] [(.int (lcmpW w9 w10))])) _
  refine XS.ifYes X0.here hx rfl (pc0 := 208) (pc' := 217) rfl (hb hby at_208) rfl ((if0 _ _).trans (teq hc208).1) (by decide) (by decide) ?_
  exact kt
set_option maxRecDepth 65536 in
set_option maxHeartbeats 40000000 in
theorem pdffffff {p : Program} {l : Launch} {e : Env} {s : State} {m : MethodId} {args : Array Value} {below : List Frame} {meth : Method} {c : Code} {T0 : State} {locs : List Loc} {cells slots : Nat} {Z : State} {a0 : Array Value} {h0 : Heap} (s0 : Slot) (s1 : Slot) (s2 : Slot) (s3 : Slot) (s4 : Slot) (s5 : Slot) (s6 : Slot) (s7 : Slot) (s8 : Slot) (s9 : Slot) (s10 : Slot) (o11 : Addr) (i12 : Int32) (s13 : Slot) (s14 : Slot) (i15 : Int32) (w5 : Int64) (cl_o11 : Cell) (w6 : Int64) (w7 : Int64) (w8 : Int64) (w9 : Int64) (w10 : Int64)
    (X0 : Stand p l e room_1 s m args below meth c T0 locs cells slots) (hx : p.tables.exec = Jvm.exec) (hZ : Z.Warmed39 s.vm) (hw : ∀ d ∈ tables_1, d.before a0 Z = true) (hby : c.code = code) (hml : c.maxLocals = 16) (hown : s.vm.findClass "com/example/tideshift/tideshift/partition/AccessCountsKeysPinLaw" = some m.cls) (e0 : T0.heap = h0) (Ar_o11 : Arr Z h0 o11 cl_o11 .long) (hin166 : ¬ ((1 : Int32) < 0 ∨ cl_o11.slots.size ≤ ((1 : Int32)).toNatClampNeg)) (hat166 : cl_o11.slots[((1 : Int32)).toNatClampNeg]? = some (.long w5)) (hin170 : ¬ ((0 : Int32) < 0 ∨ cl_o11.slots.size ≤ ((0 : Int32)).toNatClampNeg)) (hat170 : cl_o11.slots[((0 : Int32)).toNatClampNeg]? = some (.long w6)) (hin190 : ¬ ((2 : Int32) < 0 ∨ cl_o11.slots.size ≤ ((2 : Int32)).toNatClampNeg)) (hat190 : cl_o11.slots[((2 : Int32)).toNatClampNeg]? = some (.long w7)) (hin194 : ¬ ((0 : Int32) < 0 ∨ cl_o11.slots.size ≤ ((0 : Int32)).toNatClampNeg)) (hat194 : cl_o11.slots[((0 : Int32)).toNatClampNeg]? = some (.long w8)) (hin202 : ¬ ((2 : Int32) < 0 ∨ cl_o11.slots.size ≤ ((2 : Int32)).toNatClampNeg)) (hat202 : cl_o11.slots[((2 : Int32)).toNatClampNeg]? = some (.long w9)) (hin206 : ¬ ((1 : Int32) < 0 ∨ cl_o11.slots.size ≤ ((1 : Int32)).toNatClampNeg)) (hat206 : cl_o11.slots[((1 : Int32)).toNatClampNeg]? = some (.long w10)) (hc148 : (0 : Int32) < i12) (hc160 : (1 : Int32) < i12) (hc172 : ¬ ((lcmpW w5 w6) = (0 : Int32))) (hc184 : (2 : Int32) < i12) (hc196 : ¬ ((lcmpW w7 w8) = (0 : Int32))) (hc208 : ¬ ((lcmpW w9 w10) = (0 : Int32))) :
    ∃ (T' : State), Stand p l e room_1 s m args below meth c T' locs cells slots ∧ T'.heap = h0 ∧
      ∀ target, Steps p.tables e below (T'.setTop (mkF m 217 #[s0, s1, s2, s3, s4, s5, s6, s7, s8, s9, s10, .val (.ref o11), .val (.int i12), s13, s14, .val (.int (((i15 + (1 : Int32)) + (1 : Int32)) + (1 : Int32)))] [])) target → Steps p.tables e below (T0.setTop (mkF m 146 #[s0, s1, s2, s3, s4, s5, s6, s7, s8, s9, s10, .val (.ref o11), .val (.int i12), s13, s14, .val (.int i15)] [])) target := by
  -- 3. LAWS

  refine ⟨T0, X0, e0, fun target kt => ?_⟩
  -- 4. STEPS
  show Steps p.tables e below (T0.setTop (mkF m 146 #[s0, s1, s2, s3, s4, s5, s6, s7, s8, s9, s10, .val (.ref o11), .val (.int i12), s13, s14, .val (.int i15)] [])) _
  refine XS.iload X0.here hx rfl (hb hby at_146) rfl ?_
  show Steps p.tables e below (T0.setTop (mkF m 148 #[s0, s1, s2, s3, s4, s5, s6, s7, s8, s9, s10, .val (.ref o11), .val (.int i12), s13, s14, .val (.int i15)] [(.int i12)])) _
  refine XS.ifNo X0.here hx rfl (hb hby at_148) rfl ((if0 _ _).trans (tlt hc148).2.2.2) ?_
  show Steps p.tables e below (T0.setTop (mkF m 151 #[s0, s1, s2, s3, s4, s5, s6, s7, s8, s9, s10, .val (.ref o11), .val (.int i12), s13, s14, .val (.int i15)] [])) _
  refine XS.iload X0.here hx rfl (hb hby at_151) rfl ?_
  show Steps p.tables e below (T0.setTop (mkF m 153 #[s0, s1, s2, s3, s4, s5, s6, s7, s8, s9, s10, .val (.ref o11), .val (.int i12), s13, s14, .val (.int i15)] [(.int i15)])) _
  refine XS.iconst X0.here hx rfl (hb hby at_153) ?_
  show Steps p.tables e below (T0.setTop (mkF m 154 #[s0, s1, s2, s3, s4, s5, s6, s7, s8, s9, s10, .val (.ref o11), .val (.int i12), s13, s14, .val (.int i15)] [(.int (1 : Int32)), (.int i15)])) _
  refine XS.iadd X0.here hx rfl (hb hby at_154) rfl ?_
  show Steps p.tables e below (T0.setTop (mkF m 155 #[s0, s1, s2, s3, s4, s5, s6, s7, s8, s9, s10, .val (.ref o11), .val (.int i12), s13, s14, .val (.int i15)] [(.int (i15 + (1 : Int32)))])) _
  refine XS.istore X0.here hx rfl (hb hby at_155) rfl (l' := #[s0, s1, s2, s3, s4, s5, s6, s7, s8, s9, s10, .val (.ref o11), .val (.int i12), s13, s14, .val (.int (i15 + (1 : Int32)))]) rfl ?_
  show Steps p.tables e below (T0.setTop (mkF m 157 #[s0, s1, s2, s3, s4, s5, s6, s7, s8, s9, s10, .val (.ref o11), .val (.int i12), s13, s14, .val (.int (i15 + (1 : Int32)))] [])) _
  refine XS.iload X0.here hx rfl (hb hby at_157) rfl ?_
  show Steps p.tables e below (T0.setTop (mkF m 159 #[s0, s1, s2, s3, s4, s5, s6, s7, s8, s9, s10, .val (.ref o11), .val (.int i12), s13, s14, .val (.int (i15 + (1 : Int32)))] [(.int i12)])) _
  refine XS.iconst X0.here hx rfl (hb hby at_159) ?_
  show Steps p.tables e below (T0.setTop (mkF m 160 #[s0, s1, s2, s3, s4, s5, s6, s7, s8, s9, s10, .val (.ref o11), .val (.int i12), s13, s14, .val (.int (i15 + (1 : Int32)))] [(.int (1 : Int32)), (.int i12)])) _
  refine XS.icmpNo X0.here hx rfl (hb hby at_160) rfl (tlt hc160).2.2.2 ?_
  show Steps p.tables e below (T0.setTop (mkF m 163 #[s0, s1, s2, s3, s4, s5, s6, s7, s8, s9, s10, .val (.ref o11), .val (.int i12), s13, s14, .val (.int (i15 + (1 : Int32)))] [])) _
  refine XS.aload X0.here hx rfl (hb hby at_163) rfl rfl ?_
  show Steps p.tables e below (T0.setTop (mkF m 165 #[s0, s1, s2, s3, s4, s5, s6, s7, s8, s9, s10, .val (.ref o11), .val (.int i12), s13, s14, .val (.int (i15 + (1 : Int32)))] [(.ref o11)])) _
  refine XS.iconst X0.here hx rfl (hb hby at_165) ?_
  show Steps p.tables e below (T0.setTop (mkF m 166 #[s0, s1, s2, s3, s4, s5, s6, s7, s8, s9, s10, .val (.ref o11), .val (.int i12), s13, s14, .val (.int (i15 + (1 : Int32)))] [(.int (1 : Int32)), (.ref o11)])) _
  refine X0.laload hx (j := (1 : Int32)) (v := (.long w5)) (by rw [e0]; exact Ar_o11.1) (State.isArrayOf_alike hZ.alike Ar_o11.2.1) Ar_o11.2.2 hin166 hat166 (g := (mkF m 166 #[s0, s1, s2, s3, s4, s5, s6, s7, s8, s9, s10, .val (.ref o11), .val (.int i12), s13, s14, .val (.int (i15 + (1 : Int32)))] [(.int (1 : Int32)), (.ref o11)])) rfl rfl (hb hby at_166) _ ?_
  show Steps p.tables e below (T0.setTop (mkF m 167 #[s0, s1, s2, s3, s4, s5, s6, s7, s8, s9, s10, .val (.ref o11), .val (.int i12), s13, s14, .val (.int (i15 + (1 : Int32)))] [(.long w5)])) _
  refine XS.aload X0.here hx rfl (hb hby at_167) rfl rfl ?_
  show Steps p.tables e below (T0.setTop (mkF m 169 #[s0, s1, s2, s3, s4, s5, s6, s7, s8, s9, s10, .val (.ref o11), .val (.int i12), s13, s14, .val (.int (i15 + (1 : Int32)))] [(.ref o11), (.long w5)])) _
  refine XS.iconst X0.here hx rfl (hb hby at_169) ?_
  show Steps p.tables e below (T0.setTop (mkF m 170 #[s0, s1, s2, s3, s4, s5, s6, s7, s8, s9, s10, .val (.ref o11), .val (.int i12), s13, s14, .val (.int (i15 + (1 : Int32)))] [(.int (0 : Int32)), (.ref o11), (.long w5)])) _
  refine X0.laload hx (j := (0 : Int32)) (v := (.long w6)) (by rw [e0]; exact Ar_o11.1) (State.isArrayOf_alike hZ.alike Ar_o11.2.1) Ar_o11.2.2 hin170 hat170 (g := (mkF m 170 #[s0, s1, s2, s3, s4, s5, s6, s7, s8, s9, s10, .val (.ref o11), .val (.int i12), s13, s14, .val (.int (i15 + (1 : Int32)))] [(.int (0 : Int32)), (.ref o11), (.long w5)])) rfl rfl (hb hby at_170) _ ?_
  show Steps p.tables e below (T0.setTop (mkF m 171 #[s0, s1, s2, s3, s4, s5, s6, s7, s8, s9, s10, .val (.ref o11), .val (.int i12), s13, s14, .val (.int (i15 + (1 : Int32)))] [(.long w6), (.long w5)])) _
  refine XS.lcmp X0.here hx rfl (hb hby at_171) rfl ?_
  show Steps p.tables e below (T0.setTop (mkF m 172 #[s0, s1, s2, s3, s4, s5, s6, s7, s8, s9, s10, .val (.ref o11), .val (.int i12), s13, s14, .val (.int (i15 + (1 : Int32)))] [(.int (lcmpW w5 w6))])) _
  refine XS.ifNo X0.here hx rfl (hb hby at_172) rfl ((if0 _ _).trans (feq hc172).1) ?_
  show Steps p.tables e below (T0.setTop (mkF m 175 #[s0, s1, s2, s3, s4, s5, s6, s7, s8, s9, s10, .val (.ref o11), .val (.int i12), s13, s14, .val (.int (i15 + (1 : Int32)))] [])) _
  refine XS.iload X0.here hx rfl (hb hby at_175) rfl ?_
  show Steps p.tables e below (T0.setTop (mkF m 177 #[s0, s1, s2, s3, s4, s5, s6, s7, s8, s9, s10, .val (.ref o11), .val (.int i12), s13, s14, .val (.int (i15 + (1 : Int32)))] [(.int (i15 + (1 : Int32)))])) _
  refine XS.iconst X0.here hx rfl (hb hby at_177) ?_
  show Steps p.tables e below (T0.setTop (mkF m 178 #[s0, s1, s2, s3, s4, s5, s6, s7, s8, s9, s10, .val (.ref o11), .val (.int i12), s13, s14, .val (.int (i15 + (1 : Int32)))] [(.int (1 : Int32)), (.int (i15 + (1 : Int32)))])) _
  refine XS.iadd X0.here hx rfl (hb hby at_178) rfl ?_
  show Steps p.tables e below (T0.setTop (mkF m 179 #[s0, s1, s2, s3, s4, s5, s6, s7, s8, s9, s10, .val (.ref o11), .val (.int i12), s13, s14, .val (.int (i15 + (1 : Int32)))] [(.int ((i15 + (1 : Int32)) + (1 : Int32)))])) _
  refine XS.istore X0.here hx rfl (hb hby at_179) rfl (l' := #[s0, s1, s2, s3, s4, s5, s6, s7, s8, s9, s10, .val (.ref o11), .val (.int i12), s13, s14, .val (.int ((i15 + (1 : Int32)) + (1 : Int32)))]) rfl ?_
  show Steps p.tables e below (T0.setTop (mkF m 181 #[s0, s1, s2, s3, s4, s5, s6, s7, s8, s9, s10, .val (.ref o11), .val (.int i12), s13, s14, .val (.int ((i15 + (1 : Int32)) + (1 : Int32)))] [])) _
  refine XS.iload X0.here hx rfl (hb hby at_181) rfl ?_
  show Steps p.tables e below (T0.setTop (mkF m 183 #[s0, s1, s2, s3, s4, s5, s6, s7, s8, s9, s10, .val (.ref o11), .val (.int i12), s13, s14, .val (.int ((i15 + (1 : Int32)) + (1 : Int32)))] [(.int i12)])) _
  refine XS.iconst X0.here hx rfl (hb hby at_183) ?_
  show Steps p.tables e below (T0.setTop (mkF m 184 #[s0, s1, s2, s3, s4, s5, s6, s7, s8, s9, s10, .val (.ref o11), .val (.int i12), s13, s14, .val (.int ((i15 + (1 : Int32)) + (1 : Int32)))] [(.int (2 : Int32)), (.int i12)])) _
  refine XS.icmpNo X0.here hx rfl (hb hby at_184) rfl (tlt hc184).2.2.2 ?_
  show Steps p.tables e below (T0.setTop (mkF m 187 #[s0, s1, s2, s3, s4, s5, s6, s7, s8, s9, s10, .val (.ref o11), .val (.int i12), s13, s14, .val (.int ((i15 + (1 : Int32)) + (1 : Int32)))] [])) _
  refine XS.aload X0.here hx rfl (hb hby at_187) rfl rfl ?_
  show Steps p.tables e below (T0.setTop (mkF m 189 #[s0, s1, s2, s3, s4, s5, s6, s7, s8, s9, s10, .val (.ref o11), .val (.int i12), s13, s14, .val (.int ((i15 + (1 : Int32)) + (1 : Int32)))] [(.ref o11)])) _
  refine XS.iconst X0.here hx rfl (hb hby at_189) ?_
  show Steps p.tables e below (T0.setTop (mkF m 190 #[s0, s1, s2, s3, s4, s5, s6, s7, s8, s9, s10, .val (.ref o11), .val (.int i12), s13, s14, .val (.int ((i15 + (1 : Int32)) + (1 : Int32)))] [(.int (2 : Int32)), (.ref o11)])) _
  refine X0.laload hx (j := (2 : Int32)) (v := (.long w7)) (by rw [e0]; exact Ar_o11.1) (State.isArrayOf_alike hZ.alike Ar_o11.2.1) Ar_o11.2.2 hin190 hat190 (g := (mkF m 190 #[s0, s1, s2, s3, s4, s5, s6, s7, s8, s9, s10, .val (.ref o11), .val (.int i12), s13, s14, .val (.int ((i15 + (1 : Int32)) + (1 : Int32)))] [(.int (2 : Int32)), (.ref o11)])) rfl rfl (hb hby at_190) _ ?_
  show Steps p.tables e below (T0.setTop (mkF m 191 #[s0, s1, s2, s3, s4, s5, s6, s7, s8, s9, s10, .val (.ref o11), .val (.int i12), s13, s14, .val (.int ((i15 + (1 : Int32)) + (1 : Int32)))] [(.long w7)])) _
  refine XS.aload X0.here hx rfl (hb hby at_191) rfl rfl ?_
  show Steps p.tables e below (T0.setTop (mkF m 193 #[s0, s1, s2, s3, s4, s5, s6, s7, s8, s9, s10, .val (.ref o11), .val (.int i12), s13, s14, .val (.int ((i15 + (1 : Int32)) + (1 : Int32)))] [(.ref o11), (.long w7)])) _
  refine XS.iconst X0.here hx rfl (hb hby at_193) ?_
  show Steps p.tables e below (T0.setTop (mkF m 194 #[s0, s1, s2, s3, s4, s5, s6, s7, s8, s9, s10, .val (.ref o11), .val (.int i12), s13, s14, .val (.int ((i15 + (1 : Int32)) + (1 : Int32)))] [(.int (0 : Int32)), (.ref o11), (.long w7)])) _
  refine X0.laload hx (j := (0 : Int32)) (v := (.long w8)) (by rw [e0]; exact Ar_o11.1) (State.isArrayOf_alike hZ.alike Ar_o11.2.1) Ar_o11.2.2 hin194 hat194 (g := (mkF m 194 #[s0, s1, s2, s3, s4, s5, s6, s7, s8, s9, s10, .val (.ref o11), .val (.int i12), s13, s14, .val (.int ((i15 + (1 : Int32)) + (1 : Int32)))] [(.int (0 : Int32)), (.ref o11), (.long w7)])) rfl rfl (hb hby at_194) _ ?_
  show Steps p.tables e below (T0.setTop (mkF m 195 #[s0, s1, s2, s3, s4, s5, s6, s7, s8, s9, s10, .val (.ref o11), .val (.int i12), s13, s14, .val (.int ((i15 + (1 : Int32)) + (1 : Int32)))] [(.long w8), (.long w7)])) _
  refine XS.lcmp X0.here hx rfl (hb hby at_195) rfl ?_
  show Steps p.tables e below (T0.setTop (mkF m 196 #[s0, s1, s2, s3, s4, s5, s6, s7, s8, s9, s10, .val (.ref o11), .val (.int i12), s13, s14, .val (.int ((i15 + (1 : Int32)) + (1 : Int32)))] [(.int (lcmpW w7 w8))])) _
  refine XS.ifNo X0.here hx rfl (hb hby at_196) rfl ((if0 _ _).trans (feq hc196).1) ?_
  show Steps p.tables e below (T0.setTop (mkF m 199 #[s0, s1, s2, s3, s4, s5, s6, s7, s8, s9, s10, .val (.ref o11), .val (.int i12), s13, s14, .val (.int ((i15 + (1 : Int32)) + (1 : Int32)))] [])) _
  refine XS.aload X0.here hx rfl (hb hby at_199) rfl rfl ?_
  show Steps p.tables e below (T0.setTop (mkF m 201 #[s0, s1, s2, s3, s4, s5, s6, s7, s8, s9, s10, .val (.ref o11), .val (.int i12), s13, s14, .val (.int ((i15 + (1 : Int32)) + (1 : Int32)))] [(.ref o11)])) _
  refine XS.iconst X0.here hx rfl (hb hby at_201) ?_
  show Steps p.tables e below (T0.setTop (mkF m 202 #[s0, s1, s2, s3, s4, s5, s6, s7, s8, s9, s10, .val (.ref o11), .val (.int i12), s13, s14, .val (.int ((i15 + (1 : Int32)) + (1 : Int32)))] [(.int (2 : Int32)), (.ref o11)])) _
  refine X0.laload hx (j := (2 : Int32)) (v := (.long w9)) (by rw [e0]; exact Ar_o11.1) (State.isArrayOf_alike hZ.alike Ar_o11.2.1) Ar_o11.2.2 hin202 hat202 (g := (mkF m 202 #[s0, s1, s2, s3, s4, s5, s6, s7, s8, s9, s10, .val (.ref o11), .val (.int i12), s13, s14, .val (.int ((i15 + (1 : Int32)) + (1 : Int32)))] [(.int (2 : Int32)), (.ref o11)])) rfl rfl (hb hby at_202) _ ?_
  show Steps p.tables e below (T0.setTop (mkF m 203 #[s0, s1, s2, s3, s4, s5, s6, s7, s8, s9, s10, .val (.ref o11), .val (.int i12), s13, s14, .val (.int ((i15 + (1 : Int32)) + (1 : Int32)))] [(.long w9)])) _
  refine XS.aload X0.here hx rfl (hb hby at_203) rfl rfl ?_
  show Steps p.tables e below (T0.setTop (mkF m 205 #[s0, s1, s2, s3, s4, s5, s6, s7, s8, s9, s10, .val (.ref o11), .val (.int i12), s13, s14, .val (.int ((i15 + (1 : Int32)) + (1 : Int32)))] [(.ref o11), (.long w9)])) _
  refine XS.iconst X0.here hx rfl (hb hby at_205) ?_
  show Steps p.tables e below (T0.setTop (mkF m 206 #[s0, s1, s2, s3, s4, s5, s6, s7, s8, s9, s10, .val (.ref o11), .val (.int i12), s13, s14, .val (.int ((i15 + (1 : Int32)) + (1 : Int32)))] [(.int (1 : Int32)), (.ref o11), (.long w9)])) _
  refine X0.laload hx (j := (1 : Int32)) (v := (.long w10)) (by rw [e0]; exact Ar_o11.1) (State.isArrayOf_alike hZ.alike Ar_o11.2.1) Ar_o11.2.2 hin206 hat206 (g := (mkF m 206 #[s0, s1, s2, s3, s4, s5, s6, s7, s8, s9, s10, .val (.ref o11), .val (.int i12), s13, s14, .val (.int ((i15 + (1 : Int32)) + (1 : Int32)))] [(.int (1 : Int32)), (.ref o11), (.long w9)])) rfl rfl (hb hby at_206) _ ?_
  show Steps p.tables e below (T0.setTop (mkF m 207 #[s0, s1, s2, s3, s4, s5, s6, s7, s8, s9, s10, .val (.ref o11), .val (.int i12), s13, s14, .val (.int ((i15 + (1 : Int32)) + (1 : Int32)))] [(.long w10), (.long w9)])) _
  refine XS.lcmp X0.here hx rfl (hb hby at_207) rfl ?_
  show Steps p.tables e below (T0.setTop (mkF m 208 #[s0, s1, s2, s3, s4, s5, s6, s7, s8, s9, s10, .val (.ref o11), .val (.int i12), s13, s14, .val (.int ((i15 + (1 : Int32)) + (1 : Int32)))] [(.int (lcmpW w9 w10))])) _
  refine XS.ifNo X0.here hx rfl (hb hby at_208) rfl ((if0 _ _).trans (feq hc208).1) ?_
  show Steps p.tables e below (T0.setTop (mkF m 211 #[s0, s1, s2, s3, s4, s5, s6, s7, s8, s9, s10, .val (.ref o11), .val (.int i12), s13, s14, .val (.int ((i15 + (1 : Int32)) + (1 : Int32)))] [])) _
  refine XS.iload X0.here hx rfl (hb hby at_211) rfl ?_
  show Steps p.tables e below (T0.setTop (mkF m 213 #[s0, s1, s2, s3, s4, s5, s6, s7, s8, s9, s10, .val (.ref o11), .val (.int i12), s13, s14, .val (.int ((i15 + (1 : Int32)) + (1 : Int32)))] [(.int ((i15 + (1 : Int32)) + (1 : Int32)))])) _
  refine XS.iconst X0.here hx rfl (hb hby at_213) ?_
  show Steps p.tables e below (T0.setTop (mkF m 214 #[s0, s1, s2, s3, s4, s5, s6, s7, s8, s9, s10, .val (.ref o11), .val (.int i12), s13, s14, .val (.int ((i15 + (1 : Int32)) + (1 : Int32)))] [(.int (1 : Int32)), (.int ((i15 + (1 : Int32)) + (1 : Int32)))])) _
  refine XS.iadd X0.here hx rfl (hb hby at_214) rfl ?_
  show Steps p.tables e below (T0.setTop (mkF m 215 #[s0, s1, s2, s3, s4, s5, s6, s7, s8, s9, s10, .val (.ref o11), .val (.int i12), s13, s14, .val (.int ((i15 + (1 : Int32)) + (1 : Int32)))] [(.int (((i15 + (1 : Int32)) + (1 : Int32)) + (1 : Int32)))])) _
  refine XS.istore X0.here hx rfl (hb hby at_215) rfl (l' := #[s0, s1, s2, s3, s4, s5, s6, s7, s8, s9, s10, .val (.ref o11), .val (.int i12), s13, s14, .val (.int (((i15 + (1 : Int32)) + (1 : Int32)) + (1 : Int32)))]) rfl ?_
  exact kt
set_option maxHeartbeats 4000000 in
theorem own_c146 {p : Program} {l : Launch} {e : Env} {s : State} {m : MethodId} {args : Array Value} {below : List Frame} {meth : Method} {c : Code} {T0 : State} {locs : List Loc} {cells slots : Nat} {Z : State} {a0 : Array Value} {h0 : Heap} (j0 : Int64) (s2 s3 s4 s5 : Slot) (i6 : Int32) (j7 j9 : Int64) (o11 o13 : Addr) (o14 : Addr) (xs : List Int64) (f : Nat → Int64) (X0 : Stand p l e room_1 s m args below meth c T0 locs cells slots) (hx : p.tables.exec = Jvm.exec) (hZ : Z.Warmed39 s.vm) (hw : ∀ d ∈ tables_1, d.before a0 Z = true) (hby : c.code = code) (hml : c.maxLocals = 16) (hown : s.vm.findClass "com/example/tideshift/tideshift/partition/AccessCountsKeysPinLaw" = some m.cls) (e0 : T0.heap = h0) (La : own_La Z h0 o11 3 f) (hf : ∀ i, i < xs.length → f i = xs.getD i 0) (hl : xs.length ≤ 3) :
    ∃ (T' : State), Stand p l e room_1 s m args below meth c T' locs cells slots ∧ T'.heap = h0 ∧
      ∀ target, Steps p.tables e below (T'.setTop (mkF m 217 #[.val (.long j0), .second, s2, s3, s4, s5, .val (.int i6), .val (.long j7), .second, .val (.long j9), .second, .val (.ref o11), .val (.int (Int32.ofNat xs.length)), .val (.ref o13), .val (.ref o14), .val (.int (Int32.ofNat (own_d xs)))] [])) target → Steps p.tables e below (T0.setTop (mkF m 146 #[.val (.long j0), .second, s2, s3, s4, s5, .val (.int i6), .val (.long j7), .second, .val (.long j9), .second, .val (.ref o11), .val (.int (Int32.ofNat xs.length)), .val (.ref o13), .val (.ref o14), .val (.int (0 : Int32))] [])) target := by
  obtain ⟨cl, A, S, H⟩ := La
  have s0' : ¬ ((0 : Int32) < 0 ∨ cl.slots.size ≤ ((0 : Int32)).toNatClampNeg) := by rw [S]; decide
  have s1' : ¬ ((1 : Int32) < 0 ∨ cl.slots.size ≤ ((1 : Int32)).toNatClampNeg) := by rw [S]; decide
  have s2' : ¬ ((2 : Int32) < 0 ∨ cl.slots.size ≤ ((2 : Int32)).toNatClampNeg) := by rw [S]; decide
  have q0 := H 0 (by decide)
  have q1 := H 1 (by decide)
  have q2 := H 2 (by decide)
  rcases xs with _ | ⟨a, _ | ⟨b, _ | ⟨c', _ | ⟨d, r⟩⟩⟩⟩
  · have q := pdttt (.val (.long j0)) .second s2 s3 s4 s5 (.val (.int i6)) (.val (.long j7)) .second (.val (.long j9)) .second (.val (.ref o11)) _ (.val (.ref o13)) (.val (.ref o14)) (.val (.int (0 : Int32))) X0 hx hZ hw hby hml hown e0 (show ¬ ((0 : Int32) < Int32.ofNat 0) by decide) (show ¬ ((1 : Int32) < Int32.ofNat 0) by decide) (show ¬ ((2 : Int32) < Int32.ofNat 0) by decide)
    rw [show own_d [] = 0 from rfl]
    exact q
  · have q := pdftt (.val (.long j0)) .second s2 s3 s4 s5 (.val (.int i6)) (.val (.long j7)) .second (.val (.long j9)) .second (.val (.ref o11)) _ (.val (.ref o13)) (.val (.ref o14)) (0 : Int32) X0 hx hZ hw hby hml hown e0 (show ((0 : Int32) < Int32.ofNat 1) by decide) (show ¬ ((1 : Int32) < Int32.ofNat 1) by decide) (show ¬ ((2 : Int32) < Int32.ofNat 1) by decide)
    rw [show ((0 : Int32) + (1 : Int32)) = Int32.ofNat 1 by decide] at q
    rw [show own_d [a] = 1 from rfl]
    exact q
  · have fa : f 0 = a := hf 0 (by simp)
    have fb : f 1 = b := hf 1 (by simp)
    by_cases h : b = a
    · have q := pdfftt (.val (.long j0)) .second s2 s3 s4 s5 (.val (.int i6)) (.val (.long j7)) .second (.val (.long j9)) .second o11 _ (.val (.ref o13)) (.val (.ref o14)) (0 : Int32) (f 1) cl (f 0) X0 hx hZ hw hby hml hown e0 A s1' q1 s0' q0 (show ((0 : Int32) < Int32.ofNat 2) by decide) (show ((1 : Int32) < Int32.ofNat 2) by decide) ((lw_eq _ _).mpr (by rw [fb, fa]; exact h)) (show ¬ ((2 : Int32) < Int32.ofNat 2) by decide)
      rw [show ((0 : Int32) + (1 : Int32)) = Int32.ofNat 1 by decide] at q
      rw [show own_d [a, b] = 1 from if_pos h]
      exact q
    · have q := pdffft (.val (.long j0)) .second s2 s3 s4 s5 (.val (.int i6)) (.val (.long j7)) .second (.val (.long j9)) .second o11 _ (.val (.ref o13)) (.val (.ref o14)) (0 : Int32) (f 1) cl (f 0) X0 hx hZ hw hby hml hown e0 A s1' q1 s0' q0 (show ((0 : Int32) < Int32.ofNat 2) by decide) (show ((1 : Int32) < Int32.ofNat 2) by decide) (fun z => h (by have z' := (lw_eq _ _).mp z; rw [fb, fa] at z'; exact z')) (show ¬ ((2 : Int32) < Int32.ofNat 2) by decide)
      rw [show (((0 : Int32) + (1 : Int32)) + (1 : Int32)) = Int32.ofNat 2 by decide] at q
      rw [show own_d [a, b] = 2 from if_neg h]
      exact q
  · have fa : f 0 = a := hf 0 (by simp)
    have fb : f 1 = b := hf 1 (by simp)
    have fc : f 2 = c' := hf 2 (by simp)
    by_cases h : b = a
    · by_cases h1 : c' = a
      · have q := pdfftft (.val (.long j0)) .second s2 s3 s4 s5 (.val (.int i6)) (.val (.long j7)) .second (.val (.long j9)) .second o11 _ (.val (.ref o13)) (.val (.ref o14)) (0 : Int32) (f 1) cl (f 0) (f 2) (f 0) X0 hx hZ hw hby hml hown e0 A s1' q1 s0' q0 s2' q2 s0' q0 (show ((0 : Int32) < Int32.ofNat 3) by decide) (show ((1 : Int32) < Int32.ofNat 3) by decide) ((lw_eq _ _).mpr (by rw [fb, fa]; exact h)) (show ((2 : Int32) < Int32.ofNat 3) by decide) ((lw_eq _ _).mpr (by rw [fc, fa]; exact h1))
        rw [show ((0 : Int32) + (1 : Int32)) = Int32.ofNat 1 by decide] at q
        rw [show own_d [a, b, c'] = 1 from by show (if b = a then 1 else 2) + (if c' = a then 0 else if c' = b then 0 else 1) = 1; rw [if_pos h, if_pos h1]]
        exact q
      · have q := pdfftfff (.val (.long j0)) .second s2 s3 s4 s5 (.val (.int i6)) (.val (.long j7)) .second (.val (.long j9)) .second o11 _ (.val (.ref o13)) (.val (.ref o14)) (0 : Int32) (f 1) cl (f 0) (f 2) (f 0) (f 2) (f 1) X0 hx hZ hw hby hml hown e0 A s1' q1 s0' q0 s2' q2 s0' q0 s2' q2 s1' q1 (show ((0 : Int32) < Int32.ofNat 3) by decide) (show ((1 : Int32) < Int32.ofNat 3) by decide) ((lw_eq _ _).mpr (by rw [fb, fa]; exact h)) (show ((2 : Int32) < Int32.ofNat 3) by decide) (fun z => h1 (by have z' := (lw_eq _ _).mp z; rw [fc, fa] at z'; exact z')) (fun z => (fun w : c' = b => h1 (w.trans h)) (by have z' := (lw_eq _ _).mp z; rw [fc, fb] at z'; exact z'))
        rw [show (((0 : Int32) + (1 : Int32)) + (1 : Int32)) = Int32.ofNat 2 by decide] at q
        rw [show own_d [a, b, c'] = 2 from by show (if b = a then 1 else 2) + (if c' = a then 0 else if c' = b then 0 else 1) = 2; rw [if_pos h, if_neg h1, if_neg (fun w : c' = b => h1 (w.trans h))]]
        exact q
    · by_cases h1 : c' = a
      · have q := pdfffft (.val (.long j0)) .second s2 s3 s4 s5 (.val (.int i6)) (.val (.long j7)) .second (.val (.long j9)) .second o11 _ (.val (.ref o13)) (.val (.ref o14)) (0 : Int32) (f 1) cl (f 0) (f 2) (f 0) X0 hx hZ hw hby hml hown e0 A s1' q1 s0' q0 s2' q2 s0' q0 (show ((0 : Int32) < Int32.ofNat 3) by decide) (show ((1 : Int32) < Int32.ofNat 3) by decide) (fun z => h (by have z' := (lw_eq _ _).mp z; rw [fb, fa] at z'; exact z')) (show ((2 : Int32) < Int32.ofNat 3) by decide) ((lw_eq _ _).mpr (by rw [fc, fa]; exact h1))
        rw [show (((0 : Int32) + (1 : Int32)) + (1 : Int32)) = Int32.ofNat 2 by decide] at q
        rw [show own_d [a, b, c'] = 2 from by show (if b = a then 1 else 2) + (if c' = a then 0 else if c' = b then 0 else 1) = 2; rw [if_neg h, if_pos h1]]
        exact q
      · by_cases h2 : c' = b
        · have q := pdffffft (.val (.long j0)) .second s2 s3 s4 s5 (.val (.int i6)) (.val (.long j7)) .second (.val (.long j9)) .second o11 _ (.val (.ref o13)) (.val (.ref o14)) (0 : Int32) (f 1) cl (f 0) (f 2) (f 0) (f 2) (f 1) X0 hx hZ hw hby hml hown e0 A s1' q1 s0' q0 s2' q2 s0' q0 s2' q2 s1' q1 (show ((0 : Int32) < Int32.ofNat 3) by decide) (show ((1 : Int32) < Int32.ofNat 3) by decide) (fun z => h (by have z' := (lw_eq _ _).mp z; rw [fb, fa] at z'; exact z')) (show ((2 : Int32) < Int32.ofNat 3) by decide) (fun z => h1 (by have z' := (lw_eq _ _).mp z; rw [fc, fa] at z'; exact z')) ((lw_eq _ _).mpr (by rw [fc, fb]; exact h2))
          rw [show (((0 : Int32) + (1 : Int32)) + (1 : Int32)) = Int32.ofNat 2 by decide] at q
          rw [show own_d [a, b, c'] = 2 from by show (if b = a then 1 else 2) + (if c' = a then 0 else if c' = b then 0 else 1) = 2; rw [if_neg h, if_neg h1, if_pos h2]]
          exact q
        · have q := pdffffff (.val (.long j0)) .second s2 s3 s4 s5 (.val (.int i6)) (.val (.long j7)) .second (.val (.long j9)) .second o11 _ (.val (.ref o13)) (.val (.ref o14)) (0 : Int32) (f 1) cl (f 0) (f 2) (f 0) (f 2) (f 1) X0 hx hZ hw hby hml hown e0 A s1' q1 s0' q0 s2' q2 s0' q0 s2' q2 s1' q1 (show ((0 : Int32) < Int32.ofNat 3) by decide) (show ((1 : Int32) < Int32.ofNat 3) by decide) (fun z => h (by have z' := (lw_eq _ _).mp z; rw [fb, fa] at z'; exact z')) (show ((2 : Int32) < Int32.ofNat 3) by decide) (fun z => h1 (by have z' := (lw_eq _ _).mp z; rw [fc, fa] at z'; exact z')) (fun z => h2 (by have z' := (lw_eq _ _).mp z; rw [fc, fb] at z'; exact z'))
          rw [show ((((0 : Int32) + (1 : Int32)) + (1 : Int32)) + (1 : Int32)) = Int32.ofNat 3 by decide] at q
          rw [show own_d [a, b, c'] = 3 from by show (if b = a then 1 else 2) + (if c' = a then 0 else if c' = b then 0 else 1) = 3; rw [if_neg h, if_neg h1, if_neg h2]]
          exact q
  · exact absurd hl (by simp)
set_option maxRecDepth 65536 in
set_option maxHeartbeats 40000000 in
theorem pl217 {p : Program} {l : Launch} {e : Env} {s : State} {m : MethodId} {args : Array Value} {below : List Frame} {meth : Method} {c : Code} {T0 : State} {locs : List Loc} {cells slots : Nat} {Z : State} {a0 : Array Value} {h0 : Heap} (s0 : Slot) (s1 : Slot) (s2 : Slot) (s3 : Slot) (s4 : Slot) (s5 : Slot) (s6 : Slot) (s7 : Slot) (s8 : Slot) (s9 : Slot) (s10 : Slot) (s11 : Slot) (s12 : Slot) (s13 : Slot) (o14 : Addr) (i15 : Int32) (cl_o14 : Cell) (z_o14 : Int32)
    (X0 : Stand p l e room_1 s m args below meth c T0 locs cells slots) (hx : p.tables.exec = Jvm.exec) (hZ : Z.Warmed39 s.vm) (hw : ∀ d ∈ tables_1, d.before a0 Z = true) (hby : c.code = code) (hml : c.maxLocals = 16) (hown : s.vm.findClass "com/example/tideshift/tideshift/partition/AccessCountsKeysPinLaw" = some m.cls) (e0 : T0.heap = h0) (Ar_o14 : Arr Z h0 o14 cl_o14 .long) (S_o14 : cl_o14.slots.size = z_o14.toNatClampNeg) (N_o14 : ¬ z_o14 < 0) (hc222 : z_o14 = i15) :
    ∃ (T' : State), Stand p l e room_1 s m args below meth c T' locs cells slots ∧ T'.heap = h0 ∧
      ∀ target, Steps p.tables e below (T'.setTop (mkF m 227 #[s0, s1, s2, s3, s4, s5, s6, s7, s8, s9, s10, s11, s12, s13, .val (.ref o14), .val (.int i15)] [])) target → Steps p.tables e below (T0.setTop (mkF m 217 #[s0, s1, s2, s3, s4, s5, s6, s7, s8, s9, s10, s11, s12, s13, .val (.ref o14), .val (.int i15)] [])) target := by
  -- 3. LAWS

  refine ⟨T0, X0, e0, fun target kt => ?_⟩
  -- 4. STEPS
  show Steps p.tables e below (T0.setTop (mkF m 217 #[s0, s1, s2, s3, s4, s5, s6, s7, s8, s9, s10, s11, s12, s13, .val (.ref o14), .val (.int i15)] [])) _
  refine XS.aload X0.here hx rfl (hb hby at_217) rfl rfl ?_
  show Steps p.tables e below (T0.setTop (mkF m 219 #[s0, s1, s2, s3, s4, s5, s6, s7, s8, s9, s10, s11, s12, s13, .val (.ref o14), .val (.int i15)] [(.ref o14)])) _
  refine X0.arraylength hx (by rw [e0]; exact Ar_o14.1) (State.isArrayOf_alike hZ.alike Ar_o14.2.1) (g := (mkF m 219 #[s0, s1, s2, s3, s4, s5, s6, s7, s8, s9, s10, s11, s12, s13, .val (.ref o14), .val (.int i15)] [(.ref o14)])) rfl rfl (hb hby at_219) _ ?_
  rw [len_of S_o14 N_o14]
  show Steps p.tables e below (T0.setTop (mkF m 220 #[s0, s1, s2, s3, s4, s5, s6, s7, s8, s9, s10, s11, s12, s13, .val (.ref o14), .val (.int i15)] [(.int z_o14)])) _
  refine XS.iload X0.here hx rfl (hb hby at_220) rfl ?_
  show Steps p.tables e below (T0.setTop (mkF m 222 #[s0, s1, s2, s3, s4, s5, s6, s7, s8, s9, s10, s11, s12, s13, .val (.ref o14), .val (.int i15)] [(.int i15), (.int z_o14)])) _
  refine XS.icmpYes X0.here hx rfl (pc0 := 222) (pc' := 227) rfl (hb hby at_222) rfl (teq hc222).1 (by decide) (by decide) ?_
  exact kt
theorem own_nlt {i n : Nat} (h : ¬ i < n) (hi : i ≤ 255) (hn : n ≤ 255) {k : Int32} (hk : k = Int32.ofNat i) : ¬ (k < Int32.ofNat n) := by
  subst hk
  rw [Int32.lt_iff_toInt_lt, Int32.toInt_ofNat_of_lt (by omega), Int32.toInt_ofNat_of_lt (by omega)]
  omega
theorem own_getD_mem {l : List Int64} {i : Nat} (h : i < l.length) : l.getD i 0 ∈ l := by
  rw [List.getD_eq_getElem?_getD, List.getElem?_eq_getElem h]; exact List.getElem_mem h
theorem own_mem_getD {l : List Int64} {y : Int64} (h : y ∈ l) : ∃ j, j < l.length ∧ l.getD j 0 = y := by
  obtain ⟨j, hj, e⟩ := List.getElem_of_mem h
  exact ⟨j, hj, by rw [List.getD_eq_getElem?_getD, List.getElem?_eq_getElem hj]; exact e⟩
theorem pd_0_6 : parseMethodDescriptor "(J[JI)Z" = some ⟨[.long, (.array .long), .int], some .boolean⟩ := by decide +kernel
set_option maxRecDepth 65536 in
set_option maxHeartbeats 40000000 in
theorem pe227 {p : Program} {l : Launch} {e : Env} {s : State} {m : MethodId} {args : Array Value} {below : List Frame} {meth : Method} {c : Code} {T0 : State} {locs : List Loc} {cells slots : Nat} {Z : State} {a0 : Array Value} {h0 : Heap} (s0 : Slot) (s1 : Slot) (s2 : Slot) (s3 : Slot) (s4 : Slot) (s5 : Slot) (s6 : Slot) (s7 : Slot) (s8 : Slot) (s9 : Slot) (s10 : Slot) (o11 : Addr) (i12 : Int32) (s13 : Slot) (o14 : Addr) (s15 : Slot) (cl_o14 : Cell) (z_o14 : Int32) (w5 : Int64) (xs : List Int64) (f : Nat → Int64) (sz : Nat) (g : Nat → Int64) (n0 : Nat)
    (X0 : Stand p l e room_1 s m args below meth c T0 locs cells slots) (hx : p.tables.exec = Jvm.exec) (hZ : Z.Warmed39 s.vm) (hw : ∀ d ∈ tables_1, d.before a0 Z = true) (hby : c.code = code) (hml : c.maxLocals = 16) (hown : s.vm.findClass "com/example/tideshift/tideshift/partition/AccessCountsKeysPinLaw" = some m.cls) (e0 : T0.heap = h0) (Z0 : n0 ≤ h0.size) (N0 : Fr n0 locs) (hl : xs.length ≤ 3) (hsz : sz ≤ 3) (La : own_La Z h0 o11 3 f) (Lr : own_La Z h0 o14 sz g) (hi : i12 = Int32.ofNat xs.length) (hmem : ∃ i, i < xs.length ∧ f i = w5) (hcl : cells ≤ 32) (hsl : slots ≤ 256) (Ar_o14 : Arr Z h0 o14 cl_o14 .long) (S_o14 : cl_o14.slots.size = z_o14.toNatClampNeg) (N_o14 : ¬ z_o14 < 0) (hin236 : ¬ ((0 : Int32) < 0 ∨ cl_o14.slots.size ≤ ((0 : Int32)).toNatClampNeg)) (hat236 : cl_o14.slots[((0 : Int32)).toNatClampNeg]? = some (.long w5)) (hc230 : (0 : Int32) < z_o14) :
    ∃ (T' : State) (locs' : List Loc), Stand p l e room_1 s m args below meth c T' locs' cells slots ∧ T'.heap = h0 ∧ Fr n0 locs' ∧
      ∀ target, Steps p.tables e below (T'.setTop (mkF m 249 #[s0, s1, s2, s3, s4, s5, s6, s7, s8, s9, s10, .val (.ref o11), .val (.int i12), s13, .val (.ref o14), s15] [])) target → Steps p.tables e below (T0.setTop (mkF m 227 #[s0, s1, s2, s3, s4, s5, s6, s7, s8, s9, s10, .val (.ref o11), .val (.int i12), s13, .val (.ref o14), s15] [])) target := by
  -- 3. LAWS
  -- pc 241: com/example/tideshift/tideshift/partition/AccessCountsKeysPinLaw.inE by its contract rm9
  obtain ⟨_, _, ⟨T6, L6, k6, n6⟩, -, X6, ⟨Lc6, hQ6, l6, y6, z6⟩, st6⟩ := Jvm.LawKit.callS X0 hx (y := (⟨"com/example/tideshift/tideshift/partition/AccessCountsKeysPinLaw", "inE", "(J[JI)Z"⟩ : MethodName)) hown (mvT hZ (hw _ (List.mem_of_getElem? (i := 49) rfl))) (mvT hZ (hw _ (List.mem_of_getElem? (i := 50) rfl))) (mvT hZ (hw _ (List.mem_of_getElem? (i := 51) rfl))) (mvT hZ (hw _ (List.mem_of_getElem? (i := 52) rfl))) (by decide) (backOf (W := 0) (rm9 l Z a0 hw [] w5 o11 i12 xs.length f h0 n0 Z0 hl hi La hmem) hZ (hw _ (List.mem_of_getElem? (i := 52) rfl)) (hw _ (List.mem_of_getElem? (i := 51) rfl)) (by decide) (by decide)) (g := (mkF m 241 #[s0, s1, s2, s3, s4, s5, s6, s7, s8, s9, s10, .val (.ref o11), .val (.int i12), s13, .val (.ref o14), s15] [(.int i12), (.ref o11), (.long w5)])) rfl (by rw [hml]; rfl) (argsL := [(.long w5), (.ref o11), (.int i12)]) (rest := []) (lenOf pd_0_6 rfl) rfl (by show 2 * 0 + _ ≤ _; exact Nat.le_of_eq rfl) (hb hby at_241) (fun _ _ => ⟨rfl, e0, (by show cells + 0 ≤ 32; exact hcl), (by show slots + 0 ≤ 256; exact hsl)⟩)
  dsimp only [Pt.U, Pt.locs, Pt.cells, Pt.slots] at X6 l6 y6 z6 st6 hQ6
  subst l6 y6 z6
  obtain ⟨rfl, N6q, E6q⟩ := hQ6
  have K6q : Keep h0 T6.heap [] := by rw [E6q]; exact Keep.refl _ _
  have N6 := Fr.app N0 N6q
  refine ⟨T6, _, X6, E6q, N6, fun target kt => ?_⟩
  -- 4. STEPS
  show Steps p.tables e below (T0.setTop (mkF m 227 #[s0, s1, s2, s3, s4, s5, s6, s7, s8, s9, s10, .val (.ref o11), .val (.int i12), s13, .val (.ref o14), s15] [])) _
  refine XS.aload X0.here hx rfl (hb hby at_227) rfl rfl ?_
  show Steps p.tables e below (T0.setTop (mkF m 229 #[s0, s1, s2, s3, s4, s5, s6, s7, s8, s9, s10, .val (.ref o11), .val (.int i12), s13, .val (.ref o14), s15] [(.ref o14)])) _
  refine X0.arraylength hx (by rw [e0]; exact Ar_o14.1) (State.isArrayOf_alike hZ.alike Ar_o14.2.1) (g := (mkF m 229 #[s0, s1, s2, s3, s4, s5, s6, s7, s8, s9, s10, .val (.ref o11), .val (.int i12), s13, .val (.ref o14), s15] [(.ref o14)])) rfl rfl (hb hby at_229) _ ?_
  rw [len_of S_o14 N_o14]
  show Steps p.tables e below (T0.setTop (mkF m 230 #[s0, s1, s2, s3, s4, s5, s6, s7, s8, s9, s10, .val (.ref o11), .val (.int i12), s13, .val (.ref o14), s15] [(.int z_o14)])) _
  refine XS.ifNo X0.here hx rfl (hb hby at_230) rfl ((if0 _ _).trans (tlt hc230).2.2.2) ?_
  show Steps p.tables e below (T0.setTop (mkF m 233 #[s0, s1, s2, s3, s4, s5, s6, s7, s8, s9, s10, .val (.ref o11), .val (.int i12), s13, .val (.ref o14), s15] [])) _
  refine XS.aload X0.here hx rfl (hb hby at_233) rfl rfl ?_
  show Steps p.tables e below (T0.setTop (mkF m 235 #[s0, s1, s2, s3, s4, s5, s6, s7, s8, s9, s10, .val (.ref o11), .val (.int i12), s13, .val (.ref o14), s15] [(.ref o14)])) _
  refine XS.iconst X0.here hx rfl (hb hby at_235) ?_
  show Steps p.tables e below (T0.setTop (mkF m 236 #[s0, s1, s2, s3, s4, s5, s6, s7, s8, s9, s10, .val (.ref o11), .val (.int i12), s13, .val (.ref o14), s15] [(.int (0 : Int32)), (.ref o14)])) _
  refine X0.laload hx (j := (0 : Int32)) (v := (.long w5)) (by rw [e0]; exact Ar_o14.1) (State.isArrayOf_alike hZ.alike Ar_o14.2.1) Ar_o14.2.2 hin236 hat236 (g := (mkF m 236 #[s0, s1, s2, s3, s4, s5, s6, s7, s8, s9, s10, .val (.ref o11), .val (.int i12), s13, .val (.ref o14), s15] [(.int (0 : Int32)), (.ref o14)])) rfl rfl (hb hby at_236) _ ?_
  show Steps p.tables e below (T0.setTop (mkF m 237 #[s0, s1, s2, s3, s4, s5, s6, s7, s8, s9, s10, .val (.ref o11), .val (.int i12), s13, .val (.ref o14), s15] [(.long w5)])) _
  refine XS.aload X0.here hx rfl (hb hby at_237) rfl rfl ?_
  show Steps p.tables e below (T0.setTop (mkF m 239 #[s0, s1, s2, s3, s4, s5, s6, s7, s8, s9, s10, .val (.ref o11), .val (.int i12), s13, .val (.ref o14), s15] [(.ref o11), (.long w5)])) _
  refine XS.iload X0.here hx rfl (hb hby at_239) rfl ?_
  show Steps p.tables e below (T0.setTop (mkF m 241 #[s0, s1, s2, s3, s4, s5, s6, s7, s8, s9, s10, .val (.ref o11), .val (.int i12), s13, .val (.ref o14), s15] [(.int i12), (.ref o11), (.long w5)])) _
  refine st6 _ ?_
  show Steps p.tables e below (T6.setTop (mkF m 244 #[s0, s1, s2, s3, s4, s5, s6, s7, s8, s9, s10, .val (.ref o11), .val (.int i12), s13, .val (.ref o14), s15] [(.int (1 : Int32))])) _
  refine XS.ifYes X6.here hx rfl (pc0 := 244) (pc' := 249) rfl (hb hby at_244) rfl ((if0 _ _).trans (feq ((by decide) : ¬ ((1 : Int32) = (0 : Int32)))).2) (by decide) (by decide) ?_
  exact kt
set_option maxRecDepth 65536 in
set_option maxHeartbeats 40000000 in
theorem pf227 {p : Program} {l : Launch} {e : Env} {s : State} {m : MethodId} {args : Array Value} {below : List Frame} {meth : Method} {c : Code} {T0 : State} {locs : List Loc} {cells slots : Nat} {Z : State} {a0 : Array Value} {h0 : Heap} (s0 : Slot) (s1 : Slot) (s2 : Slot) (s3 : Slot) (s4 : Slot) (s5 : Slot) (s6 : Slot) (s7 : Slot) (s8 : Slot) (s9 : Slot) (s10 : Slot) (s11 : Slot) (s12 : Slot) (s13 : Slot) (o14 : Addr) (s15 : Slot) (cl_o14 : Cell) (z_o14 : Int32)
    (X0 : Stand p l e room_1 s m args below meth c T0 locs cells slots) (hx : p.tables.exec = Jvm.exec) (hZ : Z.Warmed39 s.vm) (hw : ∀ d ∈ tables_1, d.before a0 Z = true) (hby : c.code = code) (hml : c.maxLocals = 16) (hown : s.vm.findClass "com/example/tideshift/tideshift/partition/AccessCountsKeysPinLaw" = some m.cls) (e0 : T0.heap = h0) (Ar_o14 : Arr Z h0 o14 cl_o14 .long) (S_o14 : cl_o14.slots.size = z_o14.toNatClampNeg) (N_o14 : ¬ z_o14 < 0) (hc230 : ¬ ((0 : Int32) < z_o14)) :
    ∃ (T' : State), Stand p l e room_1 s m args below meth c T' locs cells slots ∧ T'.heap = h0 ∧
      ∀ target, Steps p.tables e below (T'.setTop (mkF m 249 #[s0, s1, s2, s3, s4, s5, s6, s7, s8, s9, s10, s11, s12, s13, .val (.ref o14), s15] [])) target → Steps p.tables e below (T0.setTop (mkF m 227 #[s0, s1, s2, s3, s4, s5, s6, s7, s8, s9, s10, s11, s12, s13, .val (.ref o14), s15] [])) target := by
  -- 3. LAWS

  refine ⟨T0, X0, e0, fun target kt => ?_⟩
  -- 4. STEPS
  show Steps p.tables e below (T0.setTop (mkF m 227 #[s0, s1, s2, s3, s4, s5, s6, s7, s8, s9, s10, s11, s12, s13, .val (.ref o14), s15] [])) _
  refine XS.aload X0.here hx rfl (hb hby at_227) rfl rfl ?_
  show Steps p.tables e below (T0.setTop (mkF m 229 #[s0, s1, s2, s3, s4, s5, s6, s7, s8, s9, s10, s11, s12, s13, .val (.ref o14), s15] [(.ref o14)])) _
  refine X0.arraylength hx (by rw [e0]; exact Ar_o14.1) (State.isArrayOf_alike hZ.alike Ar_o14.2.1) (g := (mkF m 229 #[s0, s1, s2, s3, s4, s5, s6, s7, s8, s9, s10, s11, s12, s13, .val (.ref o14), s15] [(.ref o14)])) rfl rfl (hb hby at_229) _ ?_
  rw [len_of S_o14 N_o14]
  show Steps p.tables e below (T0.setTop (mkF m 230 #[s0, s1, s2, s3, s4, s5, s6, s7, s8, s9, s10, s11, s12, s13, .val (.ref o14), s15] [(.int z_o14)])) _
  refine XS.ifYes X0.here hx rfl (pc0 := 230) (pc' := 249) rfl (hb hby at_230) rfl ((if0 _ _).trans (flt hc230).2.2.2) (by decide) (by decide) ?_
  exact kt
set_option maxHeartbeats 4000000 in
theorem own_c227 {p : Program} {l : Launch} {e : Env} {s : State} {m : MethodId} {args : Array Value} {below : List Frame} {meth : Method} {c : Code} {T0 : State} {locs : List Loc} {cells slots : Nat} {Z : State} {a0 : Array Value} {h0 : Heap} (j0 : Int64) (s2 s3 s4 s5 : Slot) (i6 : Int32) (j7 j9 : Int64) (o11 o13 : Addr) (o14 : Addr) (s15 : Slot) (xs : List Int64) (f : Nat → Int64) (sz : Nat) (g : Nat → Int64) (n0 : Nat) (X0 : Stand p l e room_1 s m args below meth c T0 locs cells slots) (hx : p.tables.exec = Jvm.exec) (hZ : Z.Warmed39 s.vm) (hw : ∀ d ∈ tables_1, d.before a0 Z = true) (hby : c.code = code) (hml : c.maxLocals = 16) (hown : s.vm.findClass "com/example/tideshift/tideshift/partition/AccessCountsKeysPinLaw" = some m.cls) (e0 : T0.heap = h0) (Z0 : n0 ≤ h0.size) (N0 : Fr n0 locs) (hl : xs.length ≤ 3) (hsz : sz ≤ 3) (La : own_La Z h0 o11 3 f) (Lr : own_La Z h0 o14 sz g) (hm : ∀ i, i < sz → ∃ j, j < xs.length ∧ f j = g i) (hcl : cells ≤ 32) (hsl : slots ≤ 256) :
    ∃ (T' : State) (locs' : List Loc), Stand p l e room_1 s m args below meth c T' locs' cells slots ∧ T'.heap = h0 ∧ Fr n0 locs' ∧
      ∀ target, Steps p.tables e below (T'.setTop (mkF m 249 #[.val (.long j0), .second, s2, s3, s4, s5, .val (.int i6), .val (.long j7), .second, .val (.long j9), .second, .val (.ref o11), .val (.int (Int32.ofNat xs.length)), .val (.ref o13), .val (.ref o14), s15] [])) target → Steps p.tables e below (T0.setTop (mkF m 227 #[.val (.long j0), .second, s2, s3, s4, s5, .val (.int i6), .val (.long j7), .second, .val (.long j9), .second, .val (.ref o11), .val (.int (Int32.ofNat xs.length)), .val (.ref o13), .val (.ref o14), s15] [])) target := by
  obtain ⟨cr, A, S, H⟩ := id Lr
  obtain ⟨z1, z2⟩ := own_i16 (n := sz) (by omega)
  have S' : cr.slots.size = (Int32.ofNat sz).toNatClampNeg := by rw [S, z2]
  by_cases h : 0 < sz
  · have hn : ((0 : Int32)).toNatClampNeg = 0 := by decide
    have p0 : ¬ (0 : Int32) < 0 := by decide
    exact pe227 (.val (.long j0)) .second s2 s3 s4 s5 (.val (.int i6)) (.val (.long j7)) .second (.val (.long j9)) .second o11 (Int32.ofNat xs.length) (.val (.ref o13)) o14 s15 cr (Int32.ofNat sz) (g 0) xs f sz g n0 X0 hx hZ hw hby hml hown e0 Z0 N0 hl hsz La Lr rfl (hm 0 h) hcl hsl A S' z1 (by rw [S, hn]; exact fun z => z.elim p0 (fun z => by omega)) (by rw [hn]; exact H 0 h) (own_gt h hsz (by decide))
  · obtain ⟨T', X', e', st⟩ := pf227 (.val (.long j0)) .second s2 s3 s4 s5 (.val (.int i6)) (.val (.long j7)) .second (.val (.long j9)) .second (.val (.ref o11)) (.val (.int (Int32.ofNat xs.length))) (.val (.ref o13)) o14 s15 cr (Int32.ofNat sz) X0 hx hZ hw hby hml hown e0 A S' z1 (own_nlt h (by decide) (by omega) (by decide))
    exact ⟨T', locs, X', e', N0, st⟩
set_option maxRecDepth 65536 in
set_option maxHeartbeats 40000000 in
theorem pe249 {p : Program} {l : Launch} {e : Env} {s : State} {m : MethodId} {args : Array Value} {below : List Frame} {meth : Method} {c : Code} {T0 : State} {locs : List Loc} {cells slots : Nat} {Z : State} {a0 : Array Value} {h0 : Heap} (s0 : Slot) (s1 : Slot) (s2 : Slot) (s3 : Slot) (s4 : Slot) (s5 : Slot) (s6 : Slot) (s7 : Slot) (s8 : Slot) (s9 : Slot) (s10 : Slot) (o11 : Addr) (i12 : Int32) (s13 : Slot) (o14 : Addr) (s15 : Slot) (cl_o14 : Cell) (z_o14 : Int32) (w5 : Int64) (xs : List Int64) (f : Nat → Int64) (sz : Nat) (g : Nat → Int64) (n0 : Nat)
    (X0 : Stand p l e room_1 s m args below meth c T0 locs cells slots) (hx : p.tables.exec = Jvm.exec) (hZ : Z.Warmed39 s.vm) (hw : ∀ d ∈ tables_1, d.before a0 Z = true) (hby : c.code = code) (hml : c.maxLocals = 16) (hown : s.vm.findClass "com/example/tideshift/tideshift/partition/AccessCountsKeysPinLaw" = some m.cls) (e0 : T0.heap = h0) (Z0 : n0 ≤ h0.size) (N0 : Fr n0 locs) (hl : xs.length ≤ 3) (hsz : sz ≤ 3) (La : own_La Z h0 o11 3 f) (Lr : own_La Z h0 o14 sz g) (hi : i12 = Int32.ofNat xs.length) (hmem : ∃ i, i < xs.length ∧ f i = w5) (hcl : cells ≤ 32) (hsl : slots ≤ 256) (Ar_o14 : Arr Z h0 o14 cl_o14 .long) (S_o14 : cl_o14.slots.size = z_o14.toNatClampNeg) (N_o14 : ¬ z_o14 < 0) (hin259 : ¬ ((1 : Int32) < 0 ∨ cl_o14.slots.size ≤ ((1 : Int32)).toNatClampNeg)) (hat259 : cl_o14.slots[((1 : Int32)).toNatClampNeg]? = some (.long w5)) (hc253 : (1 : Int32) < z_o14) :
    ∃ (T' : State) (locs' : List Loc), Stand p l e room_1 s m args below meth c T' locs' cells slots ∧ T'.heap = h0 ∧ Fr n0 locs' ∧
      ∀ target, Steps p.tables e below (T'.setTop (mkF m 272 #[s0, s1, s2, s3, s4, s5, s6, s7, s8, s9, s10, .val (.ref o11), .val (.int i12), s13, .val (.ref o14), s15] [])) target → Steps p.tables e below (T0.setTop (mkF m 249 #[s0, s1, s2, s3, s4, s5, s6, s7, s8, s9, s10, .val (.ref o11), .val (.int i12), s13, .val (.ref o14), s15] [])) target := by
  -- 3. LAWS
  -- pc 264: com/example/tideshift/tideshift/partition/AccessCountsKeysPinLaw.inE by its contract rm9
  obtain ⟨_, _, ⟨T6, L6, k6, n6⟩, -, X6, ⟨Lc6, hQ6, l6, y6, z6⟩, st6⟩ := Jvm.LawKit.callS X0 hx (y := (⟨"com/example/tideshift/tideshift/partition/AccessCountsKeysPinLaw", "inE", "(J[JI)Z"⟩ : MethodName)) hown (mvT hZ (hw _ (List.mem_of_getElem? (i := 49) rfl))) (mvT hZ (hw _ (List.mem_of_getElem? (i := 50) rfl))) (mvT hZ (hw _ (List.mem_of_getElem? (i := 51) rfl))) (mvT hZ (hw _ (List.mem_of_getElem? (i := 52) rfl))) (by decide) (backOf (W := 0) (rm9 l Z a0 hw [] w5 o11 i12 xs.length f h0 n0 Z0 hl hi La hmem) hZ (hw _ (List.mem_of_getElem? (i := 52) rfl)) (hw _ (List.mem_of_getElem? (i := 51) rfl)) (by decide) (by decide)) (g := (mkF m 264 #[s0, s1, s2, s3, s4, s5, s6, s7, s8, s9, s10, .val (.ref o11), .val (.int i12), s13, .val (.ref o14), s15] [(.int i12), (.ref o11), (.long w5)])) rfl (by rw [hml]; rfl) (argsL := [(.long w5), (.ref o11), (.int i12)]) (rest := []) (lenOf pd_0_6 rfl) rfl (by show 2 * 0 + _ ≤ _; exact Nat.le_of_eq rfl) (hb hby at_264) (fun _ _ => ⟨rfl, e0, (by show cells + 0 ≤ 32; exact hcl), (by show slots + 0 ≤ 256; exact hsl)⟩)
  dsimp only [Pt.U, Pt.locs, Pt.cells, Pt.slots] at X6 l6 y6 z6 st6 hQ6
  subst l6 y6 z6
  obtain ⟨rfl, N6q, E6q⟩ := hQ6
  have K6q : Keep h0 T6.heap [] := by rw [E6q]; exact Keep.refl _ _
  have N6 := Fr.app N0 N6q
  refine ⟨T6, _, X6, E6q, N6, fun target kt => ?_⟩
  -- 4. STEPS
  show Steps p.tables e below (T0.setTop (mkF m 249 #[s0, s1, s2, s3, s4, s5, s6, s7, s8, s9, s10, .val (.ref o11), .val (.int i12), s13, .val (.ref o14), s15] [])) _
  refine XS.aload X0.here hx rfl (hb hby at_249) rfl rfl ?_
  show Steps p.tables e below (T0.setTop (mkF m 251 #[s0, s1, s2, s3, s4, s5, s6, s7, s8, s9, s10, .val (.ref o11), .val (.int i12), s13, .val (.ref o14), s15] [(.ref o14)])) _
  refine X0.arraylength hx (by rw [e0]; exact Ar_o14.1) (State.isArrayOf_alike hZ.alike Ar_o14.2.1) (g := (mkF m 251 #[s0, s1, s2, s3, s4, s5, s6, s7, s8, s9, s10, .val (.ref o11), .val (.int i12), s13, .val (.ref o14), s15] [(.ref o14)])) rfl rfl (hb hby at_251) _ ?_
  rw [len_of S_o14 N_o14]
  show Steps p.tables e below (T0.setTop (mkF m 252 #[s0, s1, s2, s3, s4, s5, s6, s7, s8, s9, s10, .val (.ref o11), .val (.int i12), s13, .val (.ref o14), s15] [(.int z_o14)])) _
  refine XS.iconst X0.here hx rfl (hb hby at_252) ?_
  show Steps p.tables e below (T0.setTop (mkF m 253 #[s0, s1, s2, s3, s4, s5, s6, s7, s8, s9, s10, .val (.ref o11), .val (.int i12), s13, .val (.ref o14), s15] [(.int (1 : Int32)), (.int z_o14)])) _
  refine XS.icmpNo X0.here hx rfl (hb hby at_253) rfl (tlt hc253).2.2.2 ?_
  show Steps p.tables e below (T0.setTop (mkF m 256 #[s0, s1, s2, s3, s4, s5, s6, s7, s8, s9, s10, .val (.ref o11), .val (.int i12), s13, .val (.ref o14), s15] [])) _
  refine XS.aload X0.here hx rfl (hb hby at_256) rfl rfl ?_
  show Steps p.tables e below (T0.setTop (mkF m 258 #[s0, s1, s2, s3, s4, s5, s6, s7, s8, s9, s10, .val (.ref o11), .val (.int i12), s13, .val (.ref o14), s15] [(.ref o14)])) _
  refine XS.iconst X0.here hx rfl (hb hby at_258) ?_
  show Steps p.tables e below (T0.setTop (mkF m 259 #[s0, s1, s2, s3, s4, s5, s6, s7, s8, s9, s10, .val (.ref o11), .val (.int i12), s13, .val (.ref o14), s15] [(.int (1 : Int32)), (.ref o14)])) _
  refine X0.laload hx (j := (1 : Int32)) (v := (.long w5)) (by rw [e0]; exact Ar_o14.1) (State.isArrayOf_alike hZ.alike Ar_o14.2.1) Ar_o14.2.2 hin259 hat259 (g := (mkF m 259 #[s0, s1, s2, s3, s4, s5, s6, s7, s8, s9, s10, .val (.ref o11), .val (.int i12), s13, .val (.ref o14), s15] [(.int (1 : Int32)), (.ref o14)])) rfl rfl (hb hby at_259) _ ?_
  show Steps p.tables e below (T0.setTop (mkF m 260 #[s0, s1, s2, s3, s4, s5, s6, s7, s8, s9, s10, .val (.ref o11), .val (.int i12), s13, .val (.ref o14), s15] [(.long w5)])) _
  refine XS.aload X0.here hx rfl (hb hby at_260) rfl rfl ?_
  show Steps p.tables e below (T0.setTop (mkF m 262 #[s0, s1, s2, s3, s4, s5, s6, s7, s8, s9, s10, .val (.ref o11), .val (.int i12), s13, .val (.ref o14), s15] [(.ref o11), (.long w5)])) _
  refine XS.iload X0.here hx rfl (hb hby at_262) rfl ?_
  show Steps p.tables e below (T0.setTop (mkF m 264 #[s0, s1, s2, s3, s4, s5, s6, s7, s8, s9, s10, .val (.ref o11), .val (.int i12), s13, .val (.ref o14), s15] [(.int i12), (.ref o11), (.long w5)])) _
  refine st6 _ ?_
  show Steps p.tables e below (T6.setTop (mkF m 267 #[s0, s1, s2, s3, s4, s5, s6, s7, s8, s9, s10, .val (.ref o11), .val (.int i12), s13, .val (.ref o14), s15] [(.int (1 : Int32))])) _
  refine XS.ifYes X6.here hx rfl (pc0 := 267) (pc' := 272) rfl (hb hby at_267) rfl ((if0 _ _).trans (feq ((by decide) : ¬ ((1 : Int32) = (0 : Int32)))).2) (by decide) (by decide) ?_
  exact kt
set_option maxRecDepth 65536 in
set_option maxHeartbeats 40000000 in
theorem pf249 {p : Program} {l : Launch} {e : Env} {s : State} {m : MethodId} {args : Array Value} {below : List Frame} {meth : Method} {c : Code} {T0 : State} {locs : List Loc} {cells slots : Nat} {Z : State} {a0 : Array Value} {h0 : Heap} (s0 : Slot) (s1 : Slot) (s2 : Slot) (s3 : Slot) (s4 : Slot) (s5 : Slot) (s6 : Slot) (s7 : Slot) (s8 : Slot) (s9 : Slot) (s10 : Slot) (s11 : Slot) (s12 : Slot) (s13 : Slot) (o14 : Addr) (s15 : Slot) (cl_o14 : Cell) (z_o14 : Int32)
    (X0 : Stand p l e room_1 s m args below meth c T0 locs cells slots) (hx : p.tables.exec = Jvm.exec) (hZ : Z.Warmed39 s.vm) (hw : ∀ d ∈ tables_1, d.before a0 Z = true) (hby : c.code = code) (hml : c.maxLocals = 16) (hown : s.vm.findClass "com/example/tideshift/tideshift/partition/AccessCountsKeysPinLaw" = some m.cls) (e0 : T0.heap = h0) (Ar_o14 : Arr Z h0 o14 cl_o14 .long) (S_o14 : cl_o14.slots.size = z_o14.toNatClampNeg) (N_o14 : ¬ z_o14 < 0) (hc253 : ¬ ((1 : Int32) < z_o14)) :
    ∃ (T' : State), Stand p l e room_1 s m args below meth c T' locs cells slots ∧ T'.heap = h0 ∧
      ∀ target, Steps p.tables e below (T'.setTop (mkF m 272 #[s0, s1, s2, s3, s4, s5, s6, s7, s8, s9, s10, s11, s12, s13, .val (.ref o14), s15] [])) target → Steps p.tables e below (T0.setTop (mkF m 249 #[s0, s1, s2, s3, s4, s5, s6, s7, s8, s9, s10, s11, s12, s13, .val (.ref o14), s15] [])) target := by
  -- 3. LAWS

  refine ⟨T0, X0, e0, fun target kt => ?_⟩
  -- 4. STEPS
  show Steps p.tables e below (T0.setTop (mkF m 249 #[s0, s1, s2, s3, s4, s5, s6, s7, s8, s9, s10, s11, s12, s13, .val (.ref o14), s15] [])) _
  refine XS.aload X0.here hx rfl (hb hby at_249) rfl rfl ?_
  show Steps p.tables e below (T0.setTop (mkF m 251 #[s0, s1, s2, s3, s4, s5, s6, s7, s8, s9, s10, s11, s12, s13, .val (.ref o14), s15] [(.ref o14)])) _
  refine X0.arraylength hx (by rw [e0]; exact Ar_o14.1) (State.isArrayOf_alike hZ.alike Ar_o14.2.1) (g := (mkF m 251 #[s0, s1, s2, s3, s4, s5, s6, s7, s8, s9, s10, s11, s12, s13, .val (.ref o14), s15] [(.ref o14)])) rfl rfl (hb hby at_251) _ ?_
  rw [len_of S_o14 N_o14]
  show Steps p.tables e below (T0.setTop (mkF m 252 #[s0, s1, s2, s3, s4, s5, s6, s7, s8, s9, s10, s11, s12, s13, .val (.ref o14), s15] [(.int z_o14)])) _
  refine XS.iconst X0.here hx rfl (hb hby at_252) ?_
  show Steps p.tables e below (T0.setTop (mkF m 253 #[s0, s1, s2, s3, s4, s5, s6, s7, s8, s9, s10, s11, s12, s13, .val (.ref o14), s15] [(.int (1 : Int32)), (.int z_o14)])) _
  refine XS.icmpYes X0.here hx rfl (pc0 := 253) (pc' := 272) rfl (hb hby at_253) rfl (flt hc253).2.2.2 (by decide) (by decide) ?_
  exact kt
set_option maxHeartbeats 4000000 in
theorem own_c249 {p : Program} {l : Launch} {e : Env} {s : State} {m : MethodId} {args : Array Value} {below : List Frame} {meth : Method} {c : Code} {T0 : State} {locs : List Loc} {cells slots : Nat} {Z : State} {a0 : Array Value} {h0 : Heap} (j0 : Int64) (s2 s3 s4 s5 : Slot) (i6 : Int32) (j7 j9 : Int64) (o11 o13 : Addr) (o14 : Addr) (s15 : Slot) (xs : List Int64) (f : Nat → Int64) (sz : Nat) (g : Nat → Int64) (n0 : Nat) (X0 : Stand p l e room_1 s m args below meth c T0 locs cells slots) (hx : p.tables.exec = Jvm.exec) (hZ : Z.Warmed39 s.vm) (hw : ∀ d ∈ tables_1, d.before a0 Z = true) (hby : c.code = code) (hml : c.maxLocals = 16) (hown : s.vm.findClass "com/example/tideshift/tideshift/partition/AccessCountsKeysPinLaw" = some m.cls) (e0 : T0.heap = h0) (Z0 : n0 ≤ h0.size) (N0 : Fr n0 locs) (hl : xs.length ≤ 3) (hsz : sz ≤ 3) (La : own_La Z h0 o11 3 f) (Lr : own_La Z h0 o14 sz g) (hm : ∀ i, i < sz → ∃ j, j < xs.length ∧ f j = g i) (hcl : cells ≤ 32) (hsl : slots ≤ 256) :
    ∃ (T' : State) (locs' : List Loc), Stand p l e room_1 s m args below meth c T' locs' cells slots ∧ T'.heap = h0 ∧ Fr n0 locs' ∧
      ∀ target, Steps p.tables e below (T'.setTop (mkF m 272 #[.val (.long j0), .second, s2, s3, s4, s5, .val (.int i6), .val (.long j7), .second, .val (.long j9), .second, .val (.ref o11), .val (.int (Int32.ofNat xs.length)), .val (.ref o13), .val (.ref o14), s15] [])) target → Steps p.tables e below (T0.setTop (mkF m 249 #[.val (.long j0), .second, s2, s3, s4, s5, .val (.int i6), .val (.long j7), .second, .val (.long j9), .second, .val (.ref o11), .val (.int (Int32.ofNat xs.length)), .val (.ref o13), .val (.ref o14), s15] [])) target := by
  obtain ⟨cr, A, S, H⟩ := id Lr
  obtain ⟨z1, z2⟩ := own_i16 (n := sz) (by omega)
  have S' : cr.slots.size = (Int32.ofNat sz).toNatClampNeg := by rw [S, z2]
  by_cases h : 1 < sz
  · have hn : ((1 : Int32)).toNatClampNeg = 1 := by decide
    have p0 : ¬ (1 : Int32) < 0 := by decide
    exact pe249 (.val (.long j0)) .second s2 s3 s4 s5 (.val (.int i6)) (.val (.long j7)) .second (.val (.long j9)) .second o11 (Int32.ofNat xs.length) (.val (.ref o13)) o14 s15 cr (Int32.ofNat sz) (g 1) xs f sz g n0 X0 hx hZ hw hby hml hown e0 Z0 N0 hl hsz La Lr rfl (hm 1 h) hcl hsl A S' z1 (by rw [S, hn]; exact fun z => z.elim p0 (fun z => by omega)) (by rw [hn]; exact H 1 h) (own_gt h hsz (by decide))
  · obtain ⟨T', X', e', st⟩ := pf249 (.val (.long j0)) .second s2 s3 s4 s5 (.val (.int i6)) (.val (.long j7)) .second (.val (.long j9)) .second (.val (.ref o11)) (.val (.int (Int32.ofNat xs.length))) (.val (.ref o13)) o14 s15 cr (Int32.ofNat sz) X0 hx hZ hw hby hml hown e0 A S' z1 (own_nlt h (by decide) (by omega) (by decide))
    exact ⟨T', locs, X', e', N0, st⟩
set_option maxRecDepth 65536 in
set_option maxHeartbeats 40000000 in
theorem pe272 {p : Program} {l : Launch} {e : Env} {s : State} {m : MethodId} {args : Array Value} {below : List Frame} {meth : Method} {c : Code} {T0 : State} {locs : List Loc} {cells slots : Nat} {Z : State} {a0 : Array Value} {h0 : Heap} (s0 : Slot) (s1 : Slot) (s2 : Slot) (s3 : Slot) (s4 : Slot) (s5 : Slot) (s6 : Slot) (s7 : Slot) (s8 : Slot) (s9 : Slot) (s10 : Slot) (o11 : Addr) (i12 : Int32) (s13 : Slot) (o14 : Addr) (s15 : Slot) (cl_o14 : Cell) (z_o14 : Int32) (w5 : Int64) (xs : List Int64) (f : Nat → Int64) (sz : Nat) (g : Nat → Int64) (n0 : Nat)
    (X0 : Stand p l e room_1 s m args below meth c T0 locs cells slots) (hx : p.tables.exec = Jvm.exec) (hZ : Z.Warmed39 s.vm) (hw : ∀ d ∈ tables_1, d.before a0 Z = true) (hby : c.code = code) (hml : c.maxLocals = 16) (hown : s.vm.findClass "com/example/tideshift/tideshift/partition/AccessCountsKeysPinLaw" = some m.cls) (e0 : T0.heap = h0) (Z0 : n0 ≤ h0.size) (N0 : Fr n0 locs) (hl : xs.length ≤ 3) (hsz : sz ≤ 3) (La : own_La Z h0 o11 3 f) (Lr : own_La Z h0 o14 sz g) (hi : i12 = Int32.ofNat xs.length) (hmem : ∃ i, i < xs.length ∧ f i = w5) (hcl : cells ≤ 32) (hsl : slots ≤ 256) (Ar_o14 : Arr Z h0 o14 cl_o14 .long) (S_o14 : cl_o14.slots.size = z_o14.toNatClampNeg) (N_o14 : ¬ z_o14 < 0) (hin282 : ¬ ((2 : Int32) < 0 ∨ cl_o14.slots.size ≤ ((2 : Int32)).toNatClampNeg)) (hat282 : cl_o14.slots[((2 : Int32)).toNatClampNeg]? = some (.long w5)) (hc276 : (2 : Int32) < z_o14) :
    ∃ (T' : State) (locs' : List Loc), Stand p l e room_1 s m args below meth c T' locs' cells slots ∧ T'.heap = h0 ∧ Fr n0 locs' ∧
      ∀ target, Steps p.tables e below (T'.setTop (mkF m 295 #[s0, s1, s2, s3, s4, s5, s6, s7, s8, s9, s10, .val (.ref o11), .val (.int i12), s13, .val (.ref o14), s15] [])) target → Steps p.tables e below (T0.setTop (mkF m 272 #[s0, s1, s2, s3, s4, s5, s6, s7, s8, s9, s10, .val (.ref o11), .val (.int i12), s13, .val (.ref o14), s15] [])) target := by
  -- 3. LAWS
  -- pc 287: com/example/tideshift/tideshift/partition/AccessCountsKeysPinLaw.inE by its contract rm9
  obtain ⟨_, _, ⟨T6, L6, k6, n6⟩, -, X6, ⟨Lc6, hQ6, l6, y6, z6⟩, st6⟩ := Jvm.LawKit.callS X0 hx (y := (⟨"com/example/tideshift/tideshift/partition/AccessCountsKeysPinLaw", "inE", "(J[JI)Z"⟩ : MethodName)) hown (mvT hZ (hw _ (List.mem_of_getElem? (i := 49) rfl))) (mvT hZ (hw _ (List.mem_of_getElem? (i := 50) rfl))) (mvT hZ (hw _ (List.mem_of_getElem? (i := 51) rfl))) (mvT hZ (hw _ (List.mem_of_getElem? (i := 52) rfl))) (by decide) (backOf (W := 0) (rm9 l Z a0 hw [] w5 o11 i12 xs.length f h0 n0 Z0 hl hi La hmem) hZ (hw _ (List.mem_of_getElem? (i := 52) rfl)) (hw _ (List.mem_of_getElem? (i := 51) rfl)) (by decide) (by decide)) (g := (mkF m 287 #[s0, s1, s2, s3, s4, s5, s6, s7, s8, s9, s10, .val (.ref o11), .val (.int i12), s13, .val (.ref o14), s15] [(.int i12), (.ref o11), (.long w5)])) rfl (by rw [hml]; rfl) (argsL := [(.long w5), (.ref o11), (.int i12)]) (rest := []) (lenOf pd_0_6 rfl) rfl (by show 2 * 0 + _ ≤ _; exact Nat.le_of_eq rfl) (hb hby at_287) (fun _ _ => ⟨rfl, e0, (by show cells + 0 ≤ 32; exact hcl), (by show slots + 0 ≤ 256; exact hsl)⟩)
  dsimp only [Pt.U, Pt.locs, Pt.cells, Pt.slots] at X6 l6 y6 z6 st6 hQ6
  subst l6 y6 z6
  obtain ⟨rfl, N6q, E6q⟩ := hQ6
  have K6q : Keep h0 T6.heap [] := by rw [E6q]; exact Keep.refl _ _
  have N6 := Fr.app N0 N6q
  refine ⟨T6, _, X6, E6q, N6, fun target kt => ?_⟩
  -- 4. STEPS
  show Steps p.tables e below (T0.setTop (mkF m 272 #[s0, s1, s2, s3, s4, s5, s6, s7, s8, s9, s10, .val (.ref o11), .val (.int i12), s13, .val (.ref o14), s15] [])) _
  refine XS.aload X0.here hx rfl (hb hby at_272) rfl rfl ?_
  show Steps p.tables e below (T0.setTop (mkF m 274 #[s0, s1, s2, s3, s4, s5, s6, s7, s8, s9, s10, .val (.ref o11), .val (.int i12), s13, .val (.ref o14), s15] [(.ref o14)])) _
  refine X0.arraylength hx (by rw [e0]; exact Ar_o14.1) (State.isArrayOf_alike hZ.alike Ar_o14.2.1) (g := (mkF m 274 #[s0, s1, s2, s3, s4, s5, s6, s7, s8, s9, s10, .val (.ref o11), .val (.int i12), s13, .val (.ref o14), s15] [(.ref o14)])) rfl rfl (hb hby at_274) _ ?_
  rw [len_of S_o14 N_o14]
  show Steps p.tables e below (T0.setTop (mkF m 275 #[s0, s1, s2, s3, s4, s5, s6, s7, s8, s9, s10, .val (.ref o11), .val (.int i12), s13, .val (.ref o14), s15] [(.int z_o14)])) _
  refine XS.iconst X0.here hx rfl (hb hby at_275) ?_
  show Steps p.tables e below (T0.setTop (mkF m 276 #[s0, s1, s2, s3, s4, s5, s6, s7, s8, s9, s10, .val (.ref o11), .val (.int i12), s13, .val (.ref o14), s15] [(.int (2 : Int32)), (.int z_o14)])) _
  refine XS.icmpNo X0.here hx rfl (hb hby at_276) rfl (tlt hc276).2.2.2 ?_
  show Steps p.tables e below (T0.setTop (mkF m 279 #[s0, s1, s2, s3, s4, s5, s6, s7, s8, s9, s10, .val (.ref o11), .val (.int i12), s13, .val (.ref o14), s15] [])) _
  refine XS.aload X0.here hx rfl (hb hby at_279) rfl rfl ?_
  show Steps p.tables e below (T0.setTop (mkF m 281 #[s0, s1, s2, s3, s4, s5, s6, s7, s8, s9, s10, .val (.ref o11), .val (.int i12), s13, .val (.ref o14), s15] [(.ref o14)])) _
  refine XS.iconst X0.here hx rfl (hb hby at_281) ?_
  show Steps p.tables e below (T0.setTop (mkF m 282 #[s0, s1, s2, s3, s4, s5, s6, s7, s8, s9, s10, .val (.ref o11), .val (.int i12), s13, .val (.ref o14), s15] [(.int (2 : Int32)), (.ref o14)])) _
  refine X0.laload hx (j := (2 : Int32)) (v := (.long w5)) (by rw [e0]; exact Ar_o14.1) (State.isArrayOf_alike hZ.alike Ar_o14.2.1) Ar_o14.2.2 hin282 hat282 (g := (mkF m 282 #[s0, s1, s2, s3, s4, s5, s6, s7, s8, s9, s10, .val (.ref o11), .val (.int i12), s13, .val (.ref o14), s15] [(.int (2 : Int32)), (.ref o14)])) rfl rfl (hb hby at_282) _ ?_
  show Steps p.tables e below (T0.setTop (mkF m 283 #[s0, s1, s2, s3, s4, s5, s6, s7, s8, s9, s10, .val (.ref o11), .val (.int i12), s13, .val (.ref o14), s15] [(.long w5)])) _
  refine XS.aload X0.here hx rfl (hb hby at_283) rfl rfl ?_
  show Steps p.tables e below (T0.setTop (mkF m 285 #[s0, s1, s2, s3, s4, s5, s6, s7, s8, s9, s10, .val (.ref o11), .val (.int i12), s13, .val (.ref o14), s15] [(.ref o11), (.long w5)])) _
  refine XS.iload X0.here hx rfl (hb hby at_285) rfl ?_
  show Steps p.tables e below (T0.setTop (mkF m 287 #[s0, s1, s2, s3, s4, s5, s6, s7, s8, s9, s10, .val (.ref o11), .val (.int i12), s13, .val (.ref o14), s15] [(.int i12), (.ref o11), (.long w5)])) _
  refine st6 _ ?_
  show Steps p.tables e below (T6.setTop (mkF m 290 #[s0, s1, s2, s3, s4, s5, s6, s7, s8, s9, s10, .val (.ref o11), .val (.int i12), s13, .val (.ref o14), s15] [(.int (1 : Int32))])) _
  refine XS.ifYes X6.here hx rfl (pc0 := 290) (pc' := 295) rfl (hb hby at_290) rfl ((if0 _ _).trans (feq ((by decide) : ¬ ((1 : Int32) = (0 : Int32)))).2) (by decide) (by decide) ?_
  exact kt
set_option maxRecDepth 65536 in
set_option maxHeartbeats 40000000 in
theorem pf272 {p : Program} {l : Launch} {e : Env} {s : State} {m : MethodId} {args : Array Value} {below : List Frame} {meth : Method} {c : Code} {T0 : State} {locs : List Loc} {cells slots : Nat} {Z : State} {a0 : Array Value} {h0 : Heap} (s0 : Slot) (s1 : Slot) (s2 : Slot) (s3 : Slot) (s4 : Slot) (s5 : Slot) (s6 : Slot) (s7 : Slot) (s8 : Slot) (s9 : Slot) (s10 : Slot) (s11 : Slot) (s12 : Slot) (s13 : Slot) (o14 : Addr) (s15 : Slot) (cl_o14 : Cell) (z_o14 : Int32)
    (X0 : Stand p l e room_1 s m args below meth c T0 locs cells slots) (hx : p.tables.exec = Jvm.exec) (hZ : Z.Warmed39 s.vm) (hw : ∀ d ∈ tables_1, d.before a0 Z = true) (hby : c.code = code) (hml : c.maxLocals = 16) (hown : s.vm.findClass "com/example/tideshift/tideshift/partition/AccessCountsKeysPinLaw" = some m.cls) (e0 : T0.heap = h0) (Ar_o14 : Arr Z h0 o14 cl_o14 .long) (S_o14 : cl_o14.slots.size = z_o14.toNatClampNeg) (N_o14 : ¬ z_o14 < 0) (hc276 : ¬ ((2 : Int32) < z_o14)) :
    ∃ (T' : State), Stand p l e room_1 s m args below meth c T' locs cells slots ∧ T'.heap = h0 ∧
      ∀ target, Steps p.tables e below (T'.setTop (mkF m 295 #[s0, s1, s2, s3, s4, s5, s6, s7, s8, s9, s10, s11, s12, s13, .val (.ref o14), s15] [])) target → Steps p.tables e below (T0.setTop (mkF m 272 #[s0, s1, s2, s3, s4, s5, s6, s7, s8, s9, s10, s11, s12, s13, .val (.ref o14), s15] [])) target := by
  -- 3. LAWS

  refine ⟨T0, X0, e0, fun target kt => ?_⟩
  -- 4. STEPS
  show Steps p.tables e below (T0.setTop (mkF m 272 #[s0, s1, s2, s3, s4, s5, s6, s7, s8, s9, s10, s11, s12, s13, .val (.ref o14), s15] [])) _
  refine XS.aload X0.here hx rfl (hb hby at_272) rfl rfl ?_
  show Steps p.tables e below (T0.setTop (mkF m 274 #[s0, s1, s2, s3, s4, s5, s6, s7, s8, s9, s10, s11, s12, s13, .val (.ref o14), s15] [(.ref o14)])) _
  refine X0.arraylength hx (by rw [e0]; exact Ar_o14.1) (State.isArrayOf_alike hZ.alike Ar_o14.2.1) (g := (mkF m 274 #[s0, s1, s2, s3, s4, s5, s6, s7, s8, s9, s10, s11, s12, s13, .val (.ref o14), s15] [(.ref o14)])) rfl rfl (hb hby at_274) _ ?_
  rw [len_of S_o14 N_o14]
  show Steps p.tables e below (T0.setTop (mkF m 275 #[s0, s1, s2, s3, s4, s5, s6, s7, s8, s9, s10, s11, s12, s13, .val (.ref o14), s15] [(.int z_o14)])) _
  refine XS.iconst X0.here hx rfl (hb hby at_275) ?_
  show Steps p.tables e below (T0.setTop (mkF m 276 #[s0, s1, s2, s3, s4, s5, s6, s7, s8, s9, s10, s11, s12, s13, .val (.ref o14), s15] [(.int (2 : Int32)), (.int z_o14)])) _
  refine XS.icmpYes X0.here hx rfl (pc0 := 276) (pc' := 295) rfl (hb hby at_276) rfl (flt hc276).2.2.2 (by decide) (by decide) ?_
  exact kt
set_option maxHeartbeats 4000000 in
theorem own_c272 {p : Program} {l : Launch} {e : Env} {s : State} {m : MethodId} {args : Array Value} {below : List Frame} {meth : Method} {c : Code} {T0 : State} {locs : List Loc} {cells slots : Nat} {Z : State} {a0 : Array Value} {h0 : Heap} (j0 : Int64) (s2 s3 s4 s5 : Slot) (i6 : Int32) (j7 j9 : Int64) (o11 o13 : Addr) (o14 : Addr) (s15 : Slot) (xs : List Int64) (f : Nat → Int64) (sz : Nat) (g : Nat → Int64) (n0 : Nat) (X0 : Stand p l e room_1 s m args below meth c T0 locs cells slots) (hx : p.tables.exec = Jvm.exec) (hZ : Z.Warmed39 s.vm) (hw : ∀ d ∈ tables_1, d.before a0 Z = true) (hby : c.code = code) (hml : c.maxLocals = 16) (hown : s.vm.findClass "com/example/tideshift/tideshift/partition/AccessCountsKeysPinLaw" = some m.cls) (e0 : T0.heap = h0) (Z0 : n0 ≤ h0.size) (N0 : Fr n0 locs) (hl : xs.length ≤ 3) (hsz : sz ≤ 3) (La : own_La Z h0 o11 3 f) (Lr : own_La Z h0 o14 sz g) (hm : ∀ i, i < sz → ∃ j, j < xs.length ∧ f j = g i) (hcl : cells ≤ 32) (hsl : slots ≤ 256) :
    ∃ (T' : State) (locs' : List Loc), Stand p l e room_1 s m args below meth c T' locs' cells slots ∧ T'.heap = h0 ∧ Fr n0 locs' ∧
      ∀ target, Steps p.tables e below (T'.setTop (mkF m 295 #[.val (.long j0), .second, s2, s3, s4, s5, .val (.int i6), .val (.long j7), .second, .val (.long j9), .second, .val (.ref o11), .val (.int (Int32.ofNat xs.length)), .val (.ref o13), .val (.ref o14), s15] [])) target → Steps p.tables e below (T0.setTop (mkF m 272 #[.val (.long j0), .second, s2, s3, s4, s5, .val (.int i6), .val (.long j7), .second, .val (.long j9), .second, .val (.ref o11), .val (.int (Int32.ofNat xs.length)), .val (.ref o13), .val (.ref o14), s15] [])) target := by
  obtain ⟨cr, A, S, H⟩ := id Lr
  obtain ⟨z1, z2⟩ := own_i16 (n := sz) (by omega)
  have S' : cr.slots.size = (Int32.ofNat sz).toNatClampNeg := by rw [S, z2]
  by_cases h : 2 < sz
  · have hn : ((2 : Int32)).toNatClampNeg = 2 := by decide
    have p0 : ¬ (2 : Int32) < 0 := by decide
    exact pe272 (.val (.long j0)) .second s2 s3 s4 s5 (.val (.int i6)) (.val (.long j7)) .second (.val (.long j9)) .second o11 (Int32.ofNat xs.length) (.val (.ref o13)) o14 s15 cr (Int32.ofNat sz) (g 2) xs f sz g n0 X0 hx hZ hw hby hml hown e0 Z0 N0 hl hsz La Lr rfl (hm 2 h) hcl hsl A S' z1 (by rw [S, hn]; exact fun z => z.elim p0 (fun z => by omega)) (by rw [hn]; exact H 2 h) (own_gt h hsz (by decide))
  · obtain ⟨T', X', e', st⟩ := pf272 (.val (.long j0)) .second s2 s3 s4 s5 (.val (.int i6)) (.val (.long j7)) .second (.val (.long j9)) .second (.val (.ref o11)) (.val (.int (Int32.ofNat xs.length))) (.val (.ref o13)) o14 s15 cr (Int32.ofNat sz) X0 hx hZ hw hby hml hown e0 A S' z1 (own_nlt h (by decide) (by omega) (by decide))
    exact ⟨T', locs, X', e', N0, st⟩
theorem pd_0_7 : parseMethodDescriptor "(J[J)Z" = some ⟨[.long, (.array .long)], some .boolean⟩ := by decide +kernel
set_option maxRecDepth 65536 in
set_option maxHeartbeats 40000000 in
theorem pe295 {p : Program} {l : Launch} {e : Env} {s : State} {m : MethodId} {args : Array Value} {below : List Frame} {meth : Method} {c : Code} {T0 : State} {locs : List Loc} {cells slots : Nat} {Z : State} {a0 : Array Value} {h0 : Heap} (s0 : Slot) (s1 : Slot) (s2 : Slot) (s3 : Slot) (s4 : Slot) (s5 : Slot) (s6 : Slot) (s7 : Slot) (s8 : Slot) (s9 : Slot) (s10 : Slot) (o11 : Addr) (i12 : Int32) (s13 : Slot) (o14 : Addr) (s15 : Slot) (w5 : Int64) (cl_o11 : Cell) (xs : List Int64) (f : Nat → Int64) (sz : Nat) (g : Nat → Int64) (n0 : Nat)
    (X0 : Stand p l e room_1 s m args below meth c T0 locs cells slots) (hx : p.tables.exec = Jvm.exec) (hZ : Z.Warmed39 s.vm) (hw : ∀ d ∈ tables_1, d.before a0 Z = true) (hby : c.code = code) (hml : c.maxLocals = 16) (hown : s.vm.findClass "com/example/tideshift/tideshift/partition/AccessCountsKeysPinLaw" = some m.cls) (e0 : T0.heap = h0) (Z0 : n0 ≤ h0.size) (N0 : Fr n0 locs) (hl : xs.length ≤ 3) (hsz : sz ≤ 3) (La : own_La Z h0 o11 3 f) (Lr : own_La Z h0 o14 sz g) (hmem : ∃ i, i < sz ∧ g i = w5) (hcl : cells ≤ 32) (hsl : slots ≤ 256) (Ar_o11 : Arr Z h0 o11 cl_o11 .long) (hin303 : ¬ ((0 : Int32) < 0 ∨ cl_o11.slots.size ≤ ((0 : Int32)).toNatClampNeg)) (hat303 : cl_o11.slots[((0 : Int32)).toNatClampNeg]? = some (.long w5)) (hc297 : (0 : Int32) < i12) :
    ∃ (T' : State) (locs' : List Loc), Stand p l e room_1 s m args below meth c T' locs' cells slots ∧ T'.heap = h0 ∧ Fr n0 locs' ∧
      ∀ target, Steps p.tables e below (T'.setTop (mkF m 314 #[s0, s1, s2, s3, s4, s5, s6, s7, s8, s9, s10, .val (.ref o11), .val (.int i12), s13, .val (.ref o14), s15] [])) target → Steps p.tables e below (T0.setTop (mkF m 295 #[s0, s1, s2, s3, s4, s5, s6, s7, s8, s9, s10, .val (.ref o11), .val (.int i12), s13, .val (.ref o14), s15] [])) target := by
  -- 3. LAWS
  -- pc 306: com/example/tideshift/tideshift/partition/AccessCountsKeysPinLaw.inR by its contract rm10
  obtain ⟨_, _, ⟨T6, L6, k6, n6⟩, -, X6, ⟨Lc6, hQ6, l6, y6, z6⟩, st6⟩ := Jvm.LawKit.callS X0 hx (y := (⟨"com/example/tideshift/tideshift/partition/AccessCountsKeysPinLaw", "inR", "(J[J)Z"⟩ : MethodName)) hown (mvT hZ (hw _ (List.mem_of_getElem? (i := 53) rfl))) (mvT hZ (hw _ (List.mem_of_getElem? (i := 54) rfl))) (mvT hZ (hw _ (List.mem_of_getElem? (i := 51) rfl))) (mvT hZ (hw _ (List.mem_of_getElem? (i := 55) rfl))) (by decide) (backOf (W := 0) (rm10 l Z a0 hw [] w5 o14 sz g h0 n0 Z0 hsz Lr hmem) hZ (hw _ (List.mem_of_getElem? (i := 55) rfl)) (hw _ (List.mem_of_getElem? (i := 51) rfl)) (by decide) (by decide)) (g := (mkF m 306 #[s0, s1, s2, s3, s4, s5, s6, s7, s8, s9, s10, .val (.ref o11), .val (.int i12), s13, .val (.ref o14), s15] [(.ref o14), (.long w5)])) rfl (by rw [hml]; rfl) (argsL := [(.long w5), (.ref o14)]) (rest := []) (lenOf pd_0_7 rfl) rfl (by show 2 * 0 + _ ≤ _; exact Nat.le_of_eq rfl) (hb hby at_306) (fun _ _ => ⟨rfl, e0, (by show cells + 0 ≤ 32; exact hcl), (by show slots + 0 ≤ 256; exact hsl)⟩)
  dsimp only [Pt.U, Pt.locs, Pt.cells, Pt.slots] at X6 l6 y6 z6 st6 hQ6
  subst l6 y6 z6
  obtain ⟨rfl, N6q, E6q⟩ := hQ6
  have K6q : Keep h0 T6.heap [] := by rw [E6q]; exact Keep.refl _ _
  have N6 := Fr.app N0 N6q
  refine ⟨T6, _, X6, E6q, N6, fun target kt => ?_⟩
  -- 4. STEPS
  show Steps p.tables e below (T0.setTop (mkF m 295 #[s0, s1, s2, s3, s4, s5, s6, s7, s8, s9, s10, .val (.ref o11), .val (.int i12), s13, .val (.ref o14), s15] [])) _
  refine XS.iload X0.here hx rfl (hb hby at_295) rfl ?_
  show Steps p.tables e below (T0.setTop (mkF m 297 #[s0, s1, s2, s3, s4, s5, s6, s7, s8, s9, s10, .val (.ref o11), .val (.int i12), s13, .val (.ref o14), s15] [(.int i12)])) _
  refine XS.ifNo X0.here hx rfl (hb hby at_297) rfl ((if0 _ _).trans (tlt hc297).2.2.2) ?_
  show Steps p.tables e below (T0.setTop (mkF m 300 #[s0, s1, s2, s3, s4, s5, s6, s7, s8, s9, s10, .val (.ref o11), .val (.int i12), s13, .val (.ref o14), s15] [])) _
  refine XS.aload X0.here hx rfl (hb hby at_300) rfl rfl ?_
  show Steps p.tables e below (T0.setTop (mkF m 302 #[s0, s1, s2, s3, s4, s5, s6, s7, s8, s9, s10, .val (.ref o11), .val (.int i12), s13, .val (.ref o14), s15] [(.ref o11)])) _
  refine XS.iconst X0.here hx rfl (hb hby at_302) ?_
  show Steps p.tables e below (T0.setTop (mkF m 303 #[s0, s1, s2, s3, s4, s5, s6, s7, s8, s9, s10, .val (.ref o11), .val (.int i12), s13, .val (.ref o14), s15] [(.int (0 : Int32)), (.ref o11)])) _
  refine X0.laload hx (j := (0 : Int32)) (v := (.long w5)) (by rw [e0]; exact Ar_o11.1) (State.isArrayOf_alike hZ.alike Ar_o11.2.1) Ar_o11.2.2 hin303 hat303 (g := (mkF m 303 #[s0, s1, s2, s3, s4, s5, s6, s7, s8, s9, s10, .val (.ref o11), .val (.int i12), s13, .val (.ref o14), s15] [(.int (0 : Int32)), (.ref o11)])) rfl rfl (hb hby at_303) _ ?_
  show Steps p.tables e below (T0.setTop (mkF m 304 #[s0, s1, s2, s3, s4, s5, s6, s7, s8, s9, s10, .val (.ref o11), .val (.int i12), s13, .val (.ref o14), s15] [(.long w5)])) _
  refine XS.aload X0.here hx rfl (hb hby at_304) rfl rfl ?_
  show Steps p.tables e below (T0.setTop (mkF m 306 #[s0, s1, s2, s3, s4, s5, s6, s7, s8, s9, s10, .val (.ref o11), .val (.int i12), s13, .val (.ref o14), s15] [(.ref o14), (.long w5)])) _
  refine st6 _ ?_
  show Steps p.tables e below (T6.setTop (mkF m 309 #[s0, s1, s2, s3, s4, s5, s6, s7, s8, s9, s10, .val (.ref o11), .val (.int i12), s13, .val (.ref o14), s15] [(.int (1 : Int32))])) _
  refine XS.ifYes X6.here hx rfl (pc0 := 309) (pc' := 314) rfl (hb hby at_309) rfl ((if0 _ _).trans (feq ((by decide) : ¬ ((1 : Int32) = (0 : Int32)))).2) (by decide) (by decide) ?_
  exact kt
set_option maxRecDepth 65536 in
set_option maxHeartbeats 40000000 in
theorem pf295 {p : Program} {l : Launch} {e : Env} {s : State} {m : MethodId} {args : Array Value} {below : List Frame} {meth : Method} {c : Code} {T0 : State} {locs : List Loc} {cells slots : Nat} {Z : State} {a0 : Array Value} {h0 : Heap} (s0 : Slot) (s1 : Slot) (s2 : Slot) (s3 : Slot) (s4 : Slot) (s5 : Slot) (s6 : Slot) (s7 : Slot) (s8 : Slot) (s9 : Slot) (s10 : Slot) (s11 : Slot) (i12 : Int32) (s13 : Slot) (s14 : Slot) (s15 : Slot)
    (X0 : Stand p l e room_1 s m args below meth c T0 locs cells slots) (hx : p.tables.exec = Jvm.exec) (hZ : Z.Warmed39 s.vm) (hw : ∀ d ∈ tables_1, d.before a0 Z = true) (hby : c.code = code) (hml : c.maxLocals = 16) (hown : s.vm.findClass "com/example/tideshift/tideshift/partition/AccessCountsKeysPinLaw" = some m.cls) (e0 : T0.heap = h0) (hc297 : ¬ ((0 : Int32) < i12)) :
    ∃ (T' : State), Stand p l e room_1 s m args below meth c T' locs cells slots ∧ T'.heap = h0 ∧
      ∀ target, Steps p.tables e below (T'.setTop (mkF m 314 #[s0, s1, s2, s3, s4, s5, s6, s7, s8, s9, s10, s11, .val (.int i12), s13, s14, s15] [])) target → Steps p.tables e below (T0.setTop (mkF m 295 #[s0, s1, s2, s3, s4, s5, s6, s7, s8, s9, s10, s11, .val (.int i12), s13, s14, s15] [])) target := by
  -- 3. LAWS

  refine ⟨T0, X0, e0, fun target kt => ?_⟩
  -- 4. STEPS
  show Steps p.tables e below (T0.setTop (mkF m 295 #[s0, s1, s2, s3, s4, s5, s6, s7, s8, s9, s10, s11, .val (.int i12), s13, s14, s15] [])) _
  refine XS.iload X0.here hx rfl (hb hby at_295) rfl ?_
  show Steps p.tables e below (T0.setTop (mkF m 297 #[s0, s1, s2, s3, s4, s5, s6, s7, s8, s9, s10, s11, .val (.int i12), s13, s14, s15] [(.int i12)])) _
  refine XS.ifYes X0.here hx rfl (pc0 := 297) (pc' := 314) rfl (hb hby at_297) rfl ((if0 _ _).trans (flt hc297).2.2.2) (by decide) (by decide) ?_
  exact kt
set_option maxHeartbeats 4000000 in
theorem own_c295 {p : Program} {l : Launch} {e : Env} {s : State} {m : MethodId} {args : Array Value} {below : List Frame} {meth : Method} {c : Code} {T0 : State} {locs : List Loc} {cells slots : Nat} {Z : State} {a0 : Array Value} {h0 : Heap} (j0 : Int64) (s2 s3 s4 s5 : Slot) (i6 : Int32) (j7 j9 : Int64) (o11 o13 : Addr) (o14 : Addr) (s15 : Slot) (xs : List Int64) (f : Nat → Int64) (sz : Nat) (g : Nat → Int64) (n0 : Nat) (X0 : Stand p l e room_1 s m args below meth c T0 locs cells slots) (hx : p.tables.exec = Jvm.exec) (hZ : Z.Warmed39 s.vm) (hw : ∀ d ∈ tables_1, d.before a0 Z = true) (hby : c.code = code) (hml : c.maxLocals = 16) (hown : s.vm.findClass "com/example/tideshift/tideshift/partition/AccessCountsKeysPinLaw" = some m.cls) (e0 : T0.heap = h0) (Z0 : n0 ≤ h0.size) (N0 : Fr n0 locs) (hl : xs.length ≤ 3) (hsz : sz ≤ 3) (La : own_La Z h0 o11 3 f) (Lr : own_La Z h0 o14 sz g) (hm : ∀ i, i < xs.length → ∃ j, j < sz ∧ g j = f i) (hcl : cells ≤ 32) (hsl : slots ≤ 256) :
    ∃ (T' : State) (locs' : List Loc), Stand p l e room_1 s m args below meth c T' locs' cells slots ∧ T'.heap = h0 ∧ Fr n0 locs' ∧
      ∀ target, Steps p.tables e below (T'.setTop (mkF m 314 #[.val (.long j0), .second, s2, s3, s4, s5, .val (.int i6), .val (.long j7), .second, .val (.long j9), .second, .val (.ref o11), .val (.int (Int32.ofNat xs.length)), .val (.ref o13), .val (.ref o14), s15] [])) target → Steps p.tables e below (T0.setTop (mkF m 295 #[.val (.long j0), .second, s2, s3, s4, s5, .val (.int i6), .val (.long j7), .second, .val (.long j9), .second, .val (.ref o11), .val (.int (Int32.ofNat xs.length)), .val (.ref o13), .val (.ref o14), s15] [])) target := by
  obtain ⟨cr, A, S, H⟩ := id La
  by_cases h : 0 < xs.length
  · exact pe295 (.val (.long j0)) .second s2 s3 s4 s5 (.val (.int i6)) (.val (.long j7)) .second (.val (.long j9)) .second o11 (Int32.ofNat xs.length) (.val (.ref o13)) o14 s15 (f 0) cr xs f sz g n0 X0 hx hZ hw hby hml hown e0 Z0 N0 hl hsz La Lr (hm 0 h) hcl hsl A (by rw [S]; decide) (H 0 (by decide)) (own_gt h hl (by decide))
  · obtain ⟨T', X', e', st⟩ := pf295 (.val (.long j0)) .second s2 s3 s4 s5 (.val (.int i6)) (.val (.long j7)) .second (.val (.long j9)) .second (.val (.ref o11)) (Int32.ofNat xs.length) (.val (.ref o13)) (.val (.ref o14)) s15 X0 hx hZ hw hby hml hown e0 (own_nlt h (by decide) (by omega) (by decide))
    exact ⟨T', locs, X', e', N0, st⟩
set_option maxRecDepth 65536 in
set_option maxHeartbeats 40000000 in
theorem pe314 {p : Program} {l : Launch} {e : Env} {s : State} {m : MethodId} {args : Array Value} {below : List Frame} {meth : Method} {c : Code} {T0 : State} {locs : List Loc} {cells slots : Nat} {Z : State} {a0 : Array Value} {h0 : Heap} (s0 : Slot) (s1 : Slot) (s2 : Slot) (s3 : Slot) (s4 : Slot) (s5 : Slot) (s6 : Slot) (s7 : Slot) (s8 : Slot) (s9 : Slot) (s10 : Slot) (o11 : Addr) (i12 : Int32) (s13 : Slot) (o14 : Addr) (s15 : Slot) (w5 : Int64) (cl_o11 : Cell) (xs : List Int64) (f : Nat → Int64) (sz : Nat) (g : Nat → Int64) (n0 : Nat)
    (X0 : Stand p l e room_1 s m args below meth c T0 locs cells slots) (hx : p.tables.exec = Jvm.exec) (hZ : Z.Warmed39 s.vm) (hw : ∀ d ∈ tables_1, d.before a0 Z = true) (hby : c.code = code) (hml : c.maxLocals = 16) (hown : s.vm.findClass "com/example/tideshift/tideshift/partition/AccessCountsKeysPinLaw" = some m.cls) (e0 : T0.heap = h0) (Z0 : n0 ≤ h0.size) (N0 : Fr n0 locs) (hl : xs.length ≤ 3) (hsz : sz ≤ 3) (La : own_La Z h0 o11 3 f) (Lr : own_La Z h0 o14 sz g) (hmem : ∃ i, i < sz ∧ g i = w5) (hcl : cells ≤ 32) (hsl : slots ≤ 256) (Ar_o11 : Arr Z h0 o11 cl_o11 .long) (hin323 : ¬ ((1 : Int32) < 0 ∨ cl_o11.slots.size ≤ ((1 : Int32)).toNatClampNeg)) (hat323 : cl_o11.slots[((1 : Int32)).toNatClampNeg]? = some (.long w5)) (hc317 : (1 : Int32) < i12) :
    ∃ (T' : State) (locs' : List Loc), Stand p l e room_1 s m args below meth c T' locs' cells slots ∧ T'.heap = h0 ∧ Fr n0 locs' ∧
      ∀ target, Steps p.tables e below (T'.setTop (mkF m 334 #[s0, s1, s2, s3, s4, s5, s6, s7, s8, s9, s10, .val (.ref o11), .val (.int i12), s13, .val (.ref o14), s15] [])) target → Steps p.tables e below (T0.setTop (mkF m 314 #[s0, s1, s2, s3, s4, s5, s6, s7, s8, s9, s10, .val (.ref o11), .val (.int i12), s13, .val (.ref o14), s15] [])) target := by
  -- 3. LAWS
  -- pc 326: com/example/tideshift/tideshift/partition/AccessCountsKeysPinLaw.inR by its contract rm10
  obtain ⟨_, _, ⟨T6, L6, k6, n6⟩, -, X6, ⟨Lc6, hQ6, l6, y6, z6⟩, st6⟩ := Jvm.LawKit.callS X0 hx (y := (⟨"com/example/tideshift/tideshift/partition/AccessCountsKeysPinLaw", "inR", "(J[J)Z"⟩ : MethodName)) hown (mvT hZ (hw _ (List.mem_of_getElem? (i := 53) rfl))) (mvT hZ (hw _ (List.mem_of_getElem? (i := 54) rfl))) (mvT hZ (hw _ (List.mem_of_getElem? (i := 51) rfl))) (mvT hZ (hw _ (List.mem_of_getElem? (i := 55) rfl))) (by decide) (backOf (W := 0) (rm10 l Z a0 hw [] w5 o14 sz g h0 n0 Z0 hsz Lr hmem) hZ (hw _ (List.mem_of_getElem? (i := 55) rfl)) (hw _ (List.mem_of_getElem? (i := 51) rfl)) (by decide) (by decide)) (g := (mkF m 326 #[s0, s1, s2, s3, s4, s5, s6, s7, s8, s9, s10, .val (.ref o11), .val (.int i12), s13, .val (.ref o14), s15] [(.ref o14), (.long w5)])) rfl (by rw [hml]; rfl) (argsL := [(.long w5), (.ref o14)]) (rest := []) (lenOf pd_0_7 rfl) rfl (by show 2 * 0 + _ ≤ _; exact Nat.le_of_eq rfl) (hb hby at_326) (fun _ _ => ⟨rfl, e0, (by show cells + 0 ≤ 32; exact hcl), (by show slots + 0 ≤ 256; exact hsl)⟩)
  dsimp only [Pt.U, Pt.locs, Pt.cells, Pt.slots] at X6 l6 y6 z6 st6 hQ6
  subst l6 y6 z6
  obtain ⟨rfl, N6q, E6q⟩ := hQ6
  have K6q : Keep h0 T6.heap [] := by rw [E6q]; exact Keep.refl _ _
  have N6 := Fr.app N0 N6q
  refine ⟨T6, _, X6, E6q, N6, fun target kt => ?_⟩
  -- 4. STEPS
  show Steps p.tables e below (T0.setTop (mkF m 314 #[s0, s1, s2, s3, s4, s5, s6, s7, s8, s9, s10, .val (.ref o11), .val (.int i12), s13, .val (.ref o14), s15] [])) _
  refine XS.iload X0.here hx rfl (hb hby at_314) rfl ?_
  show Steps p.tables e below (T0.setTop (mkF m 316 #[s0, s1, s2, s3, s4, s5, s6, s7, s8, s9, s10, .val (.ref o11), .val (.int i12), s13, .val (.ref o14), s15] [(.int i12)])) _
  refine XS.iconst X0.here hx rfl (hb hby at_316) ?_
  show Steps p.tables e below (T0.setTop (mkF m 317 #[s0, s1, s2, s3, s4, s5, s6, s7, s8, s9, s10, .val (.ref o11), .val (.int i12), s13, .val (.ref o14), s15] [(.int (1 : Int32)), (.int i12)])) _
  refine XS.icmpNo X0.here hx rfl (hb hby at_317) rfl (tlt hc317).2.2.2 ?_
  show Steps p.tables e below (T0.setTop (mkF m 320 #[s0, s1, s2, s3, s4, s5, s6, s7, s8, s9, s10, .val (.ref o11), .val (.int i12), s13, .val (.ref o14), s15] [])) _
  refine XS.aload X0.here hx rfl (hb hby at_320) rfl rfl ?_
  show Steps p.tables e below (T0.setTop (mkF m 322 #[s0, s1, s2, s3, s4, s5, s6, s7, s8, s9, s10, .val (.ref o11), .val (.int i12), s13, .val (.ref o14), s15] [(.ref o11)])) _
  refine XS.iconst X0.here hx rfl (hb hby at_322) ?_
  show Steps p.tables e below (T0.setTop (mkF m 323 #[s0, s1, s2, s3, s4, s5, s6, s7, s8, s9, s10, .val (.ref o11), .val (.int i12), s13, .val (.ref o14), s15] [(.int (1 : Int32)), (.ref o11)])) _
  refine X0.laload hx (j := (1 : Int32)) (v := (.long w5)) (by rw [e0]; exact Ar_o11.1) (State.isArrayOf_alike hZ.alike Ar_o11.2.1) Ar_o11.2.2 hin323 hat323 (g := (mkF m 323 #[s0, s1, s2, s3, s4, s5, s6, s7, s8, s9, s10, .val (.ref o11), .val (.int i12), s13, .val (.ref o14), s15] [(.int (1 : Int32)), (.ref o11)])) rfl rfl (hb hby at_323) _ ?_
  show Steps p.tables e below (T0.setTop (mkF m 324 #[s0, s1, s2, s3, s4, s5, s6, s7, s8, s9, s10, .val (.ref o11), .val (.int i12), s13, .val (.ref o14), s15] [(.long w5)])) _
  refine XS.aload X0.here hx rfl (hb hby at_324) rfl rfl ?_
  show Steps p.tables e below (T0.setTop (mkF m 326 #[s0, s1, s2, s3, s4, s5, s6, s7, s8, s9, s10, .val (.ref o11), .val (.int i12), s13, .val (.ref o14), s15] [(.ref o14), (.long w5)])) _
  refine st6 _ ?_
  show Steps p.tables e below (T6.setTop (mkF m 329 #[s0, s1, s2, s3, s4, s5, s6, s7, s8, s9, s10, .val (.ref o11), .val (.int i12), s13, .val (.ref o14), s15] [(.int (1 : Int32))])) _
  refine XS.ifYes X6.here hx rfl (pc0 := 329) (pc' := 334) rfl (hb hby at_329) rfl ((if0 _ _).trans (feq ((by decide) : ¬ ((1 : Int32) = (0 : Int32)))).2) (by decide) (by decide) ?_
  exact kt
set_option maxRecDepth 65536 in
set_option maxHeartbeats 40000000 in
theorem pf314 {p : Program} {l : Launch} {e : Env} {s : State} {m : MethodId} {args : Array Value} {below : List Frame} {meth : Method} {c : Code} {T0 : State} {locs : List Loc} {cells slots : Nat} {Z : State} {a0 : Array Value} {h0 : Heap} (s0 : Slot) (s1 : Slot) (s2 : Slot) (s3 : Slot) (s4 : Slot) (s5 : Slot) (s6 : Slot) (s7 : Slot) (s8 : Slot) (s9 : Slot) (s10 : Slot) (s11 : Slot) (i12 : Int32) (s13 : Slot) (s14 : Slot) (s15 : Slot)
    (X0 : Stand p l e room_1 s m args below meth c T0 locs cells slots) (hx : p.tables.exec = Jvm.exec) (hZ : Z.Warmed39 s.vm) (hw : ∀ d ∈ tables_1, d.before a0 Z = true) (hby : c.code = code) (hml : c.maxLocals = 16) (hown : s.vm.findClass "com/example/tideshift/tideshift/partition/AccessCountsKeysPinLaw" = some m.cls) (e0 : T0.heap = h0) (hc317 : ¬ ((1 : Int32) < i12)) :
    ∃ (T' : State), Stand p l e room_1 s m args below meth c T' locs cells slots ∧ T'.heap = h0 ∧
      ∀ target, Steps p.tables e below (T'.setTop (mkF m 334 #[s0, s1, s2, s3, s4, s5, s6, s7, s8, s9, s10, s11, .val (.int i12), s13, s14, s15] [])) target → Steps p.tables e below (T0.setTop (mkF m 314 #[s0, s1, s2, s3, s4, s5, s6, s7, s8, s9, s10, s11, .val (.int i12), s13, s14, s15] [])) target := by
  -- 3. LAWS

  refine ⟨T0, X0, e0, fun target kt => ?_⟩
  -- 4. STEPS
  show Steps p.tables e below (T0.setTop (mkF m 314 #[s0, s1, s2, s3, s4, s5, s6, s7, s8, s9, s10, s11, .val (.int i12), s13, s14, s15] [])) _
  refine XS.iload X0.here hx rfl (hb hby at_314) rfl ?_
  show Steps p.tables e below (T0.setTop (mkF m 316 #[s0, s1, s2, s3, s4, s5, s6, s7, s8, s9, s10, s11, .val (.int i12), s13, s14, s15] [(.int i12)])) _
  refine XS.iconst X0.here hx rfl (hb hby at_316) ?_
  show Steps p.tables e below (T0.setTop (mkF m 317 #[s0, s1, s2, s3, s4, s5, s6, s7, s8, s9, s10, s11, .val (.int i12), s13, s14, s15] [(.int (1 : Int32)), (.int i12)])) _
  refine XS.icmpYes X0.here hx rfl (pc0 := 317) (pc' := 334) rfl (hb hby at_317) rfl (flt hc317).2.2.2 (by decide) (by decide) ?_
  exact kt
set_option maxHeartbeats 4000000 in
theorem own_c314 {p : Program} {l : Launch} {e : Env} {s : State} {m : MethodId} {args : Array Value} {below : List Frame} {meth : Method} {c : Code} {T0 : State} {locs : List Loc} {cells slots : Nat} {Z : State} {a0 : Array Value} {h0 : Heap} (j0 : Int64) (s2 s3 s4 s5 : Slot) (i6 : Int32) (j7 j9 : Int64) (o11 o13 : Addr) (o14 : Addr) (s15 : Slot) (xs : List Int64) (f : Nat → Int64) (sz : Nat) (g : Nat → Int64) (n0 : Nat) (X0 : Stand p l e room_1 s m args below meth c T0 locs cells slots) (hx : p.tables.exec = Jvm.exec) (hZ : Z.Warmed39 s.vm) (hw : ∀ d ∈ tables_1, d.before a0 Z = true) (hby : c.code = code) (hml : c.maxLocals = 16) (hown : s.vm.findClass "com/example/tideshift/tideshift/partition/AccessCountsKeysPinLaw" = some m.cls) (e0 : T0.heap = h0) (Z0 : n0 ≤ h0.size) (N0 : Fr n0 locs) (hl : xs.length ≤ 3) (hsz : sz ≤ 3) (La : own_La Z h0 o11 3 f) (Lr : own_La Z h0 o14 sz g) (hm : ∀ i, i < xs.length → ∃ j, j < sz ∧ g j = f i) (hcl : cells ≤ 32) (hsl : slots ≤ 256) :
    ∃ (T' : State) (locs' : List Loc), Stand p l e room_1 s m args below meth c T' locs' cells slots ∧ T'.heap = h0 ∧ Fr n0 locs' ∧
      ∀ target, Steps p.tables e below (T'.setTop (mkF m 334 #[.val (.long j0), .second, s2, s3, s4, s5, .val (.int i6), .val (.long j7), .second, .val (.long j9), .second, .val (.ref o11), .val (.int (Int32.ofNat xs.length)), .val (.ref o13), .val (.ref o14), s15] [])) target → Steps p.tables e below (T0.setTop (mkF m 314 #[.val (.long j0), .second, s2, s3, s4, s5, .val (.int i6), .val (.long j7), .second, .val (.long j9), .second, .val (.ref o11), .val (.int (Int32.ofNat xs.length)), .val (.ref o13), .val (.ref o14), s15] [])) target := by
  obtain ⟨cr, A, S, H⟩ := id La
  by_cases h : 1 < xs.length
  · exact pe314 (.val (.long j0)) .second s2 s3 s4 s5 (.val (.int i6)) (.val (.long j7)) .second (.val (.long j9)) .second o11 (Int32.ofNat xs.length) (.val (.ref o13)) o14 s15 (f 1) cr xs f sz g n0 X0 hx hZ hw hby hml hown e0 Z0 N0 hl hsz La Lr (hm 1 h) hcl hsl A (by rw [S]; decide) (H 1 (by decide)) (own_gt h hl (by decide))
  · obtain ⟨T', X', e', st⟩ := pf314 (.val (.long j0)) .second s2 s3 s4 s5 (.val (.int i6)) (.val (.long j7)) .second (.val (.long j9)) .second (.val (.ref o11)) (Int32.ofNat xs.length) (.val (.ref o13)) (.val (.ref o14)) s15 X0 hx hZ hw hby hml hown e0 (own_nlt h (by decide) (by omega) (by decide))
    exact ⟨T', locs, X', e', N0, st⟩
set_option maxRecDepth 65536 in
set_option maxHeartbeats 40000000 in
theorem pe334 {p : Program} {l : Launch} {e : Env} {s : State} {m : MethodId} {args : Array Value} {below : List Frame} {meth : Method} {c : Code} {T0 : State} {locs : List Loc} {cells slots : Nat} {Z : State} {a0 : Array Value} {h0 : Heap} (s0 : Slot) (s1 : Slot) (s2 : Slot) (s3 : Slot) (s4 : Slot) (s5 : Slot) (s6 : Slot) (s7 : Slot) (s8 : Slot) (s9 : Slot) (s10 : Slot) (o11 : Addr) (i12 : Int32) (s13 : Slot) (o14 : Addr) (s15 : Slot) (w5 : Int64) (cl_o11 : Cell) (xs : List Int64) (f : Nat → Int64) (sz : Nat) (g : Nat → Int64) (n0 : Nat)
    (X0 : Stand p l e room_1 s m args below meth c T0 locs cells slots) (hx : p.tables.exec = Jvm.exec) (hZ : Z.Warmed39 s.vm) (hw : ∀ d ∈ tables_1, d.before a0 Z = true) (hby : c.code = code) (hml : c.maxLocals = 16) (hown : s.vm.findClass "com/example/tideshift/tideshift/partition/AccessCountsKeysPinLaw" = some m.cls) (e0 : T0.heap = h0) (Z0 : n0 ≤ h0.size) (N0 : Fr n0 locs) (hl : xs.length ≤ 3) (hsz : sz ≤ 3) (La : own_La Z h0 o11 3 f) (Lr : own_La Z h0 o14 sz g) (hmem : ∃ i, i < sz ∧ g i = w5) (hcl : cells ≤ 32) (hsl : slots ≤ 256) (Ar_o11 : Arr Z h0 o11 cl_o11 .long) (hin343 : ¬ ((2 : Int32) < 0 ∨ cl_o11.slots.size ≤ ((2 : Int32)).toNatClampNeg)) (hat343 : cl_o11.slots[((2 : Int32)).toNatClampNeg]? = some (.long w5)) (hc337 : (2 : Int32) < i12) :
    ∃ (T' : State) (locs' : List Loc), Stand p l e room_1 s m args below meth c T' locs' cells slots ∧ T'.heap = h0 ∧ Fr n0 locs' ∧
      ∀ target, Steps p.tables e below (T'.setTop (mkF m 354 #[s0, s1, s2, s3, s4, s5, s6, s7, s8, s9, s10, .val (.ref o11), .val (.int i12), s13, .val (.ref o14), s15] [])) target → Steps p.tables e below (T0.setTop (mkF m 334 #[s0, s1, s2, s3, s4, s5, s6, s7, s8, s9, s10, .val (.ref o11), .val (.int i12), s13, .val (.ref o14), s15] [])) target := by
  -- 3. LAWS
  -- pc 346: com/example/tideshift/tideshift/partition/AccessCountsKeysPinLaw.inR by its contract rm10
  obtain ⟨_, _, ⟨T6, L6, k6, n6⟩, -, X6, ⟨Lc6, hQ6, l6, y6, z6⟩, st6⟩ := Jvm.LawKit.callS X0 hx (y := (⟨"com/example/tideshift/tideshift/partition/AccessCountsKeysPinLaw", "inR", "(J[J)Z"⟩ : MethodName)) hown (mvT hZ (hw _ (List.mem_of_getElem? (i := 53) rfl))) (mvT hZ (hw _ (List.mem_of_getElem? (i := 54) rfl))) (mvT hZ (hw _ (List.mem_of_getElem? (i := 51) rfl))) (mvT hZ (hw _ (List.mem_of_getElem? (i := 55) rfl))) (by decide) (backOf (W := 0) (rm10 l Z a0 hw [] w5 o14 sz g h0 n0 Z0 hsz Lr hmem) hZ (hw _ (List.mem_of_getElem? (i := 55) rfl)) (hw _ (List.mem_of_getElem? (i := 51) rfl)) (by decide) (by decide)) (g := (mkF m 346 #[s0, s1, s2, s3, s4, s5, s6, s7, s8, s9, s10, .val (.ref o11), .val (.int i12), s13, .val (.ref o14), s15] [(.ref o14), (.long w5)])) rfl (by rw [hml]; rfl) (argsL := [(.long w5), (.ref o14)]) (rest := []) (lenOf pd_0_7 rfl) rfl (by show 2 * 0 + _ ≤ _; exact Nat.le_of_eq rfl) (hb hby at_346) (fun _ _ => ⟨rfl, e0, (by show cells + 0 ≤ 32; exact hcl), (by show slots + 0 ≤ 256; exact hsl)⟩)
  dsimp only [Pt.U, Pt.locs, Pt.cells, Pt.slots] at X6 l6 y6 z6 st6 hQ6
  subst l6 y6 z6
  obtain ⟨rfl, N6q, E6q⟩ := hQ6
  have K6q : Keep h0 T6.heap [] := by rw [E6q]; exact Keep.refl _ _
  have N6 := Fr.app N0 N6q
  refine ⟨T6, _, X6, E6q, N6, fun target kt => ?_⟩
  -- 4. STEPS
  show Steps p.tables e below (T0.setTop (mkF m 334 #[s0, s1, s2, s3, s4, s5, s6, s7, s8, s9, s10, .val (.ref o11), .val (.int i12), s13, .val (.ref o14), s15] [])) _
  refine XS.iload X0.here hx rfl (hb hby at_334) rfl ?_
  show Steps p.tables e below (T0.setTop (mkF m 336 #[s0, s1, s2, s3, s4, s5, s6, s7, s8, s9, s10, .val (.ref o11), .val (.int i12), s13, .val (.ref o14), s15] [(.int i12)])) _
  refine XS.iconst X0.here hx rfl (hb hby at_336) ?_
  show Steps p.tables e below (T0.setTop (mkF m 337 #[s0, s1, s2, s3, s4, s5, s6, s7, s8, s9, s10, .val (.ref o11), .val (.int i12), s13, .val (.ref o14), s15] [(.int (2 : Int32)), (.int i12)])) _
  refine XS.icmpNo X0.here hx rfl (hb hby at_337) rfl (tlt hc337).2.2.2 ?_
  show Steps p.tables e below (T0.setTop (mkF m 340 #[s0, s1, s2, s3, s4, s5, s6, s7, s8, s9, s10, .val (.ref o11), .val (.int i12), s13, .val (.ref o14), s15] [])) _
  refine XS.aload X0.here hx rfl (hb hby at_340) rfl rfl ?_
  show Steps p.tables e below (T0.setTop (mkF m 342 #[s0, s1, s2, s3, s4, s5, s6, s7, s8, s9, s10, .val (.ref o11), .val (.int i12), s13, .val (.ref o14), s15] [(.ref o11)])) _
  refine XS.iconst X0.here hx rfl (hb hby at_342) ?_
  show Steps p.tables e below (T0.setTop (mkF m 343 #[s0, s1, s2, s3, s4, s5, s6, s7, s8, s9, s10, .val (.ref o11), .val (.int i12), s13, .val (.ref o14), s15] [(.int (2 : Int32)), (.ref o11)])) _
  refine X0.laload hx (j := (2 : Int32)) (v := (.long w5)) (by rw [e0]; exact Ar_o11.1) (State.isArrayOf_alike hZ.alike Ar_o11.2.1) Ar_o11.2.2 hin343 hat343 (g := (mkF m 343 #[s0, s1, s2, s3, s4, s5, s6, s7, s8, s9, s10, .val (.ref o11), .val (.int i12), s13, .val (.ref o14), s15] [(.int (2 : Int32)), (.ref o11)])) rfl rfl (hb hby at_343) _ ?_
  show Steps p.tables e below (T0.setTop (mkF m 344 #[s0, s1, s2, s3, s4, s5, s6, s7, s8, s9, s10, .val (.ref o11), .val (.int i12), s13, .val (.ref o14), s15] [(.long w5)])) _
  refine XS.aload X0.here hx rfl (hb hby at_344) rfl rfl ?_
  show Steps p.tables e below (T0.setTop (mkF m 346 #[s0, s1, s2, s3, s4, s5, s6, s7, s8, s9, s10, .val (.ref o11), .val (.int i12), s13, .val (.ref o14), s15] [(.ref o14), (.long w5)])) _
  refine st6 _ ?_
  show Steps p.tables e below (T6.setTop (mkF m 349 #[s0, s1, s2, s3, s4, s5, s6, s7, s8, s9, s10, .val (.ref o11), .val (.int i12), s13, .val (.ref o14), s15] [(.int (1 : Int32))])) _
  refine XS.ifYes X6.here hx rfl (pc0 := 349) (pc' := 354) rfl (hb hby at_349) rfl ((if0 _ _).trans (feq ((by decide) : ¬ ((1 : Int32) = (0 : Int32)))).2) (by decide) (by decide) ?_
  exact kt
set_option maxRecDepth 65536 in
set_option maxHeartbeats 40000000 in
theorem pf334 {p : Program} {l : Launch} {e : Env} {s : State} {m : MethodId} {args : Array Value} {below : List Frame} {meth : Method} {c : Code} {T0 : State} {locs : List Loc} {cells slots : Nat} {Z : State} {a0 : Array Value} {h0 : Heap} (s0 : Slot) (s1 : Slot) (s2 : Slot) (s3 : Slot) (s4 : Slot) (s5 : Slot) (s6 : Slot) (s7 : Slot) (s8 : Slot) (s9 : Slot) (s10 : Slot) (s11 : Slot) (i12 : Int32) (s13 : Slot) (s14 : Slot) (s15 : Slot)
    (X0 : Stand p l e room_1 s m args below meth c T0 locs cells slots) (hx : p.tables.exec = Jvm.exec) (hZ : Z.Warmed39 s.vm) (hw : ∀ d ∈ tables_1, d.before a0 Z = true) (hby : c.code = code) (hml : c.maxLocals = 16) (hown : s.vm.findClass "com/example/tideshift/tideshift/partition/AccessCountsKeysPinLaw" = some m.cls) (e0 : T0.heap = h0) (hc337 : ¬ ((2 : Int32) < i12)) :
    ∃ (T' : State), Stand p l e room_1 s m args below meth c T' locs cells slots ∧ T'.heap = h0 ∧
      ∀ target, Steps p.tables e below (T'.setTop (mkF m 354 #[s0, s1, s2, s3, s4, s5, s6, s7, s8, s9, s10, s11, .val (.int i12), s13, s14, s15] [])) target → Steps p.tables e below (T0.setTop (mkF m 334 #[s0, s1, s2, s3, s4, s5, s6, s7, s8, s9, s10, s11, .val (.int i12), s13, s14, s15] [])) target := by
  -- 3. LAWS

  refine ⟨T0, X0, e0, fun target kt => ?_⟩
  -- 4. STEPS
  show Steps p.tables e below (T0.setTop (mkF m 334 #[s0, s1, s2, s3, s4, s5, s6, s7, s8, s9, s10, s11, .val (.int i12), s13, s14, s15] [])) _
  refine XS.iload X0.here hx rfl (hb hby at_334) rfl ?_
  show Steps p.tables e below (T0.setTop (mkF m 336 #[s0, s1, s2, s3, s4, s5, s6, s7, s8, s9, s10, s11, .val (.int i12), s13, s14, s15] [(.int i12)])) _
  refine XS.iconst X0.here hx rfl (hb hby at_336) ?_
  show Steps p.tables e below (T0.setTop (mkF m 337 #[s0, s1, s2, s3, s4, s5, s6, s7, s8, s9, s10, s11, .val (.int i12), s13, s14, s15] [(.int (2 : Int32)), (.int i12)])) _
  refine XS.icmpYes X0.here hx rfl (pc0 := 337) (pc' := 354) rfl (hb hby at_337) rfl (flt hc337).2.2.2 (by decide) (by decide) ?_
  exact kt
set_option maxHeartbeats 4000000 in
theorem own_c334 {p : Program} {l : Launch} {e : Env} {s : State} {m : MethodId} {args : Array Value} {below : List Frame} {meth : Method} {c : Code} {T0 : State} {locs : List Loc} {cells slots : Nat} {Z : State} {a0 : Array Value} {h0 : Heap} (j0 : Int64) (s2 s3 s4 s5 : Slot) (i6 : Int32) (j7 j9 : Int64) (o11 o13 : Addr) (o14 : Addr) (s15 : Slot) (xs : List Int64) (f : Nat → Int64) (sz : Nat) (g : Nat → Int64) (n0 : Nat) (X0 : Stand p l e room_1 s m args below meth c T0 locs cells slots) (hx : p.tables.exec = Jvm.exec) (hZ : Z.Warmed39 s.vm) (hw : ∀ d ∈ tables_1, d.before a0 Z = true) (hby : c.code = code) (hml : c.maxLocals = 16) (hown : s.vm.findClass "com/example/tideshift/tideshift/partition/AccessCountsKeysPinLaw" = some m.cls) (e0 : T0.heap = h0) (Z0 : n0 ≤ h0.size) (N0 : Fr n0 locs) (hl : xs.length ≤ 3) (hsz : sz ≤ 3) (La : own_La Z h0 o11 3 f) (Lr : own_La Z h0 o14 sz g) (hm : ∀ i, i < xs.length → ∃ j, j < sz ∧ g j = f i) (hcl : cells ≤ 32) (hsl : slots ≤ 256) :
    ∃ (T' : State) (locs' : List Loc), Stand p l e room_1 s m args below meth c T' locs' cells slots ∧ T'.heap = h0 ∧ Fr n0 locs' ∧
      ∀ target, Steps p.tables e below (T'.setTop (mkF m 354 #[.val (.long j0), .second, s2, s3, s4, s5, .val (.int i6), .val (.long j7), .second, .val (.long j9), .second, .val (.ref o11), .val (.int (Int32.ofNat xs.length)), .val (.ref o13), .val (.ref o14), s15] [])) target → Steps p.tables e below (T0.setTop (mkF m 334 #[.val (.long j0), .second, s2, s3, s4, s5, .val (.int i6), .val (.long j7), .second, .val (.long j9), .second, .val (.ref o11), .val (.int (Int32.ofNat xs.length)), .val (.ref o13), .val (.ref o14), s15] [])) target := by
  obtain ⟨cr, A, S, H⟩ := id La
  by_cases h : 2 < xs.length
  · exact pe334 (.val (.long j0)) .second s2 s3 s4 s5 (.val (.int i6)) (.val (.long j7)) .second (.val (.long j9)) .second o11 (Int32.ofNat xs.length) (.val (.ref o13)) o14 s15 (f 2) cr xs f sz g n0 X0 hx hZ hw hby hml hown e0 Z0 N0 hl hsz La Lr (hm 2 h) hcl hsl A (by rw [S]; decide) (H 2 (by decide)) (own_gt h hl (by decide))
  · obtain ⟨T', X', e', st⟩ := pf334 (.val (.long j0)) .second s2 s3 s4 s5 (.val (.int i6)) (.val (.long j7)) .second (.val (.long j9)) .second (.val (.ref o11)) (Int32.ofNat xs.length) (.val (.ref o13)) (.val (.ref o14)) s15 X0 hx hZ hw hby hml hown e0 (own_nlt h (by decide) (by omega) (by decide))
    exact ⟨T', locs, X', e', N0, st⟩
set_option maxHeartbeats 4000000 in
theorem own_fin {p : Program} {l : Launch} {e : Env} {s : State} {m : MethodId} {args : Array Value} {below : List Frame} {meth : Method} {c : Code} {T0 : State} {locs : List Loc} {cells slots : Nat} {Z : State} {a0 : Array Value} {h0 : Heap} (j0 : Int64) (s2 s3 s4 s5 : Slot) (i6 : Int32) (j7 j9 : Int64) (o11 o13 : Addr) (s14 s15 : Slot) (xs : List Int64) (n0 : Nat) (X0 : Stand p l e room_1 s m args below meth c T0 locs cells slots) (hx : p.tables.exec = Jvm.exec) (hZ : Z.Warmed39 s.vm) (hw : ∀ d ∈ tables_1, d.before a0 Z = true) (hby : c.code = code) (hml : c.maxLocals = 16) (hown : s.vm.findClass "com/example/tideshift/tideshift/partition/AccessCountsKeysPinLaw" = some m.cls) (e0 : T0.heap = h0) (P : own_Ph Z n0 o11 o13 xs h0 locs) (hl : xs.length ≤ 3) (hcl : cells + 1 ≤ 32) (hsl : slots + 3 ≤ 256) (h14 : One s14) (h15 : One s15) :
    ∃ (T' : State) (h' : Heap) (locs' : List Loc) (r : Addr) (d : Int32), Stand p l e room_1 s m args below meth c T' locs' (cells + 1) (slots + 3) ∧ T'.heap = h' ∧ Fr n0 locs' ∧
      ∀ target, Steps p.tables e below (T'.setTop (mkF m 354 #[.val (.long j0), .second, s2, s3, s4, s5, .val (.int i6), .val (.long j7), .second, .val (.long j9), .second, .val (.ref o11), .val (.int (Int32.ofNat xs.length)), .val (.ref o13), .val (.ref r), .val (.int d)] [])) target → Steps p.tables e below (T0.setTop (mkF m 136 #[.val (.long j0), .second, s2, s3, s4, s5, .val (.int i6), .val (.long j7), .second, .val (.long j9), .second, .val (.ref o11), .val (.int (Int32.ofNat xs.length)), .val (.ref o13), s14, s15] [])) target := by
  obtain ⟨N0, O0, t, u, ks, cs, sz, f, A, I, La, hf, gt, gu, ga, go, m1, m2, m3⟩ := P
  have Z0 : n0 ≤ h0.size := Nat.le_trans (Nat.le_of_eq O0.1.symm) O0.2.1
  obtain ⟨l1, l2, l3⟩ := own_Inv_lst I
  have hsz : own_cnt (own_occ cs) 16 = sz := I.2.2.2.1
  have hsz3 : sz ≤ 3 := Nat.le_trans I.2.2.2.2.1 hl
  obtain ⟨T1, h1, L1, r, X1, e1, N1, K1, Lr, st1⟩ := pk136 (.val (.long j0)) .second s2 s3 s4 s5 (.val (.int i6)) (.val (.long j7)) .second (.val (.long j9)) .second (.val (.ref o11)) (.val (.int (Int32.ofNat xs.length))) o13 s14 s15 t u ks cs sz n0 X0 hx hZ hw hby hml hown e0 Z0 N0 A hsz hsz3 hcl hsl h14 h15
  have La1 := own_La_keep La K1 nin0
  have Z1 : n0 ≤ h1.size := Nat.le_trans Z0 K1.1
  obtain ⟨T2, X2, e2, st2⟩ := own_c146 j0 s2 s3 s4 s5 i6 j7 j9 o11 o13 r xs f X1 hx hZ hw hby hml hown e1 La1 hf hl
  have hd : sz = own_d xs := l1.symm.trans (own_d_eq hl l2 l3)
  obtain ⟨cr, A1, S1, H1⟩ := id Lr
  obtain ⟨z1, z2⟩ := own_i16 (n := sz) (by omega)
  obtain ⟨T3, X3, e3, st3⟩ := pl217 (.val (.long j0)) .second s2 s3 s4 s5 (.val (.int i6)) (.val (.long j7)) .second (.val (.long j9)) .second (.val (.ref o11)) (.val (.int (Int32.ofNat xs.length))) (.val (.ref o13)) r (Int32.ofNat (own_d xs)) cr (Int32.ofNat sz) X2 hx hZ hw hby hml hown e2 A1 (by rw [S1, z2]) z1 (by rw [hd])
  have hmD : ∀ i, i < sz → ∃ j, j < xs.length ∧ f j = (own_lst ks (own_occ cs) 16).getD i 0 := fun i hi => by
    obtain ⟨j, hj, e⟩ := own_mem_getD ((l3 _).mp (own_getD_mem (l := own_lst ks (own_occ cs) 16) (i := i) (by rw [l1]; exact hi)))
    exact ⟨j, hj, (hf j hj).trans e⟩
  have hmE : ∀ i, i < xs.length → ∃ j, j < sz ∧ (own_lst ks (own_occ cs) 16).getD j 0 = f i := fun i hi => by
    obtain ⟨j, hj, e⟩ := own_mem_getD ((l3 _).mpr (own_getD_mem hi))
    exact ⟨j, by rw [← l1]; exact hj, e.trans (hf i hi).symm⟩
  obtain ⟨T4, L4, X4, e4, N4, st4⟩ := own_c227 j0 s2 s3 s4 s5 i6 j7 j9 o11 o13 r (.val (.int (Int32.ofNat (own_d xs)))) xs f sz _ n0 X3 hx hZ hw hby hml hown e3 Z1 N1 hl hsz3 La1 Lr hmD hcl hsl
  obtain ⟨T5, L5, X5, e5, N5, st5⟩ := own_c249 j0 s2 s3 s4 s5 i6 j7 j9 o11 o13 r (.val (.int (Int32.ofNat (own_d xs)))) xs f sz _ n0 X4 hx hZ hw hby hml hown e4 Z1 N4 hl hsz3 La1 Lr hmD hcl hsl
  obtain ⟨T6, L6, X6, e6, N6, st6⟩ := own_c272 j0 s2 s3 s4 s5 i6 j7 j9 o11 o13 r (.val (.int (Int32.ofNat (own_d xs)))) xs f sz _ n0 X5 hx hZ hw hby hml hown e5 Z1 N5 hl hsz3 La1 Lr hmD hcl hsl
  obtain ⟨T7, L7, X7, e7, N7, st7⟩ := own_c295 j0 s2 s3 s4 s5 i6 j7 j9 o11 o13 r (.val (.int (Int32.ofNat (own_d xs)))) xs f sz _ n0 X6 hx hZ hw hby hml hown e6 Z1 N6 hl hsz3 La1 Lr hmE hcl hsl
  obtain ⟨T8, L8, X8, e8, N8, st8⟩ := own_c314 j0 s2 s3 s4 s5 i6 j7 j9 o11 o13 r (.val (.int (Int32.ofNat (own_d xs)))) xs f sz _ n0 X7 hx hZ hw hby hml hown e7 Z1 N7 hl hsz3 La1 Lr hmE hcl hsl
  obtain ⟨T9, L9, X9, e9, N9, st9⟩ := own_c334 j0 s2 s3 s4 s5 i6 j7 j9 o11 o13 r (.val (.int (Int32.ofNat (own_d xs)))) xs f sz _ n0 X8 hx hZ hw hby hml hown e8 Z1 N8 hl hsz3 La1 Lr hmE hcl hsl
  exact ⟨T9, h1, L9, r, _, X9, e9, N9, fun target kt => st1 target (st2 target (st3 target (st4 target (st5 target (st6 target (st7 target (st8 target (st9 target kt))))))))⟩
set_option maxHeartbeats 4000000 in
theorem own_all {p : Program} {l : Launch} {e : Env} {s : State} {m : MethodId} {args : Array Value} {below : List Frame} {meth : Method} {c : Code} {T0 : State} {locs : List Loc} {cells slots : Nat} {Z : State} {a0 : Array Value} {h0 : Heap} (j0 : Int64) (s2 s3 s4 s5 : Slot) (i6 : Int32) (j7 j9 : Int64) (o11 o13 : Addr) (s14 s15 : Slot) (n0 : Nat) (X0 : Stand p l e room_1 s m args below meth c T0 locs cells slots) (hx : p.tables.exec = Jvm.exec) (hZ : Z.Warmed39 s.vm) (hw : ∀ d ∈ tables_1, d.before a0 Z = true) (hby : c.code = code) (hml : c.maxLocals = 16) (hown : s.vm.findClass "com/example/tideshift/tideshift/partition/AccessCountsKeysPinLaw" = some m.cls) (e0 : T0.heap = h0) (P : own_Ph Z n0 o11 o13 [] h0 locs) (own_cc : own_cache Z Z.heap) (hcl : cells + 4 + 1 ≤ 32) (hsl : slots + 34 + 3 ≤ 256) (h14 : One s14) (h15 : One s15) :
    ∃ (T' : State) (h' : Heap) (locs' : List Loc) (x12 : Int32) (r : Addr) (d : Int32), Stand p l e room_1 s m args below meth c T' locs' (cells + 4 + 1) (slots + 34 + 3) ∧ T'.heap = h' ∧ Fr n0 locs' ∧
      ∀ target, Steps p.tables e below (T'.setTop (mkF m 354 #[.val (.long j0), .second, s2, s3, s4, s5, .val (.int i6), .val (.long j7), .second, .val (.long j9), .second, .val (.ref o11), .val (.int x12), .val (.ref o13), .val (.ref r), .val (.int d)] [])) target → Steps p.tables e below (T0.setTop (mkF m 49 #[.val (.long j0), .second, s2, s3, s4, s5, .val (.int i6), .val (.long j7), .second, .val (.long j9), .second, .val (.ref o11), .val (.int (0 : Int32)), .val (.ref o13), s14, s15] [])) target := by
  obtain ⟨T1, h1, L1, x1, X1, e1, P1, b1, st1⟩ := own_c49 j0 s2 s3 s4 s5 i6 j7 j9 o11 o13 s14 s15 [] n0 X0 hx hZ hw hby hml hown e0 P (Nat.zero_le _) (by omega) (by omega)
  rw [List.length_nil] at b1
  obtain ⟨T2, h2, L2, x2, X2, e2, P2, b2, st2⟩ := own_c71 j0 s2 s3 s4 s5 i6 j7 j9 o11 o13 s14 s15 x1 n0 X1 hx hZ hw hby hml hown e1 P1 (by omega) (by omega) (by omega)
  obtain ⟨T3, h3, L3, x3, X3, e3, P3, b3, st3⟩ := own_c95 j0 s2 s3 s4 s5 i6 j7 j9 o11 o13 s14 s15 x2 n0 X2 hx hZ hw hby hml hown e2 P2 own_cc (by omega) (by omega)
  obtain ⟨T4, h4, L4, x4, X4, e4, P4, b4, st4⟩ := own_c111 j0 s2 s3 s4 s5 i6 j7 j9 o11 o13 s14 s15 x3 n0 X3 hx hZ hw hby hml hown e3 P3 (by omega) (by omega) (by omega)
  obtain ⟨T5, h5, L5, r, d, X5, e5, N5, st5⟩ := own_fin j0 s2 s3 s4 s5 i6 j7 j9 o11 o13 s14 s15 x4 n0 X4 hx hZ hw hby hml hown e4 P4 (by omega) (by omega) (by omega) h14 h15
  rw [show Int32.ofNat ([] : List Int64).length = (0 : Int32) by decide] at st1
  exact ⟨T5, h5, L5, _, r, d, X5, e5, N5, fun target kt => st1 target (st2 target (st3 target (st4 target (st5 target kt))))⟩
theorem pn_0 : plainName "com/example/tideshift/tideshift/partition/AccessCountsKeysPinLaw" = true := by first | (simp [plainName, overriddenIn]; done) | decide +kernel
theorem pd_0_0 : parseMethodDescriptor "()V" = some ⟨[], none⟩ := by decide +kernel
theorem ef_0 (m : MethodId) (x0 : Int64) (x1 : Int64) (x2 : Int64) (x3 : Int32) : entryFrame m #[(.long x0), (.long x1), (.long x2), (.int x3)] maxLocals = mkF m 0 #[.val (.long x0), .second, .val (.long x1), .second, .val (.long x2), .second, .val (.int x3), .unset, .unset, .unset, .unset, .unset, .unset, .unset, .unset, .unset] [] := by first | (simp [entryFrame, mkF, argsToLocals, Value.category, maxLocals]; done) | rfl
def Q0 (Z : State) (q1 : Int64) (q2 : Int64) (q3 : Int64) (p4 : Int32) (h0 : Heap) (n0 : Nat) (v : Option Value) (h : Heap) (L : List Loc) : Prop := v = some (.int (1 : Int32)) ∧ Fr n0 L
set_option maxRecDepth 65536 in
set_option maxHeartbeats 40000000 in
theorem rm0 (l : Launch) (Z : State) (a0 : Array Value) (hw : ∀ d ∈ tables_1, d.before a0 Z = true) (ws : List Jvm.Cond) (q1 : Int64) (q2 : Int64) (q3 : Int64) (p4 : Int32) (h0 : Heap) (n0 : Nat) (Z0 : n0 ≤ h0.size) (w_E : Addr) (S_E : Sta Z Z.heap "java/util/Optional" "EMPTY" "Ljava/util/Optional;" (.ref w_E)) (own_cc : own_cache Z Z.heap) (X00 : Old Z n0 h0) :
    MetFree l x (head1 (Jvm.Cond.code x code maxLocals ret :: ws) room_1) (fun a U => a = #[(.long q1), (.long q2), (.long q3), (.int p4)] ∧ Z.Warmed39 U.vm ∧ U.heap = h0) (fun _ _ _ _ _ => True) (fun _ U o U' => ∃ v L, o = .returned v ∧ Q0 Z q1 q2 q3 p4 h0 n0 v U'.heap L ∧ FrameEnd U o U' L room_1.cells room_1.slots) := by
  refine MetFree.of_bodySF (plainFor_of_name pn_0) hisR ?_
  intro p e s m args below meth c s₁ Bd hml0 hP hK
  obtain ⟨rfl, hZ, hh⟩ := hP
  have hx := Bd.exec
  have hby := Bd.bytes
  have hml : c.maxLocals = 16 := hml0
  have hown : s.vm.findClass "com/example/tideshift/tideshift/partition/AccessCountsKeysPinLaw" = some m.cls := findClass_of_methodNamed Bd.named
  have hnm := (name_of_methodNamed Bd.named Bd.method).1
  have X0 : Stand p l e room_1 s m #[(.long q1), (.long q2), (.long q3), (.int p4)] below meth c s₁ [] 0 0 := Stand.of_body Bd
  have e0 : s₁.heap = h0 := by rw [← hh, Bd.state]; rfl
  have N0 := Fr.nil n0
  have pre0 : ∀ t, Steps p.tables e below (s₁.setTop (mkF m 0 #[.val (.long q1), .second, .val (.long q2), .second, .val (.long q3), .second, .val (.int p4), .unset, .unset, .unset, .unset, .unset, .unset, .unset, .unset, .unset] [])) t → Steps p.tables e below (s₁.setTop (entryFrame m #[(.long q1), (.long q2), (.long q3), (.int p4)] maxLocals)) t := fun t k => castTop (ef_0 m q1 q2 q3 p4) k
  -- 3. LAWS
  have jmp_0 : ∀ target, Steps p.tables e below (s₁.setTop (mkF m 15 #[.val (.long q1), .second, .val (.long q2), .second, .val (.long q3), .second, .val (.int p4), .val (.long (if (p4 &&& (16 : Int32)) = (0 : Int32) then q2 else q1)), .second, .unset, .unset, .unset, .unset, .unset, .unset, .unset] [])) target → Steps p.tables e below (s₁.setTop (mkF m 0 #[.val (.long q1), .second, .val (.long q2), .second, .val (.long q3), .second, .val (.int p4), .unset, .unset, .unset, .unset, .unset, .unset, .unset, .unset, .unset] [])) target := by
    intro target kt
    by_cases hc5 : (p4 &&& (16 : Int32)) = (0 : Int32)
    · rw [if_pos hc5] at kt
      show Steps p.tables e below (s₁.setTop (mkF m 0 #[.val (.long q1), .second, .val (.long q2), .second, .val (.long q3), .second, .val (.int p4), .unset, .unset, .unset, .unset, .unset, .unset, .unset, .unset, .unset] [])) _
      refine XS.iload X0.here hx rfl (hb hby at_0) rfl ?_
      show Steps p.tables e below (s₁.setTop (mkF m 2 #[.val (.long q1), .second, .val (.long q2), .second, .val (.long q3), .second, .val (.int p4), .unset, .unset, .unset, .unset, .unset, .unset, .unset, .unset, .unset] [(.int p4)])) _
      refine XS.bipush X0.here hx rfl (hb hby at_2) ?_
      show Steps p.tables e below (s₁.setTop (mkF m 4 #[.val (.long q1), .second, .val (.long q2), .second, .val (.long q3), .second, .val (.int p4), .unset, .unset, .unset, .unset, .unset, .unset, .unset, .unset, .unset] [(.int (16 : Int32)), (.int p4)])) _
      refine XS.iand X0.here hx rfl (hb hby at_4) rfl ?_
      show Steps p.tables e below (s₁.setTop (mkF m 5 #[.val (.long q1), .second, .val (.long q2), .second, .val (.long q3), .second, .val (.int p4), .unset, .unset, .unset, .unset, .unset, .unset, .unset, .unset, .unset] [(.int (p4 &&& (16 : Int32)))])) _
      refine XS.ifYes X0.here hx rfl (pc0 := 5) (pc' := 12) rfl (hb hby at_5) rfl ((if0 _ _).trans (teq hc5).1) (by decide) (by decide) ?_
      show Steps p.tables e below (s₁.setTop (mkF m 12 #[.val (.long q1), .second, .val (.long q2), .second, .val (.long q3), .second, .val (.int p4), .unset, .unset, .unset, .unset, .unset, .unset, .unset, .unset, .unset] [])) _
      refine XS.lloadN X0.here hx rfl (hb hby at_12) rfl ?_
      show Steps p.tables e below (s₁.setTop (mkF m 13 #[.val (.long q1), .second, .val (.long q2), .second, .val (.long q3), .second, .val (.int p4), .unset, .unset, .unset, .unset, .unset, .unset, .unset, .unset, .unset] [(.long q2)])) _
      refine XS.lstore X0.here hx rfl (hb hby at_13) rfl (l' := #[.val (.long q1), .second, .val (.long q2), .second, .val (.long q3), .second, .val (.int p4), .val (.long q2), .second, .unset, .unset, .unset, .unset, .unset, .unset, .unset]) rfl ?_
      exact kt
    · rw [if_neg hc5] at kt
      show Steps p.tables e below (s₁.setTop (mkF m 0 #[.val (.long q1), .second, .val (.long q2), .second, .val (.long q3), .second, .val (.int p4), .unset, .unset, .unset, .unset, .unset, .unset, .unset, .unset, .unset] [])) _
      refine XS.iload X0.here hx rfl (hb hby at_0) rfl ?_
      show Steps p.tables e below (s₁.setTop (mkF m 2 #[.val (.long q1), .second, .val (.long q2), .second, .val (.long q3), .second, .val (.int p4), .unset, .unset, .unset, .unset, .unset, .unset, .unset, .unset, .unset] [(.int p4)])) _
      refine XS.bipush X0.here hx rfl (hb hby at_2) ?_
      show Steps p.tables e below (s₁.setTop (mkF m 4 #[.val (.long q1), .second, .val (.long q2), .second, .val (.long q3), .second, .val (.int p4), .unset, .unset, .unset, .unset, .unset, .unset, .unset, .unset, .unset] [(.int (16 : Int32)), (.int p4)])) _
      refine XS.iand X0.here hx rfl (hb hby at_4) rfl ?_
      show Steps p.tables e below (s₁.setTop (mkF m 5 #[.val (.long q1), .second, .val (.long q2), .second, .val (.long q3), .second, .val (.int p4), .unset, .unset, .unset, .unset, .unset, .unset, .unset, .unset, .unset] [(.int (p4 &&& (16 : Int32)))])) _
      refine XS.ifNo X0.here hx rfl (hb hby at_5) rfl ((if0 _ _).trans (feq hc5).1) ?_
      show Steps p.tables e below (s₁.setTop (mkF m 8 #[.val (.long q1), .second, .val (.long q2), .second, .val (.long q3), .second, .val (.int p4), .unset, .unset, .unset, .unset, .unset, .unset, .unset, .unset, .unset] [])) _
      refine XS.lloadN X0.here hx rfl (hb hby at_8) rfl ?_
      show Steps p.tables e below (s₁.setTop (mkF m 9 #[.val (.long q1), .second, .val (.long q2), .second, .val (.long q3), .second, .val (.int p4), .unset, .unset, .unset, .unset, .unset, .unset, .unset, .unset, .unset] [(.long q1)])) _
      refine XS.goto X0.here hx rfl (pc0 := 9) (pc' := 13) rfl (hb hby at_9) (by decide) (by decide) ?_
      show Steps p.tables e below (s₁.setTop (mkF m 13 #[.val (.long q1), .second, .val (.long q2), .second, .val (.long q3), .second, .val (.int p4), .unset, .unset, .unset, .unset, .unset, .unset, .unset, .unset, .unset] [(.long q1)])) _
      refine XS.lstore X0.here hx rfl (hb hby at_13) rfl (l' := #[.val (.long q1), .second, .val (.long q2), .second, .val (.long q3), .second, .val (.int p4), .val (.long q1), .second, .unset, .unset, .unset, .unset, .unset, .unset, .unset]) rfl ?_
      exact kt
  have jmp_15 : ∀ target, Steps p.tables e below (s₁.setTop (mkF m 32 #[.val (.long q1), .second, .val (.long q2), .second, .val (.long q3), .second, .val (.int p4), .val (.long (if (p4 &&& (16 : Int32)) = (0 : Int32) then q2 else q1)), .second, .val (.long (if (p4 &&& (32 : Int32)) = (0 : Int32) then q3 else (if (p4 &&& (16 : Int32)) = (0 : Int32) then q2 else q1))), .second, .unset, .unset, .unset, .unset, .unset] [])) target → Steps p.tables e below (s₁.setTop (mkF m 15 #[.val (.long q1), .second, .val (.long q2), .second, .val (.long q3), .second, .val (.int p4), .val (.long (if (p4 &&& (16 : Int32)) = (0 : Int32) then q2 else q1)), .second, .unset, .unset, .unset, .unset, .unset, .unset, .unset] [])) target := by
    intro target kt
    by_cases hc20 : (p4 &&& (32 : Int32)) = (0 : Int32)
    · rw [if_pos hc20] at kt
      show Steps p.tables e below (s₁.setTop (mkF m 15 #[.val (.long q1), .second, .val (.long q2), .second, .val (.long q3), .second, .val (.int p4), .val (.long (if (p4 &&& (16 : Int32)) = (0 : Int32) then q2 else q1)), .second, .unset, .unset, .unset, .unset, .unset, .unset, .unset] [])) _
      refine XS.iload X0.here hx rfl (hb hby at_15) rfl ?_
      show Steps p.tables e below (s₁.setTop (mkF m 17 #[.val (.long q1), .second, .val (.long q2), .second, .val (.long q3), .second, .val (.int p4), .val (.long (if (p4 &&& (16 : Int32)) = (0 : Int32) then q2 else q1)), .second, .unset, .unset, .unset, .unset, .unset, .unset, .unset] [(.int p4)])) _
      refine XS.bipush X0.here hx rfl (hb hby at_17) ?_
      show Steps p.tables e below (s₁.setTop (mkF m 19 #[.val (.long q1), .second, .val (.long q2), .second, .val (.long q3), .second, .val (.int p4), .val (.long (if (p4 &&& (16 : Int32)) = (0 : Int32) then q2 else q1)), .second, .unset, .unset, .unset, .unset, .unset, .unset, .unset] [(.int (32 : Int32)), (.int p4)])) _
      refine XS.iand X0.here hx rfl (hb hby at_19) rfl ?_
      show Steps p.tables e below (s₁.setTop (mkF m 20 #[.val (.long q1), .second, .val (.long q2), .second, .val (.long q3), .second, .val (.int p4), .val (.long (if (p4 &&& (16 : Int32)) = (0 : Int32) then q2 else q1)), .second, .unset, .unset, .unset, .unset, .unset, .unset, .unset] [(.int (p4 &&& (32 : Int32)))])) _
      refine XS.ifYes X0.here hx rfl (pc0 := 20) (pc' := 28) rfl (hb hby at_20) rfl ((if0 _ _).trans (teq hc20).1) (by decide) (by decide) ?_
      show Steps p.tables e below (s₁.setTop (mkF m 28 #[.val (.long q1), .second, .val (.long q2), .second, .val (.long q3), .second, .val (.int p4), .val (.long (if (p4 &&& (16 : Int32)) = (0 : Int32) then q2 else q1)), .second, .unset, .unset, .unset, .unset, .unset, .unset, .unset] [])) _
      refine XS.lload X0.here hx rfl (hb hby at_28) rfl ?_
      show Steps p.tables e below (s₁.setTop (mkF m 30 #[.val (.long q1), .second, .val (.long q2), .second, .val (.long q3), .second, .val (.int p4), .val (.long (if (p4 &&& (16 : Int32)) = (0 : Int32) then q2 else q1)), .second, .unset, .unset, .unset, .unset, .unset, .unset, .unset] [(.long q3)])) _
      refine XS.lstore X0.here hx rfl (hb hby at_30) rfl (l' := #[.val (.long q1), .second, .val (.long q2), .second, .val (.long q3), .second, .val (.int p4), .val (.long (if (p4 &&& (16 : Int32)) = (0 : Int32) then q2 else q1)), .second, .val (.long q3), .second, .unset, .unset, .unset, .unset, .unset]) rfl ?_
      exact kt
    · rw [if_neg hc20] at kt
      show Steps p.tables e below (s₁.setTop (mkF m 15 #[.val (.long q1), .second, .val (.long q2), .second, .val (.long q3), .second, .val (.int p4), .val (.long (if (p4 &&& (16 : Int32)) = (0 : Int32) then q2 else q1)), .second, .unset, .unset, .unset, .unset, .unset, .unset, .unset] [])) _
      refine XS.iload X0.here hx rfl (hb hby at_15) rfl ?_
      show Steps p.tables e below (s₁.setTop (mkF m 17 #[.val (.long q1), .second, .val (.long q2), .second, .val (.long q3), .second, .val (.int p4), .val (.long (if (p4 &&& (16 : Int32)) = (0 : Int32) then q2 else q1)), .second, .unset, .unset, .unset, .unset, .unset, .unset, .unset] [(.int p4)])) _
      refine XS.bipush X0.here hx rfl (hb hby at_17) ?_
      show Steps p.tables e below (s₁.setTop (mkF m 19 #[.val (.long q1), .second, .val (.long q2), .second, .val (.long q3), .second, .val (.int p4), .val (.long (if (p4 &&& (16 : Int32)) = (0 : Int32) then q2 else q1)), .second, .unset, .unset, .unset, .unset, .unset, .unset, .unset] [(.int (32 : Int32)), (.int p4)])) _
      refine XS.iand X0.here hx rfl (hb hby at_19) rfl ?_
      show Steps p.tables e below (s₁.setTop (mkF m 20 #[.val (.long q1), .second, .val (.long q2), .second, .val (.long q3), .second, .val (.int p4), .val (.long (if (p4 &&& (16 : Int32)) = (0 : Int32) then q2 else q1)), .second, .unset, .unset, .unset, .unset, .unset, .unset, .unset] [(.int (p4 &&& (32 : Int32)))])) _
      refine XS.ifNo X0.here hx rfl (hb hby at_20) rfl ((if0 _ _).trans (feq hc20).1) ?_
      show Steps p.tables e below (s₁.setTop (mkF m 23 #[.val (.long q1), .second, .val (.long q2), .second, .val (.long q3), .second, .val (.int p4), .val (.long (if (p4 &&& (16 : Int32)) = (0 : Int32) then q2 else q1)), .second, .unset, .unset, .unset, .unset, .unset, .unset, .unset] [])) _
      refine XS.lload X0.here hx rfl (hb hby at_23) rfl ?_
      show Steps p.tables e below (s₁.setTop (mkF m 25 #[.val (.long q1), .second, .val (.long q2), .second, .val (.long q3), .second, .val (.int p4), .val (.long (if (p4 &&& (16 : Int32)) = (0 : Int32) then q2 else q1)), .second, .unset, .unset, .unset, .unset, .unset, .unset, .unset] [(.long (if (p4 &&& (16 : Int32)) = (0 : Int32) then q2 else q1))])) _
      refine XS.goto X0.here hx rfl (pc0 := 25) (pc' := 30) rfl (hb hby at_25) (by decide) (by decide) ?_
      show Steps p.tables e below (s₁.setTop (mkF m 30 #[.val (.long q1), .second, .val (.long q2), .second, .val (.long q3), .second, .val (.int p4), .val (.long (if (p4 &&& (16 : Int32)) = (0 : Int32) then q2 else q1)), .second, .unset, .unset, .unset, .unset, .unset, .unset, .unset] [(.long (if (p4 &&& (16 : Int32)) = (0 : Int32) then q2 else q1))])) _
      refine XS.lstore X0.here hx rfl (hb hby at_30) rfl (l' := #[.val (.long q1), .second, .val (.long q2), .second, .val (.long q3), .second, .val (.int p4), .val (.long (if (p4 &&& (16 : Int32)) = (0 : Int32) then q2 else q1)), .second, .val (.long (if (p4 &&& (16 : Int32)) = (0 : Int32) then q2 else q1)), .second, .unset, .unset, .unset, .unset, .unset]) rfl ?_
      exact kt
  obtain ⟨T5, h5, k5, X5, e5, E5, A5, st5⟩ := newP X0 hx hZ (hw _ (List.mem_of_getElem? (i := 0) rfl)) e0 (g := (mkF m 33 #[.val (.long q1), .second, .val (.long q2), .second, .val (.long q3), .second, .val (.int p4), .val (.long (if (p4 &&& (16 : Int32)) = (0 : Int32) then q2 else q1)), .second, .val (.long (if (p4 &&& (32 : Int32)) = (0 : Int32) then q3 else (if (p4 &&& (16 : Int32)) = (0 : Int32) then q2 else q1))), .second, .unset, .unset, .unset, .unset, .unset] [(.int (3 : Int32))])) rfl (hb hby at_33) rfl (by decide) (cap := 3) (by decide) (by decide) (by decide) (by decide)
  obtain ⟨b5, g5⟩ : ∃ z, z = h0.size := ⟨_, rfl⟩      -- the fresh array's address
  have Z5 : n0 ≤ h5.size := Nat.le_trans Z0 E5.1
  rw [← g5] at A5 st5
  have V_b5 : Arv Z h5 b5 k5 .long (3 : Int32) [(.long (0 : Int64)), (.long (0 : Int64)), (.long (0 : Int64))] (.long (0 : Int64)) := (Arv.new A5 (by decide)).pad (pad_rep [] (.long (0 : Int64)) 3)
  have g_b5 : n0 ≤ b5 := Nat.le_trans Z0 (Nat.le_of_eq g5.symm)
  have sz_b5 : h0.size ≤ b5 := (Nat.le_trans (Keep.refl h0 []).1 (Nat.le_of_eq g5.symm))
  have K5 : Keep h0 h5 [] := (Keep.refl h0 []).ext E5
  obtain ⟨T6, h6, X6, e6, E6, A6, D6, -, st6⟩ := newO X5 hx hZ hown (hw _ (List.mem_of_getElem? (i := 1) rfl)) (hw _ (List.mem_of_getElem? (i := 2) rfl)) (hw _ (List.mem_of_getElem? (i := 3) rfl)) e5 (g := (mkF m 40 #[.val (.long q1), .second, .val (.long q2), .second, .val (.long q3), .second, .val (.int p4), .val (.long (if (p4 &&& (16 : Int32)) = (0 : Int32) then q2 else q1)), .second, .val (.long (if (p4 &&& (32 : Int32)) = (0 : Int32) then q3 else (if (p4 &&& (16 : Int32)) = (0 : Int32) then q2 else q1))), .second, .val (.ref b5), .val (.int (0 : Int32)), .unset, .unset, .unset] [])) rfl (hb hby at_40) (by decide) (by decide)
  obtain ⟨b6, g6⟩ : ∃ z, z = h5.size := ⟨_, rfl⟩      -- the fresh object's address
  have Z6 : n0 ≤ h6.size := Nat.le_trans Z5 E6.1
  rw [← g6] at A6 D6 st6      -- A6 : Exa Z h6 b6 "com/example/tideshift/tideshift/partition/AccessCounts"; E6 : Ext h5 h6 (carries every older fact: .ext E6)
  have F_keys_b6 : Fld Z h6 b6 "com/example/tideshift/tideshift/partition/AccessCounts" "keys" "[J" .null := D6 (Or.inl (hw _ (List.mem_of_getElem? (i := 15) rfl))) (ty := (.array .long)) (by decide)
  have F_counts_b6 : Fld Z h6 b6 "com/example/tideshift/tideshift/partition/AccessCounts" "counts" "[J" .null := D6 (Or.inl (hw _ (List.mem_of_getElem? (i := 17) rfl))) (ty := (.array .long)) (by decide)
  have F_shift_b6 : Fld Z h6 b6 "com/example/tideshift/tideshift/partition/AccessCounts" "shift" "I" (.int (0 : Int32)) := D6 (Or.inl (hw _ (List.mem_of_getElem? (i := 24) rfl))) (ty := .int) (by decide)
  have F_size_b6 : Fld Z h6 b6 "com/example/tideshift/tideshift/partition/AccessCounts" "size" "I" (.int (0 : Int32)) := D6 (Or.inl (hw _ (List.mem_of_getElem? (i := 26) rfl))) (ty := .int) (by decide)
  have F_reset_b6 : Fld Z h6 b6 "com/example/tideshift/tideshift/partition/AccessCounts" "reset" "Ljava/util/Optional;" .null := D6 (Or.inl (hw _ (List.mem_of_getElem? (i := 33) rfl))) (ty := (.object "java/util/Optional")) (by decide)
  have E_b6 := A6
  have g_b6 : n0 ≤ b6 := Nat.le_trans (Nat.le_trans Z0 E5.1) (Nat.le_of_eq g6.symm)
  have sz_b6 : h0.size ≤ b6 := (Nat.le_trans K5.1 (Nat.le_of_eq g6.symm))
  have K6 : Keep h0 h6 [] := K5.ext E6
  have CV1_b5 := (V_b5.ext E6)
  have CE1_b6 := E_b6
  -- pc 44: the constructor of com/example/tideshift/tideshift/partition/AccessCounts by its contract rm1
  obtain ⟨_, _, ⟨T7, L7, k7, n7⟩, -, X7, ⟨Lc7, hQ7, l7, y7, z7⟩, st7⟩ := X6.specialBack hx (y := (⟨"com/example/tideshift/tideshift/partition/AccessCounts", "<init>", "()V"⟩ : MethodName)) rfl hown (mvT hZ (hw _ (List.mem_of_getElem? (i := 4) rfl))) (mvT hZ (hw _ (List.mem_of_getElem? (i := 5) rfl))) (mvT hZ (hw _ (List.mem_of_getElem? (i := 6) rfl))) (by decide) (backOf (W := 1) (rm1 l Z a0 hw [] b6 .null h6 n0 Z6 E_b6 F_reset_b6 g_b6 _ _ _ _ F_keys_b6 F_counts_b6 F_shift_b6 F_size_b6 w_E S_E ((X00.ext E5).ext E6)) hZ (hw _ (List.mem_of_getElem? (i := 6) rfl)) (hw _ (List.mem_of_getElem? (i := 3) rfl)) (by decide) (by decide)) (g := (mkF m 44 #[.val (.long q1), .second, .val (.long q2), .second, .val (.long q3), .second, .val (.int p4), .val (.long (if (p4 &&& (16 : Int32)) = (0 : Int32) then q2 else q1)), .second, .val (.long (if (p4 &&& (32 : Int32)) = (0 : Int32) then q3 else (if (p4 &&& (16 : Int32)) = (0 : Int32) then q2 else q1))), .second, .val (.ref b5), .val (.int (0 : Int32)), .unset, .unset, .unset] [(.ref b6), (.ref b6)])) rfl (by rw [hml]; rfl) (Steps.refl _) (a := b6) (argsL := []) (rest := [(.ref b6)]) (lenOf pd_0_0 rfl) rfl (by show 2 * 0 + _ ≤ _; exact Nat.le_of_eq rfl) (hb hby at_44) (fun _ _ => ⟨rfl, e6, (by decide : 2 + 2 ≤ _), (by decide : 8 + 32 ≤ _)⟩)
  dsimp only [Pt.U, Pt.locs, Pt.cells, Pt.slots] at X7 l7 y7 z7 st7 hQ7
  subst l7 y7 z7
  obtain ⟨rfl, N7q, K7q, t7, u7, A7s, A7g1, A7g2⟩ := hQ7
  have Z7 : n0 ≤ T7.heap.size := Nat.le_trans Z6 K7q.1
  have N7 := Fr.app N0 N7q
  have own_56 : b5 ≠ b6 := Nat.ne_of_lt (Nat.lt_of_lt_of_le (own_La_lt (own_La_new A5 rfl)) (Nat.le_of_eq g6.symm))
  have own_lt5 : b5 < h6.size := own_La_lt (own_La_ext (own_La_new A5 rfl) E6)
  obtain ⟨T8, h8, locs8, x8, r8, d8, X8, e8, N8, st8⟩ := own_all q1 (.val (.long q2)) .second (.val (.long q3)) .second p4 (if (p4 &&& (16 : Int32)) = (0 : Int32) then q2 else q1) (if (p4 &&& (32 : Int32)) = (0 : Int32) then q3 else (if (p4 &&& (16 : Int32)) = (0 : Int32) then q2 else q1)) b5 b6 .unset .unset n0 X7 hx hZ hw hby hml hown rfl ⟨N7, ((X00.ext E5).ext E6).keep K7q (allS g_b6 all0), t7, u7, _, _, _, _, A7s, own_Inv_nil _, own_La_keep (own_La_ext (own_La_new A5 rfl) E6) K7q (ninS own_56 nin0), fun i hi => absurd hi (Nat.not_lt_zero _), Nat.le_trans Z6 A7g1, Nat.le_trans Z6 A7g2, g_b6, g_b5, Nat.ne_of_lt (Nat.lt_of_lt_of_le own_lt5 A7g1), Nat.ne_of_lt (Nat.lt_of_lt_of_le own_lt5 A7g2), own_56⟩ own_cc (by decide) (by decide) One.u One.u
  obtain ⟨fs, hr, hrun, hended, hW, hsame⟩ := X8.leave (v := some (.int (1 : Int32))) (fun h => by rw [Bd.returns] at h; cases h)
  refine ⟨_, _, pre0 _ ?_, hrun, hended, _, _, rfl, ?_, ⟨_, rfl⟩, hW, hsame.mono (by decide) (by decide)⟩
  -- 4. STEPS
  · show Steps p.tables e below (s₁.setTop (mkF m 0 #[.val (.long q1), .second, .val (.long q2), .second, .val (.long q3), .second, .val (.int p4), .unset, .unset, .unset, .unset, .unset, .unset, .unset, .unset, .unset] [])) _
    refine jmp_0 _ ?_
    show Steps p.tables e below (s₁.setTop (mkF m 15 #[.val (.long q1), .second, .val (.long q2), .second, .val (.long q3), .second, .val (.int p4), .val (.long (if (p4 &&& (16 : Int32)) = (0 : Int32) then q2 else q1)), .second, .unset, .unset, .unset, .unset, .unset, .unset, .unset] [])) _
    refine jmp_15 _ ?_
    show Steps p.tables e below (s₁.setTop (mkF m 32 #[.val (.long q1), .second, .val (.long q2), .second, .val (.long q3), .second, .val (.int p4), .val (.long (if (p4 &&& (16 : Int32)) = (0 : Int32) then q2 else q1)), .second, .val (.long (if (p4 &&& (32 : Int32)) = (0 : Int32) then q3 else (if (p4 &&& (16 : Int32)) = (0 : Int32) then q2 else q1))), .second, .unset, .unset, .unset, .unset, .unset] [])) _
    refine XS.iconst X0.here hx rfl (hb hby at_32) ?_
    show Steps p.tables e below (s₁.setTop (mkF m 33 #[.val (.long q1), .second, .val (.long q2), .second, .val (.long q3), .second, .val (.int p4), .val (.long (if (p4 &&& (16 : Int32)) = (0 : Int32) then q2 else q1)), .second, .val (.long (if (p4 &&& (32 : Int32)) = (0 : Int32) then q3 else (if (p4 &&& (16 : Int32)) = (0 : Int32) then q2 else q1))), .second, .unset, .unset, .unset, .unset, .unset] [(.int (3 : Int32))])) _
    refine st5 _ ?_
    show Steps p.tables e below (T5.setTop (mkF m 35 #[.val (.long q1), .second, .val (.long q2), .second, .val (.long q3), .second, .val (.int p4), .val (.long (if (p4 &&& (16 : Int32)) = (0 : Int32) then q2 else q1)), .second, .val (.long (if (p4 &&& (32 : Int32)) = (0 : Int32) then q3 else (if (p4 &&& (16 : Int32)) = (0 : Int32) then q2 else q1))), .second, .unset, .unset, .unset, .unset, .unset] [(.ref b5)])) _
    refine XS.astore X5.here hx rfl (hb hby at_35) rfl rfl (l' := #[.val (.long q1), .second, .val (.long q2), .second, .val (.long q3), .second, .val (.int p4), .val (.long (if (p4 &&& (16 : Int32)) = (0 : Int32) then q2 else q1)), .second, .val (.long (if (p4 &&& (32 : Int32)) = (0 : Int32) then q3 else (if (p4 &&& (16 : Int32)) = (0 : Int32) then q2 else q1))), .second, .val (.ref b5), .unset, .unset, .unset, .unset]) rfl ?_
    show Steps p.tables e below (T5.setTop (mkF m 37 #[.val (.long q1), .second, .val (.long q2), .second, .val (.long q3), .second, .val (.int p4), .val (.long (if (p4 &&& (16 : Int32)) = (0 : Int32) then q2 else q1)), .second, .val (.long (if (p4 &&& (32 : Int32)) = (0 : Int32) then q3 else (if (p4 &&& (16 : Int32)) = (0 : Int32) then q2 else q1))), .second, .val (.ref b5), .unset, .unset, .unset, .unset] [])) _
    refine XS.iconst X5.here hx rfl (hb hby at_37) ?_
    show Steps p.tables e below (T5.setTop (mkF m 38 #[.val (.long q1), .second, .val (.long q2), .second, .val (.long q3), .second, .val (.int p4), .val (.long (if (p4 &&& (16 : Int32)) = (0 : Int32) then q2 else q1)), .second, .val (.long (if (p4 &&& (32 : Int32)) = (0 : Int32) then q3 else (if (p4 &&& (16 : Int32)) = (0 : Int32) then q2 else q1))), .second, .val (.ref b5), .unset, .unset, .unset, .unset] [(.int (0 : Int32))])) _
    refine XS.istore X5.here hx rfl (hb hby at_38) rfl (l' := #[.val (.long q1), .second, .val (.long q2), .second, .val (.long q3), .second, .val (.int p4), .val (.long (if (p4 &&& (16 : Int32)) = (0 : Int32) then q2 else q1)), .second, .val (.long (if (p4 &&& (32 : Int32)) = (0 : Int32) then q3 else (if (p4 &&& (16 : Int32)) = (0 : Int32) then q2 else q1))), .second, .val (.ref b5), .val (.int (0 : Int32)), .unset, .unset, .unset]) rfl ?_
    show Steps p.tables e below (T5.setTop (mkF m 40 #[.val (.long q1), .second, .val (.long q2), .second, .val (.long q3), .second, .val (.int p4), .val (.long (if (p4 &&& (16 : Int32)) = (0 : Int32) then q2 else q1)), .second, .val (.long (if (p4 &&& (32 : Int32)) = (0 : Int32) then q3 else (if (p4 &&& (16 : Int32)) = (0 : Int32) then q2 else q1))), .second, .val (.ref b5), .val (.int (0 : Int32)), .unset, .unset, .unset] [])) _
    refine st6 _ ?_
    show Steps p.tables e below (T6.setTop (mkF m 43 #[.val (.long q1), .second, .val (.long q2), .second, .val (.long q3), .second, .val (.int p4), .val (.long (if (p4 &&& (16 : Int32)) = (0 : Int32) then q2 else q1)), .second, .val (.long (if (p4 &&& (32 : Int32)) = (0 : Int32) then q3 else (if (p4 &&& (16 : Int32)) = (0 : Int32) then q2 else q1))), .second, .val (.ref b5), .val (.int (0 : Int32)), .unset, .unset, .unset] [(.ref b6)])) _
    refine XS.dup X6.here hx rfl (hb hby at_43) rfl rfl ?_
    show Steps p.tables e below (T6.setTop (mkF m 44 #[.val (.long q1), .second, .val (.long q2), .second, .val (.long q3), .second, .val (.int p4), .val (.long (if (p4 &&& (16 : Int32)) = (0 : Int32) then q2 else q1)), .second, .val (.long (if (p4 &&& (32 : Int32)) = (0 : Int32) then q3 else (if (p4 &&& (16 : Int32)) = (0 : Int32) then q2 else q1))), .second, .val (.ref b5), .val (.int (0 : Int32)), .unset, .unset, .unset] [(.ref b6), (.ref b6)])) _
    refine st7.trans ?_
    show Steps p.tables e below (T7.setTop (mkF m 47 #[.val (.long q1), .second, .val (.long q2), .second, .val (.long q3), .second, .val (.int p4), .val (.long (if (p4 &&& (16 : Int32)) = (0 : Int32) then q2 else q1)), .second, .val (.long (if (p4 &&& (32 : Int32)) = (0 : Int32) then q3 else (if (p4 &&& (16 : Int32)) = (0 : Int32) then q2 else q1))), .second, .val (.ref b5), .val (.int (0 : Int32)), .unset, .unset, .unset] [(.ref b6)])) _
    refine XS.astore X7.here hx rfl (hb hby at_47) rfl rfl (l' := #[.val (.long q1), .second, .val (.long q2), .second, .val (.long q3), .second, .val (.int p4), .val (.long (if (p4 &&& (16 : Int32)) = (0 : Int32) then q2 else q1)), .second, .val (.long (if (p4 &&& (32 : Int32)) = (0 : Int32) then q3 else (if (p4 &&& (16 : Int32)) = (0 : Int32) then q2 else q1))), .second, .val (.ref b5), .val (.int (0 : Int32)), .val (.ref b6), .unset, .unset]) rfl ?_
    show Steps p.tables e below (T7.setTop (mkF m 49 #[.val (.long q1), .second, .val (.long q2), .second, .val (.long q3), .second, .val (.int p4), .val (.long (if (p4 &&& (16 : Int32)) = (0 : Int32) then q2 else q1)), .second, .val (.long (if (p4 &&& (32 : Int32)) = (0 : Int32) then q3 else (if (p4 &&& (16 : Int32)) = (0 : Int32) then q2 else q1))), .second, .val (.ref b5), .val (.int (0 : Int32)), .val (.ref b6), .unset, .unset] [])) _
    refine st8 _ ?_
    show Steps p.tables e below (T8.setTop (mkF m 354 #[.val (.long q1), .second, .val (.long q2), .second, .val (.long q3), .second, .val (.int p4), .val (.long (if (p4 &&& (16 : Int32)) = (0 : Int32) then q2 else q1)), .second, .val (.long (if (p4 &&& (32 : Int32)) = (0 : Int32) then q3 else (if (p4 &&& (16 : Int32)) = (0 : Int32) then q2 else q1))), .second, .val (.ref b5), .val (.int x8), .val (.ref b6), .val (.ref r8), .val (.int d8)] [])) _
    refine XS.iconst X8.here hx rfl (hb hby at_354) ?_
    show Steps p.tables e below (T8.setTop (mkF m 355 #[.val (.long q1), .second, .val (.long q2), .second, .val (.long q3), .second, .val (.int p4), .val (.long (if (p4 &&& (16 : Int32)) = (0 : Int32) then q2 else q1)), .second, .val (.long (if (p4 &&& (32 : Int32)) = (0 : Int32) then q3 else (if (p4 &&& (16 : Int32)) = (0 : Int32) then q2 else q1))), .second, .val (.ref b5), .val (.int x8), .val (.ref b6), .val (.ref r8), .val (.int d8)] [(.int (1 : Int32))])) _
    exact retN X8 hx (t := .boolean) Bd.returns (by simp) (hb hby at_355) hr
  · show Q0 Z q1 q2 q3 p4 h0 n0 _ T8.heap _
    rw [e8]
    exact ⟨rfl, N8⟩
def own_T : Jvm.Term := .static "java/lang/Long$LongCache" "cache" "[Ljava/lang/Long;"
theorem own_cache_start {s : State} {a : Array Value} (h2 : (Jvm.Cond.initializedFor "java/lang/Long$LongCache" "cache" "[Ljava/lang/Long;").before a s = true) (h3 : (Jvm.Cond.arrayOf own_T (.object "java/lang/Long")).before a s = true) (h5 : (Jvm.Cond.eq (.length own_T) (.int 256)).before a s = true)
    (h6 : (Jvm.Cond.all own_T (.and (.exactly (.elem own_T (.index 0)) "java/lang/Long") (.eq (.field (.elem own_T (.index 0)) "java/lang/Long" "value" "J") (.op1 .i2l (.sub (.index 0) (.int 128)))))).before a s = true) : own_cache s s.heap := by
  have v3 := Cond.before_iff.mp h3
  obtain ⟨w, ev⟩ := arr_v v3
  obtain ⟨cl, Ar⟩ := Arr.start ev v3
  have hev : ∀ idx, own_T.eval a s none idx s = some (.ref w) := fun idx => ev
  have hA : s.arrayAt? w = some cl := Arr.fin (Vm.Alike.refl _) Ar
  have hsz : cl.slots.size = 256 := by
    have v5 := Cond.before_iff.mp h5
    by_cases hl : cl.slots.size < 2 ^ 31
    · have e1 := len_f ev hA hl
      have e2 : cl.slots.size.toInt32 = 256 := by simpa [Cond.value, Term.eval, ev, hA, hl] using v5
      have e3 := congrArg Int32.toInt e2
      rw [show cl.slots.size.toInt32.toInt = (cl.slots.size : Int) from Int32.toInt_ofNat_small hl, show (256 : Int32).toInt = 256 from by decide] at e3
      omega
    · exfalso
      simp [Cond.value, Term.eval, ev, hA, hl] at v5
  refine ⟨w, cl, Sta.start ev (Or.inl h2), Ar, hsz, fun i hi => ?_⟩
  have q := Cond.all_elim ev hA (Cond.before_iff.mp h6) i (by omega)
  obtain ⟨q1, -⟩ := and_e q
  obtain ⟨b, c', cell, k, e1, e2, e3, e4, e5, rfl, e7⟩ := Cond.exactly_spec (args := a) (first := s) (o := none) (s := s) (idx := [i]) (by simpa [Cond.holds] using q1)
  have hj : (Jvm.Term.index 0).eval a s none [i] s = some (.int (Int32.ofNat i)) := rfl
  have hn : (Int32.ofNat i).toNatClampNeg = i := clamp_of rfl (by omega)
  have hp : ¬ Int32.ofNat i < 0 := by
    rw [Int32.lt_iff_toInt_lt, toInt_of (c := i) rfl (by omega), Int32.toInt_zero]; omega
  have he := elem_f (hev [i]) hj hA hp
  rw [hn] at he
  exact ⟨b, he.symm.trans e1, cell, k, e3, e2, e4, e5, e7⟩
set_option maxRecDepth 65536 in
set_option maxHeartbeats 40000000 in
theorem comes_1 {Post : Tables → Env → Array Value → State → Outcome → State → Prop} (hpost : ∀ tb e args s v u, (limb_1_1.after args s (.returned v) u = true ∧ limb_1_2.after args s (.returned v) u = true ∧ True) → FrameEnd s (.returned v) u (Jvm.fieldLocs frame_1_writes args s ++ Jvm.arrayLocs frame_1_arrays args s ++ Jvm.staticLocs frame_1_statics s) 32 256 → Post tb e args s (.returned v) u) :
    ArmFor flags0 classFile x code maxLocals ret World_1 tables_1 room_1 Calls_1 rest_1 Pre_1 Post := by
  intro l hfl _ _ p e ha hc hk s m args below hf hA hF happ hP
  obtain ⟨hcalls, hrest, hpre⟩ := hP
  obtain ⟨-, -, -, hnamed, -, -, -, hat⟩ := (Spec.applies_iff hf).mp happ
  obtain ⟨hg, hn⟩ := and_e (Cond.before_iff.mp (show (Jvm.Cond.and given_1 narrow_1).before args s = true from hpre))
  obtain ⟨g9, g10⟩ := and_e hg
  obtain ⟨g11, g12⟩ := and_e g10
  obtain ⟨g13, g14⟩ := and_e g12
  obtain ⟨g15, g16⟩ := and_e g14
  obtain ⟨w0, w1, w2, w3, rfl⟩ : ∃ w0 w1 w2 w3 : Value, args = #[w0, w1, w2, w3] := by
    have hs : args.size = 4 := by simpa [Cond.value, given_1] using g9
    obtain ⟨L⟩ := args
    match L, hs with
    | [w0, w1, w2, w3], _ => exact ⟨w0, w1, w2, w3, rfl⟩
  have hw := fun d (hd : d ∈ tables_1) => atoms_spec (ws := Jvm.Cond.code x code maxLocals ret :: tables_1) hat d (List.mem_cons_of_mem _ hd)
  have hfit : Fit s := fun {y c} hc i hi => by
    obtain ⟨ha, rfl⟩ := Array.getElem?_eq_some_iff.mp hc
    have q := List.all_eq_true.mp ((Array.all_eq_true_iff_forall_mem.mp hF) _ (Array.getElem_mem ha)) i (List.mem_range.mpr hi)
    simpa [Array.getElem?_eq_getElem hi] using q
  -- the named sets: hsets indexes jdkStatics_1 (Statement.lean): (hsets _ (List.mem_of_getElem? (i := n) rfl)) is its n-th word, before the call
  obtain ⟨hsets, hown0⟩ := atoms_of _ (rest_1_c_eq ▸ (show rest_1_c.before _ s = true from hrest))
  have hr0 := Cond.before_iff.mp hown0
  obtain ⟨w_E, hwE⟩ := exa_v (Cond.before_iff.mp (hsets _ (List.mem_of_getElem? (i := 2) rfl)))
  have S_E := Sta.start hwE (Or.inl (hsets _ (List.mem_of_getElem? (i := 1) rfl)))
  obtain ⟨i0, ei0⟩ := isL_v g11
  obtain rfl : w0 = (.long i0) := Option.some.inj ei0
  obtain ⟨i1, ei1⟩ := isL_v g13
  obtain rfl : w1 = (.long i1) := Option.some.inj ei1
  obtain ⟨i2, ei2⟩ := isL_v g15
  obtain rfl : w2 = (.long i2) := Option.some.inj ei2
  obtain ⟨i3, ei3⟩ := is_v g16
  obtain rfl : w3 = (.int i3) := Option.some.inj ei3
  obtain ⟨n, o, h1, h2, h3, _, L, rfl, ⟨rfl, N⟩, hq⟩ := rm0 l s _ hw tables_1 i0 i1 i2 i3 s.heap s.heap.size (Nat.le_refl _) w_E S_E (own_cache_start (hsets _ (List.mem_of_getElem? (i := 5) rfl)) (hsets _ (List.mem_of_getElem? (i := 6) rfl)) (hsets _ (List.mem_of_getElem? (i := 8) rfl)) (hsets _ (List.mem_of_getElem? (i := 9) rfl))) (Old.start s) p e ha hc hk s m _ below hf ((Spec.applies_iff_loose hf).mp happ).1 ⟨rfl, State.Warmed39.refl s, rfl⟩ trivial
  refine ⟨n, _, h1, h2, h3, hpost _ _ _ _ _ _ ⟨Cond.after_iff.mpr rfl, Cond.after_iff.mpr (eq_i res_at (Term.int_eval (1)) rfl), trivial⟩ ⟨hq.1, hq.2.1, (hq.2.2.sift fun y hy => Or.inr (N y hy)).mono (by decide) (by decide)⟩⟩
theorem main_1_1 : Claimed_1_1 := comes_1 fun _ _ _ _ _ _ h hF => ⟨h.1, hF⟩
theorem main_1_2 : Claimed_1_2 := comes_1 fun _ _ _ _ _ _ h hF => ⟨h.2.1, hF⟩
end Jvm.Pilot.@@N@@
namespace Jvm.Pilot.@@N@@
open Jvm Jvm.ClassFile Sem Op Lib Jvm.Free Jvm.Stand Jvm.Pilot.@@N@@.Jvm.D
/-! MADE BY PROGRAM (witnessworld.py) out of the Statement's table words and the real class files: 21 classes; the members and pool entries that the words name. The judged class is class 1, her method 1. -/
namespace start1
open Jvm.ClassFile
def u (s : String) : CpInfo := .utf8 (stringToUtf16 s)
/-- a pool by its gaps: so many unusable entries, then the entry; so many at the end -/
def gap : Nat → List CpInfo → List CpInfo
  | 0, r => r
  | n + 1, r => .unusable :: gap n r
def poolList (es : List (Nat × CpInfo)) (last : Nat) : List CpInfo := es.foldr (fun e r => gap e.1 (e.2 :: r)) (gap last [])
def pool (es : List (Nat × CpInfo)) (last : Nat) : Array CpInfo := ⟨poolList es last⟩
def fileOf (pool : Array CpInfo) (this : Nat) (attrs : Array Attribute := #[]) (ms : Array MethodInfo := #[]) (fl : Nat := 33) (sup : Nat := 0) (ifs : Array Nat := #[]) (fds : Array FieldInfo := #[]) : ClassFile where
  minorVersion := 0
  majorVersion := 65
  constantPool := pool
  accessFlags := fl
  thisClass := this
  superClass := sup
  interfaces := ifs
  fields := fds
  methods := ms
  attributes := attrs
def plain (name : String) (sup : Option ClassId) : Class where
  name := name
  kind := .ordinary
  loader := none
  accessFlags := 33
  super := sup
  interfaces := #[]
  cf := none
  fields := #[]
  methods := #[]
  instanceTypes := #[]
  staticTypes := #[]
  resolved := #[]
  callSites := []
  init := .initialized
  statics := none
  mirror := none

def pool0 : Array CpInfo := pool [(5, u "<init>"), (0, u "()V"), (1, .class_ 10), (1, u "java/lang/Object")] 113

def k0c0 : Code := { maxStack := 0, maxLocals := 1, code := object_method_1_code, exceptionTable := #[], attributes := #[] }
def k0m0 : Method := { name := "<init>", desc := "()V", sig := { parameters := [], returnType := none }, accessFlags := 1, code := some k0c0 }
/-- java/lang/Object -/
def k0 : Class := { plain "java/lang/Object" none with
  accessFlags := 33
  interfaces := #[]
  cf := some (fileOf pool0 8 #[] #[{ accessFlags := 1, nameIndex := 5, descriptorIndex := 6, attributes := #[] }] 33 0 #[] #[])
  fields := #[]
  methods := #[k0m0]
  instanceTypes := #[]
  staticTypes := #[]
  resolved := Array.replicate 124 none
  statics := none }

def pool1 : Array CpInfo := pool [(2, .class_ 4), (0, .nameAndType 5 6), (0, u "java/lang/Object"), (0, u "<init>"), (0, u "()V"), (0, .class_ 8), (0, u "com/example/tideshift/tideshift/partition/AccessCounts"), (0, .methodref 7 3), (0, .methodref 7 11), (0, .nameAndType 12 13), (0, u "add"), (0, u "(J)V"), (0, .methodref 7 15), (0, .nameAndType 16 13), (0, u "clear"), (0, .methodref 7 18), (0, .nameAndType 19 20), (0, u "keys"), (0, u "()[J"), (0, .methodref 22 23), (0, .class_ 24), (0, .nameAndType 25 26), (0, u "com/example/tideshift/tideshift/partition/AccessCountsKeysPinLaw"), (0, u "inE"), (0, u "(J[JI)Z"), (0, .methodref 22 28), (0, .nameAndType 29 30), (0, u "inR"), (0, u "(J[J)Z"), (2, u "law"), (0, u "(JJJI)Z")] 5

def k1m0 : Method := { name := "<init>", desc := "()V", sig := { parameters := [], returnType := none }, accessFlags := 1, code := none }
def k1c1 : Code := { maxStack := 4, maxLocals := 16, code := code, exceptionTable := #[], attributes := #[] }
def k1m1 : Method := { name := "law", desc := "(JJJI)Z", sig := { parameters := [.long, .long, .long, .int], returnType := some .boolean }, accessFlags := 9, code := some k1c1 }
def k1c2 : Code := { maxStack := 4, maxLocals := 4, code := method_3_code, exceptionTable := #[], attributes := #[] }
def k1m2 : Method := { name := "inE", desc := "(J[JI)Z", sig := { parameters := [.long, (.array .long), .int], returnType := some .boolean }, accessFlags := 10, code := some k1c2 }
def k1c3 : Code := { maxStack := 4, maxLocals := 3, code := method_4_code, exceptionTable := #[], attributes := #[] }
def k1m3 : Method := { name := "inR", desc := "(J[J)Z", sig := { parameters := [.long, (.array .long)], returnType := some .boolean }, accessFlags := 10, code := some k1c3 }
/-- com/example/tideshift/tideshift/partition/AccessCountsKeysPinLaw -/
def k1 : Class := { plain "com/example/tideshift/tideshift/partition/AccessCountsKeysPinLaw" (some 0) with
  accessFlags := 49
  interfaces := #[]
  cf := some (fileOf pool1 22 #[] #[{ accessFlags := 1, nameIndex := 5, descriptorIndex := 6, attributes := #[] }, { accessFlags := 9, nameIndex := 33, descriptorIndex := 34, attributes := #[] }, { accessFlags := 10, nameIndex := 25, descriptorIndex := 26, attributes := #[] }, { accessFlags := 10, nameIndex := 29, descriptorIndex := 30, attributes := #[] }] 49 2 #[] #[])
  fields := #[]
  methods := #[k1m0, k1m1, k1m2, k1m3]
  instanceTypes := #[]
  staticTypes := #[]
  resolved := Array.replicate 40 none
  statics := none }

def pool2 : Array CpInfo := pool [(1, .methodref 2 3), (0, .class_ 4), (0, .nameAndType 5 6), (0, u "java/lang/Object"), (0, u "<init>"), (0, u "()V"), (0, .methodref 8 9), (0, .class_ 10), (0, .nameAndType 11 6), (0, u "com/example/tideshift/tideshift/partition/AccessCounts"), (0, u "empty"), (0, .methodref 13 14), (0, .class_ 15), (0, .nameAndType 11 16), (0, u "java/util/Optional"), (0, u "()Ljava/util/Optional;"), (0, .fieldref 8 18), (0, .nameAndType 19 20), (0, u "reset"), (0, u "Ljava/util/Optional;"), (0, .fieldref 8 22), (0, .nameAndType 23 24), (0, u "keys"), (0, u "[J"), (0, .fieldref 8 26), (0, .nameAndType 27 24), (0, u "counts"), (0, .fieldref 8 29), (0, .nameAndType 30 31), (0, u "shift"), (0, u "I"), (0, .fieldref 8 33), (0, .nameAndType 34 31), (0, u "size"), (0, .methodref 8 36), (0, .nameAndType 37 38), (0, u "placeOf"), (0, u "(J)I"), (3, .methodref 43 44), (0, .class_ 45), (0, .nameAndType 46 47), (0, u "java/lang/Long"), (0, u "valueOf"), (0, u "(J)Ljava/lang/Long;"), (0, .methodref 13 49), (0, .nameAndType 50 51), (0, u "of"), (0, u "(Ljava/lang/Object;)Ljava/util/Optional;"), (8, .methodref 61 62), (0, .class_ 63), (0, .nameAndType 64 65), (0, u "java/lang/Integer"), (0, u "numberOfTrailingZeros"), (0, u "(I)I"), (0, .long 11400714819323198485), (1, u "FIRST_CAPACITY"), (2, u "SPREAD"), (0, u "J"), (5, u "add"), (0, u "(J)V"), (4, u "()[J"), (0, u "clear")] 5

def k2c0 : Code := { maxStack := 2, maxLocals := 1, code := prog_58_method_1_code, exceptionTable := #[], attributes := #[] }
def k2m0 : Method := { name := "<init>", desc := "()V", sig := { parameters := [], returnType := none }, accessFlags := 1, code := some k2c0 }
def k2c1 : Code := { maxStack := 6, maxLocals := 4, code := prog_58_method_3_code, exceptionTable := #[], attributes := #[] }
def k2m1 : Method := { name := "add", desc := "(J)V", sig := { parameters := [.long], returnType := none }, accessFlags := 1, code := some k2c1 }
def k2c2 : Code := { maxStack := 4, maxLocals := 4, code := prog_58_method_6_code, exceptionTable := #[], attributes := #[] }
def k2m2 : Method := { name := "keys", desc := "()[J", sig := { parameters := [], returnType := some (.array .long) }, accessFlags := 1, code := some k2c2 }
def k2c3 : Code := { maxStack := 3, maxLocals := 3, code := prog_58_method_7_code, exceptionTable := #[], attributes := #[] }
def k2m3 : Method := { name := "clear", desc := "(J)V", sig := { parameters := [.long], returnType := none }, accessFlags := 1, code := some k2c3 }
def k2c4 : Code := { maxStack := 3, maxLocals := 1, code := prog_58_method_10_code, exceptionTable := #[], attributes := #[] }
def k2m4 : Method := { name := "empty", desc := "()V", sig := { parameters := [], returnType := none }, accessFlags := 2, code := some k2c4 }
def k2c5 : Code := { maxStack := 4, maxLocals := 5, code := prog_58_method_11_code, exceptionTable := #[], attributes := #[] }
def k2m5 : Method := { name := "placeOf", desc := "(J)I", sig := { parameters := [.long], returnType := some .int }, accessFlags := 2, code := some k2c5 }
/-- com/example/tideshift/tideshift/partition/AccessCounts -/
def k2 : Class := { plain "com/example/tideshift/tideshift/partition/AccessCounts" (some 0) with
  accessFlags := 49
  interfaces := #[]
  cf := some (fileOf pool2 8 #[] #[{ accessFlags := 1, nameIndex := 5, descriptorIndex := 6, attributes := #[] }, { accessFlags := 1, nameIndex := 78, descriptorIndex := 79, attributes := #[] }, { accessFlags := 1, nameIndex := 23, descriptorIndex := 84, attributes := #[] }, { accessFlags := 1, nameIndex := 85, descriptorIndex := 79, attributes := #[] }, { accessFlags := 2, nameIndex := 11, descriptorIndex := 6, attributes := #[] }, { accessFlags := 2, nameIndex := 37, descriptorIndex := 38, attributes := #[] }] 49 2 #[] #[{ accessFlags := 26, nameIndex := 68, descriptorIndex := 31, attributes := #[] }, { accessFlags := 26, nameIndex := 71, descriptorIndex := 72, attributes := #[] }, { accessFlags := 2, nameIndex := 23, descriptorIndex := 24, attributes := #[] }, { accessFlags := 2, nameIndex := 27, descriptorIndex := 24, attributes := #[] }, { accessFlags := 2, nameIndex := 30, descriptorIndex := 31, attributes := #[] }, { accessFlags := 2, nameIndex := 34, descriptorIndex := 31, attributes := #[] }, { accessFlags := 2, nameIndex := 19, descriptorIndex := 20, attributes := #[] }])
  fields := #[{ name := "FIRST_CAPACITY", type := .int, accessFlags := 26, slot := 0, constantValue := 0 }, { name := "SPREAD", type := .long, accessFlags := 26, slot := 1, constantValue := 0 }, { name := "keys", type := (.array .long), accessFlags := 2, slot := 0, constantValue := 0 }, { name := "counts", type := (.array .long), accessFlags := 2, slot := 1, constantValue := 0 }, { name := "shift", type := .int, accessFlags := 2, slot := 2, constantValue := 0 }, { name := "size", type := .int, accessFlags := 2, slot := 3, constantValue := 0 }, { name := "reset", type := (.object "java/util/Optional"), accessFlags := 2, slot := 4, constantValue := 0 }]
  methods := #[k2m0, k2m1, k2m2, k2m3, k2m4, k2m5]
  instanceTypes := #[(.array .long), (.array .long), .int, .int, (.object "java/util/Optional")]
  staticTypes := #[.int, .long]
  resolved := Array.replicate 91 none
  statics := none }

def pool3 : Array CpInfo := pool [(1, .class_ 2), (0, u "java/io/Serializable"), (0, .class_ 4), (0, u "java/lang/Object")] 2

/-- java/io/Serializable -/
def k3 : Class := { plain "java/io/Serializable" (some 0) with
  accessFlags := 1537
  interfaces := #[]
  cf := some (fileOf pool3 1 #[] #[] 1537 3 #[] #[])
  fields := #[]
  methods := #[]
  instanceTypes := #[]
  staticTypes := #[]
  resolved := Array.replicate 7 none
  statics := none }

def pool4 : Array CpInfo := pool [(1, .methodref 2 3), (0, .class_ 4), (0, .nameAndType 5 6), (0, u "java/lang/Object"), (0, u "<init>"), (0, u "()V"), (1, .class_ 10), (1, u "java/lang/Number"), (2, .class_ 14), (0, u "java/io/Serializable"), (0, u "serialVersionUID"), (0, u "J")] 20

def k4c0 : Code := { maxStack := 1, maxLocals := 1, code := jdk_18_method_1_code, exceptionTable := #[], attributes := #[] }
def k4m0 : Method := { name := "<init>", desc := "()V", sig := { parameters := [], returnType := none }, accessFlags := 1, code := some k4c0 }
/-- java/lang/Number -/
def k4 : Class := { plain "java/lang/Number" (some 0) with
  accessFlags := 1057
  interfaces := #[3]
  cf := some (fileOf pool4 8 #[] #[{ accessFlags := 1, nameIndex := 5, descriptorIndex := 6, attributes := #[] }] 1057 2 #[13] #[{ accessFlags := 26, nameIndex := 15, descriptorIndex := 16, attributes := #[] }])
  fields := #[{ name := "serialVersionUID", type := .long, accessFlags := 26, slot := 0, constantValue := 0 }]
  methods := #[k4m0]
  instanceTypes := #[]
  staticTypes := #[.long]
  resolved := Array.replicate 37 none
  statics := none }

def pool5 : Array CpInfo := pool [(1, .class_ 2), (0, u "java/lang/Comparable"), (0, .class_ 4), (0, u "java/lang/Object")] 7

/-- java/lang/Comparable -/
def k5 : Class := { plain "java/lang/Comparable" (some 0) with
  accessFlags := 1537
  interfaces := #[]
  cf := some (fileOf pool5 1 #[] #[] 1537 3 #[] #[])
  fields := #[]
  methods := #[]
  instanceTypes := #[]
  staticTypes := #[]
  resolved := Array.replicate 12 none
  statics := none }

def pool6 : Array CpInfo := pool [(1, .class_ 2), (0, u "java/lang/constant/Constable"), (0, .class_ 4), (0, u "java/lang/Object")] 6

/-- java/lang/constant/Constable -/
def k6 : Class := { plain "java/lang/constant/Constable" (some 0) with
  accessFlags := 1537
  interfaces := #[]
  cf := some (fileOf pool6 1 #[] #[] 1537 3 #[] #[])
  fields := #[]
  methods := #[]
  instanceTypes := #[]
  staticTypes := #[]
  resolved := Array.replicate 11 none
  statics := none }

def pool7 : Array CpInfo := pool [(1, .class_ 2), (0, u "java/lang/constant/ConstantDesc"), (0, .class_ 4), (0, u "java/lang/Object")] 32

/-- java/lang/constant/ConstantDesc -/
def k7 : Class := { plain "java/lang/constant/ConstantDesc" (some 0) with
  accessFlags := 1537
  interfaces := #[]
  cf := some (fileOf pool7 1 #[] #[] 1537 3 #[] #[])
  fields := #[]
  methods := #[]
  instanceTypes := #[]
  staticTypes := #[]
  resolved := Array.replicate 37 none
  statics := none }

def pool8 : Array CpInfo := pool [(1, .class_ 2), (0, u "java/lang/Integer"), (16, u "digits"), (0, u "[C"), (33, u "(I)I"), (30, u "DigitOnes"), (0, u "[B"), (2, u "DigitTens"), (99, .class_ 190), (0, u "java/lang/Integer$IntegerCache"), (3, u "I"), (8, .class_ 204), (0, u "java/lang/Number"), (2, u "value"), (56, .integer 65536), (37, u "TYPE"), (0, u "Ljava/lang/Class;"), (0, .class_ 305), (0, u "java/lang/Comparable"), (0, .class_ 307), (0, u "java/lang/constant/Constable"), (0, .class_ 309), (0, u "java/lang/constant/ConstantDesc"), (0, u "MIN_VALUE"), (1, u "MAX_VALUE"), (3, u "SIZE"), (1, u "BYTES"), (1, u "serialVersionUID"), (0, u "J"), (84, u "numberOfTrailingZeros")] 46

def k8c0 : Code := { maxStack := 3, maxLocals := 2, code := jdk_33_method_48_code, exceptionTable := #[], attributes := #[] }
def k8m0 : Method := { name := "numberOfTrailingZeros", desc := "(I)I", sig := { parameters := [.int], returnType := some .int }, accessFlags := 9, code := some k8c0 }
/-- java/lang/Integer -/
def k8 : Class := { plain "java/lang/Integer" (some 4) with
  accessFlags := 49
  interfaces := #[5, 6, 7]
  cf := some (fileOf pool8 1 #[.nestMembers #[189]] #[{ accessFlags := 9, nameIndex := 406, descriptorIndex := 54, attributes := #[] }] 49 203 #[304, 306, 308] #[{ accessFlags := 25, nameIndex := 310, descriptorIndex := 194, attributes := #[] }, { accessFlags := 25, nameIndex := 312, descriptorIndex := 194, attributes := #[] }, { accessFlags := 25, nameIndex := 302, descriptorIndex := 303, attributes := #[] }, { accessFlags := 24, nameIndex := 19, descriptorIndex := 20, attributes := #[] }, { accessFlags := 24, nameIndex := 89, descriptorIndex := 86, attributes := #[] }, { accessFlags := 24, nameIndex := 85, descriptorIndex := 86, attributes := #[] }, { accessFlags := 18, nameIndex := 207, descriptorIndex := 194, attributes := #[] }, { accessFlags := 25, nameIndex := 316, descriptorIndex := 194, attributes := #[] }, { accessFlags := 25, nameIndex := 318, descriptorIndex := 194, attributes := #[] }, { accessFlags := 26, nameIndex := 320, descriptorIndex := 321, attributes := #[] }])
  fields := #[{ name := "MIN_VALUE", type := .int, accessFlags := 25, slot := 0, constantValue := 0 }, { name := "MAX_VALUE", type := .int, accessFlags := 25, slot := 1, constantValue := 0 }, { name := "TYPE", type := (.object "java/lang/Class"), accessFlags := 25, slot := 2, constantValue := 0 }, { name := "digits", type := (.array .char), accessFlags := 24, slot := 3, constantValue := 0 }, { name := "DigitTens", type := (.array .byte), accessFlags := 24, slot := 4, constantValue := 0 }, { name := "DigitOnes", type := (.array .byte), accessFlags := 24, slot := 5, constantValue := 0 }, { name := "value", type := .int, accessFlags := 18, slot := 0, constantValue := 0 }, { name := "SIZE", type := .int, accessFlags := 25, slot := 6, constantValue := 0 }, { name := "BYTES", type := .int, accessFlags := 25, slot := 7, constantValue := 0 }, { name := "serialVersionUID", type := .long, accessFlags := 26, slot := 8, constantValue := 0 }]
  methods := #[k8m0]
  instanceTypes := #[.int]
  staticTypes := #[.int, .int, (.object "java/lang/Class"), (.array .char), (.array .byte), (.array .byte), .int, .int, .long]
  resolved := Array.replicate 453 none
  statics := none }

def pool9 : Array CpInfo := pool [(1, .fieldref 2 3), (0, .class_ 4), (0, .nameAndType 5 6), (0, u "java/util/Optional"), (0, u "EMPTY"), (0, u "Ljava/util/Optional;"), (0, .methodref 8 9), (0, .class_ 10), (0, .nameAndType 11 12), (0, u "java/lang/Object"), (0, u "<init>"), (0, u "()V"), (0, .fieldref 2 14), (0, .nameAndType 15 16), (0, u "value"), (0, u "Ljava/lang/Object;"), (0, .methodref 18 19), (0, .class_ 20), (0, .nameAndType 21 22), (0, u "java/util/Objects"), (0, u "requireNonNull"), (0, u "(Ljava/lang/Object;)Ljava/lang/Object;"), (0, .methodref 2 24), (0, .nameAndType 11 25), (0, u "(Ljava/lang/Object;)V"), (29, u "empty"), (0, u "()Ljava/util/Optional;"), (8, u "(Ljava/lang/Object;)Ljava/util/Optional;"), (16, u "of")] 104

def k9c0 : Code := { maxStack := 1, maxLocals := 1, code := jdk_32_method_1_code, exceptionTable := #[], attributes := #[] }
def k9m0 : Method := { name := "empty", desc := "()Ljava/util/Optional;", sig := { parameters := [], returnType := some (.object "java/util/Optional") }, accessFlags := 9, code := some k9c0 }
def k9c1 : Code := { maxStack := 2, maxLocals := 2, code := jdk_32_method_2_code, exceptionTable := #[], attributes := #[] }
def k9m1 : Method := { name := "<init>", desc := "(Ljava/lang/Object;)V", sig := { parameters := [(.object "java/lang/Object")], returnType := none }, accessFlags := 2, code := some k9c1 }
def k9c2 : Code := { maxStack := 3, maxLocals := 1, code := jdk_32_method_3_code, exceptionTable := #[], attributes := #[] }
def k9m2 : Method := { name := "of", desc := "(Ljava/lang/Object;)Ljava/util/Optional;", sig := { parameters := [(.object "java/lang/Object")], returnType := some (.object "java/util/Optional") }, accessFlags := 9, code := some k9c2 }
/-- java/util/Optional -/
def k9 : Class := { plain "java/util/Optional" (some 0) with
  accessFlags := 49
  interfaces := #[]
  cf := some (fileOf pool9 2 #[] #[{ accessFlags := 9, nameIndex := 55, descriptorIndex := 56, attributes := #[] }, { accessFlags := 2, nameIndex := 11, descriptorIndex := 25, attributes := #[] }, { accessFlags := 9, nameIndex := 82, descriptorIndex := 65, attributes := #[] }] 49 8 #[] #[{ accessFlags := 26, nameIndex := 5, descriptorIndex := 6, attributes := #[] }, { accessFlags := 18, nameIndex := 15, descriptorIndex := 16, attributes := #[] }])
  fields := #[{ name := "EMPTY", type := (.object "java/util/Optional"), accessFlags := 26, slot := 0, constantValue := 0 }, { name := "value", type := (.object "java/lang/Object"), accessFlags := 18, slot := 0, constantValue := 0 }]
  methods := #[k9m0, k9m1, k9m2]
  instanceTypes := #[(.object "java/lang/Object")]
  staticTypes := #[(.object "java/util/Optional")]
  resolved := Array.replicate 187 none
  statics := some 0 }

def pool10 : Array CpInfo := pool [(1, .class_ 2), (0, u "java/lang/Long"), (55, .nameAndType 59 60), (0, u "<init>"), (0, u "()V"), (24, u "valueOf"), (143, u "(J)Ljava/lang/Long;"), (0, .long 18446744073709551488), (1, .long 127), (1, .fieldref 235 236), (0, .class_ 237), (0, .nameAndType 238 239), (0, u "java/lang/Long$LongCache"), (0, u "cache"), (0, u "[Ljava/lang/Long;"), (0, .methodref 1 241), (0, .nameAndType 59 242), (0, u "(J)V"), (27, .methodref 271 58), (0, .class_ 272), (0, u "java/lang/Number"), (0, .fieldref 1 274), (0, .nameAndType 275 276), (0, u "value"), (0, u "J"), (84, u "TYPE"), (0, u "Ljava/lang/Class;"), (0, .class_ 364), (0, u "java/lang/Comparable"), (0, .class_ 366), (0, u "java/lang/constant/Constable"), (0, .class_ 368), (0, u "java/lang/constant/ConstantDesc"), (0, u "MIN_VALUE"), (1, u "MAX_VALUE"), (4, u "SIZE"), (0, u "I"), (1, u "BYTES"), (1, u "serialVersionUID")] 142

def k10c0 : Code := { maxStack := 4, maxLocals := 3, code := jdk_35_method_24_code, exceptionTable := #[], attributes := #[] }
def k10m0 : Method := { name := "valueOf", desc := "(J)Ljava/lang/Long;", sig := { parameters := [.long], returnType := some (.object "java/lang/Long") }, accessFlags := 9, code := some k10c0 }
def k10c1 : Code := { maxStack := 3, maxLocals := 3, code := jdk_35_method_26_code, exceptionTable := #[], attributes := #[] }
def k10m1 : Method := { name := "<init>", desc := "(J)V", sig := { parameters := [.long], returnType := none }, accessFlags := 1, code := some k10c1 }
/-- java/lang/Long -/
def k10 : Class := { plain "java/lang/Long" (some 4) with
  accessFlags := 49
  interfaces := #[5, 6, 7]
  cf := some (fileOf pool10 1 #[.nestMembers #[235]] #[{ accessFlags := 9, nameIndex := 85, descriptorIndex := 229, attributes := #[] }, { accessFlags := 1, nameIndex := 59, descriptorIndex := 242, attributes := #[] }] 49 271 #[363, 365, 367] #[{ accessFlags := 25, nameIndex := 369, descriptorIndex := 276, attributes := #[] }, { accessFlags := 25, nameIndex := 371, descriptorIndex := 276, attributes := #[] }, { accessFlags := 25, nameIndex := 361, descriptorIndex := 362, attributes := #[] }, { accessFlags := 18, nameIndex := 275, descriptorIndex := 276, attributes := #[] }, { accessFlags := 25, nameIndex := 376, descriptorIndex := 377, attributes := #[] }, { accessFlags := 25, nameIndex := 379, descriptorIndex := 377, attributes := #[] }, { accessFlags := 26, nameIndex := 381, descriptorIndex := 276, attributes := #[] }])
  fields := #[{ name := "MIN_VALUE", type := .long, accessFlags := 25, slot := 0, constantValue := 0 }, { name := "MAX_VALUE", type := .long, accessFlags := 25, slot := 1, constantValue := 0 }, { name := "TYPE", type := (.object "java/lang/Class"), accessFlags := 25, slot := 2, constantValue := 0 }, { name := "value", type := .long, accessFlags := 18, slot := 0, constantValue := 0 }, { name := "SIZE", type := .int, accessFlags := 25, slot := 3, constantValue := 0 }, { name := "BYTES", type := .int, accessFlags := 25, slot := 4, constantValue := 0 }, { name := "serialVersionUID", type := .long, accessFlags := 26, slot := 5, constantValue := 0 }]
  methods := #[k10m0, k10m1]
  instanceTypes := #[.long]
  staticTypes := #[.long, .long, (.object "java/lang/Class"), .int, .int, .long]
  resolved := Array.replicate 524 none
  statics := none }

def pool11 : Array CpInfo := pool [(2, .class_ 4), (1, u "java/lang/Object"), (0, u "<init>"), (0, u "()V"), (35, .class_ 44), (1, u "java/util/Objects"), (0, u "requireNonNull"), (0, u "(Ljava/lang/Object;)Ljava/lang/Object;")] 137

def k11m0 : Method := { name := "<init>", desc := "()V", sig := { parameters := [], returnType := none }, accessFlags := 2, code := none }
def k11c1 : Code := { maxStack := 2, maxLocals := 1, code := jdk_31_method_10_code, exceptionTable := #[], attributes := #[] }
def k11m1 : Method := { name := "requireNonNull", desc := "(Ljava/lang/Object;)Ljava/lang/Object;", sig := { parameters := [(.object "java/lang/Object")], returnType := some (.object "java/lang/Object") }, accessFlags := 9, code := some k11c1 }
/-- java/util/Objects -/
def k11 : Class := { plain "java/util/Objects" (some 0) with
  accessFlags := 49
  interfaces := #[]
  cf := some (fileOf pool11 42 #[] #[{ accessFlags := 2, nameIndex := 5, descriptorIndex := 6, attributes := #[] }, { accessFlags := 9, nameIndex := 45, descriptorIndex := 46, attributes := #[] }] 49 2 #[] #[])
  fields := #[]
  methods := #[k11m0, k11m1]
  instanceTypes := #[]
  staticTypes := #[]
  resolved := Array.replicate 184 none
  statics := none }

def pool12 : Array CpInfo := pool [(2, .class_ 4), (1, u "java/lang/Object"), (0, u "<init>"), (0, u "()V"), (0, .class_ 8), (0, u "java/lang/Long"), (7, .class_ 18), (1, u "java/lang/Long$LongCache"), (0, u "$assertionsDisabled"), (0, u "Z"), (8, u "archivedCache"), (0, u "[Ljava/lang/Long;"), (7, u "cache")] 24

def k12m0 : Method := { name := "<init>", desc := "()V", sig := { parameters := [], returnType := none }, accessFlags := 2, code := none }
/-- java/lang/Long$LongCache -/
def k12 : Class := { plain "java/lang/Long$LongCache" (some 0) with
  accessFlags := 48
  interfaces := #[]
  cf := some (fileOf pool12 16 #[.nestHost 7] #[{ accessFlags := 2, nameIndex := 5, descriptorIndex := 6, attributes := #[] }] 48 2 #[] #[{ accessFlags := 24, nameIndex := 38, descriptorIndex := 30, attributes := #[] }, { accessFlags := 8, nameIndex := 29, descriptorIndex := 30, attributes := #[] }, { accessFlags := 4120, nameIndex := 19, descriptorIndex := 20, attributes := #[] }])
  fields := #[{ name := "cache", type := (.array (.object "java/lang/Long")), accessFlags := 24, slot := 0, constantValue := 0 }, { name := "archivedCache", type := (.array (.object "java/lang/Long")), accessFlags := 8, slot := 1, constantValue := 0 }, { name := "$assertionsDisabled", type := .boolean, accessFlags := 4120, slot := 2, constantValue := 0 }]
  methods := #[k12m0]
  instanceTypes := #[]
  staticTypes := #[(.array (.object "java/lang/Long")), (.array (.object "java/lang/Long")), .boolean]
  resolved := Array.replicate 63 none
  statics := some 1 }

def pool13 : Array CpInfo := pool [(1, u "java/lang/Cloneable"), (0, .class_ 1), (0, u "java/lang/Object"), (0, .class_ 3)] 3

/-- java/lang/Cloneable -/
def k13 : Class := { plain "java/lang/Cloneable" (some 0) with
  accessFlags := 1537
  interfaces := #[]
  cf := some (fileOf pool13 2 #[] #[] 1537 4 #[] #[])
  fields := #[]
  methods := #[]
  instanceTypes := #[]
  staticTypes := #[]
  resolved := Array.replicate 8 none
  statics := none }

/-- the primitive byte -/
def k14 : Class := { plain "byte" none with kind := .primitive 'B', accessFlags := 0x411 }
/-- [B -/
def k15 : Class := { plain "[B" (some 0) with kind := .array 14 .byte, interfaces := #[13, 3], accessFlags := 1041 }

/-- the primitive int -/
def k16 : Class := { plain "int" none with kind := .primitive 'I', accessFlags := 0x411 }
/-- [I -/
def k17 : Class := { plain "[I" (some 0) with kind := .array 16 .int, interfaces := #[13, 3], accessFlags := 1041 }

/-- the primitive long -/
def k18 : Class := { plain "long" none with kind := .primitive 'J', accessFlags := 0x411 }
/-- [J -/
def k19 : Class := { plain "[J" (some 0) with kind := .array 18 .long, interfaces := #[13, 3], accessFlags := 1041 }

/-- [Ljava/lang/Long; -/
def k20 : Class := { plain "[Ljava/lang/Long;" (some 0) with kind := .array 10 (.object "java/lang/Long"), interfaces := #[13, 3], accessFlags := 1041 }

def heap : Heap := #[{ cls := 9, slots := #[.ref 259], vm := .statics 9 },
  { cls := 12, slots := #[.ref 2, .null, .int 0], vm := .statics 12 },
  { cls := 20, slots := #[.ref 3, .ref 4, .ref 5, .ref 6, .ref 7, .ref 8, .ref 9, .ref 10, .ref 11, .ref 12, .ref 13, .ref 14, .ref 15, .ref 16, .ref 17, .ref 18, .ref 19, .ref 20, .ref 21, .ref 22, .ref 23, .ref 24, .ref 25, .ref 26, .ref 27, .ref 28, .ref 29, .ref 30, .ref 31, .ref 32, .ref 33, .ref 34, .ref 35, .ref 36, .ref 37, .ref 38, .ref 39, .ref 40, .ref 41, .ref 42, .ref 43, .ref 44, .ref 45, .ref 46, .ref 47, .ref 48, .ref 49, .ref 50, .ref 51, .ref 52, .ref 53, .ref 54, .ref 55, .ref 56, .ref 57, .ref 58, .ref 59, .ref 60, .ref 61, .ref 62, .ref 63, .ref 64, .ref 65, .ref 66, .ref 67, .ref 68, .ref 69, .ref 70, .ref 71, .ref 72, .ref 73, .ref 74, .ref 75, .ref 76, .ref 77, .ref 78, .ref 79, .ref 80, .ref 81, .ref 82, .ref 83, .ref 84, .ref 85, .ref 86, .ref 87, .ref 88, .ref 89, .ref 90, .ref 91, .ref 92, .ref 93, .ref 94, .ref 95, .ref 96, .ref 97, .ref 98, .ref 99, .ref 100, .ref 101, .ref 102, .ref 103, .ref 104, .ref 105, .ref 106, .ref 107, .ref 108, .ref 109, .ref 110, .ref 111, .ref 112, .ref 113, .ref 114, .ref 115, .ref 116, .ref 117, .ref 118, .ref 119, .ref 120, .ref 121, .ref 122, .ref 123, .ref 124, .ref 125, .ref 126, .ref 127, .ref 128, .ref 129, .ref 130, .ref 131, .ref 132, .ref 133, .ref 134, .ref 135, .ref 136, .ref 137, .ref 138, .ref 139, .ref 140, .ref 141, .ref 142, .ref 143, .ref 144, .ref 145, .ref 146, .ref 147, .ref 148, .ref 149, .ref 150, .ref 151, .ref 152, .ref 153, .ref 154, .ref 155, .ref 156, .ref 157, .ref 158, .ref 159, .ref 160, .ref 161, .ref 162, .ref 163, .ref 164, .ref 165, .ref 166, .ref 167, .ref 168, .ref 169, .ref 170, .ref 171, .ref 172, .ref 173, .ref 174, .ref 175, .ref 176, .ref 177, .ref 178, .ref 179, .ref 180, .ref 181, .ref 182, .ref 183, .ref 184, .ref 185, .ref 186, .ref 187, .ref 188, .ref 189, .ref 190, .ref 191, .ref 192, .ref 193, .ref 194, .ref 195, .ref 196, .ref 197, .ref 198, .ref 199, .ref 200, .ref 201, .ref 202, .ref 203, .ref 204, .ref 205, .ref 206, .ref 207, .ref 208, .ref 209, .ref 210, .ref 211, .ref 212, .ref 213, .ref 214, .ref 215, .ref 216, .ref 217, .ref 218, .ref 219, .ref 220, .ref 221, .ref 222, .ref 223, .ref 224, .ref 225, .ref 226, .ref 227, .ref 228, .ref 229, .ref 230, .ref 231, .ref 232, .ref 233, .ref 234, .ref 235, .ref 236, .ref 237, .ref 238, .ref 239, .ref 240, .ref 241, .ref 242, .ref 243, .ref 244, .ref 245, .ref 246, .ref 247, .ref 248, .ref 249, .ref 250, .ref 251, .ref 252, .ref 253, .ref 254, .ref 255, .ref 256, .ref 257, .ref 258], vm := .none },
  { cls := 10, slots := #[.long (-128)], vm := .none },
  { cls := 10, slots := #[.long (-127)], vm := .none },
  { cls := 10, slots := #[.long (-126)], vm := .none },
  { cls := 10, slots := #[.long (-125)], vm := .none },
  { cls := 10, slots := #[.long (-124)], vm := .none },
  { cls := 10, slots := #[.long (-123)], vm := .none },
  { cls := 10, slots := #[.long (-122)], vm := .none },
  { cls := 10, slots := #[.long (-121)], vm := .none },
  { cls := 10, slots := #[.long (-120)], vm := .none },
  { cls := 10, slots := #[.long (-119)], vm := .none },
  { cls := 10, slots := #[.long (-118)], vm := .none },
  { cls := 10, slots := #[.long (-117)], vm := .none },
  { cls := 10, slots := #[.long (-116)], vm := .none },
  { cls := 10, slots := #[.long (-115)], vm := .none },
  { cls := 10, slots := #[.long (-114)], vm := .none },
  { cls := 10, slots := #[.long (-113)], vm := .none },
  { cls := 10, slots := #[.long (-112)], vm := .none },
  { cls := 10, slots := #[.long (-111)], vm := .none },
  { cls := 10, slots := #[.long (-110)], vm := .none },
  { cls := 10, slots := #[.long (-109)], vm := .none },
  { cls := 10, slots := #[.long (-108)], vm := .none },
  { cls := 10, slots := #[.long (-107)], vm := .none },
  { cls := 10, slots := #[.long (-106)], vm := .none },
  { cls := 10, slots := #[.long (-105)], vm := .none },
  { cls := 10, slots := #[.long (-104)], vm := .none },
  { cls := 10, slots := #[.long (-103)], vm := .none },
  { cls := 10, slots := #[.long (-102)], vm := .none },
  { cls := 10, slots := #[.long (-101)], vm := .none },
  { cls := 10, slots := #[.long (-100)], vm := .none },
  { cls := 10, slots := #[.long (-99)], vm := .none },
  { cls := 10, slots := #[.long (-98)], vm := .none },
  { cls := 10, slots := #[.long (-97)], vm := .none },
  { cls := 10, slots := #[.long (-96)], vm := .none },
  { cls := 10, slots := #[.long (-95)], vm := .none },
  { cls := 10, slots := #[.long (-94)], vm := .none },
  { cls := 10, slots := #[.long (-93)], vm := .none },
  { cls := 10, slots := #[.long (-92)], vm := .none },
  { cls := 10, slots := #[.long (-91)], vm := .none },
  { cls := 10, slots := #[.long (-90)], vm := .none },
  { cls := 10, slots := #[.long (-89)], vm := .none },
  { cls := 10, slots := #[.long (-88)], vm := .none },
  { cls := 10, slots := #[.long (-87)], vm := .none },
  { cls := 10, slots := #[.long (-86)], vm := .none },
  { cls := 10, slots := #[.long (-85)], vm := .none },
  { cls := 10, slots := #[.long (-84)], vm := .none },
  { cls := 10, slots := #[.long (-83)], vm := .none },
  { cls := 10, slots := #[.long (-82)], vm := .none },
  { cls := 10, slots := #[.long (-81)], vm := .none },
  { cls := 10, slots := #[.long (-80)], vm := .none },
  { cls := 10, slots := #[.long (-79)], vm := .none },
  { cls := 10, slots := #[.long (-78)], vm := .none },
  { cls := 10, slots := #[.long (-77)], vm := .none },
  { cls := 10, slots := #[.long (-76)], vm := .none },
  { cls := 10, slots := #[.long (-75)], vm := .none },
  { cls := 10, slots := #[.long (-74)], vm := .none },
  { cls := 10, slots := #[.long (-73)], vm := .none },
  { cls := 10, slots := #[.long (-72)], vm := .none },
  { cls := 10, slots := #[.long (-71)], vm := .none },
  { cls := 10, slots := #[.long (-70)], vm := .none },
  { cls := 10, slots := #[.long (-69)], vm := .none },
  { cls := 10, slots := #[.long (-68)], vm := .none },
  { cls := 10, slots := #[.long (-67)], vm := .none },
  { cls := 10, slots := #[.long (-66)], vm := .none },
  { cls := 10, slots := #[.long (-65)], vm := .none },
  { cls := 10, slots := #[.long (-64)], vm := .none },
  { cls := 10, slots := #[.long (-63)], vm := .none },
  { cls := 10, slots := #[.long (-62)], vm := .none },
  { cls := 10, slots := #[.long (-61)], vm := .none },
  { cls := 10, slots := #[.long (-60)], vm := .none },
  { cls := 10, slots := #[.long (-59)], vm := .none },
  { cls := 10, slots := #[.long (-58)], vm := .none },
  { cls := 10, slots := #[.long (-57)], vm := .none },
  { cls := 10, slots := #[.long (-56)], vm := .none },
  { cls := 10, slots := #[.long (-55)], vm := .none },
  { cls := 10, slots := #[.long (-54)], vm := .none },
  { cls := 10, slots := #[.long (-53)], vm := .none },
  { cls := 10, slots := #[.long (-52)], vm := .none },
  { cls := 10, slots := #[.long (-51)], vm := .none },
  { cls := 10, slots := #[.long (-50)], vm := .none },
  { cls := 10, slots := #[.long (-49)], vm := .none },
  { cls := 10, slots := #[.long (-48)], vm := .none },
  { cls := 10, slots := #[.long (-47)], vm := .none },
  { cls := 10, slots := #[.long (-46)], vm := .none },
  { cls := 10, slots := #[.long (-45)], vm := .none },
  { cls := 10, slots := #[.long (-44)], vm := .none },
  { cls := 10, slots := #[.long (-43)], vm := .none },
  { cls := 10, slots := #[.long (-42)], vm := .none },
  { cls := 10, slots := #[.long (-41)], vm := .none },
  { cls := 10, slots := #[.long (-40)], vm := .none },
  { cls := 10, slots := #[.long (-39)], vm := .none },
  { cls := 10, slots := #[.long (-38)], vm := .none },
  { cls := 10, slots := #[.long (-37)], vm := .none },
  { cls := 10, slots := #[.long (-36)], vm := .none },
  { cls := 10, slots := #[.long (-35)], vm := .none },
  { cls := 10, slots := #[.long (-34)], vm := .none },
  { cls := 10, slots := #[.long (-33)], vm := .none },
  { cls := 10, slots := #[.long (-32)], vm := .none },
  { cls := 10, slots := #[.long (-31)], vm := .none },
  { cls := 10, slots := #[.long (-30)], vm := .none },
  { cls := 10, slots := #[.long (-29)], vm := .none },
  { cls := 10, slots := #[.long (-28)], vm := .none },
  { cls := 10, slots := #[.long (-27)], vm := .none },
  { cls := 10, slots := #[.long (-26)], vm := .none },
  { cls := 10, slots := #[.long (-25)], vm := .none },
  { cls := 10, slots := #[.long (-24)], vm := .none },
  { cls := 10, slots := #[.long (-23)], vm := .none },
  { cls := 10, slots := #[.long (-22)], vm := .none },
  { cls := 10, slots := #[.long (-21)], vm := .none },
  { cls := 10, slots := #[.long (-20)], vm := .none },
  { cls := 10, slots := #[.long (-19)], vm := .none },
  { cls := 10, slots := #[.long (-18)], vm := .none },
  { cls := 10, slots := #[.long (-17)], vm := .none },
  { cls := 10, slots := #[.long (-16)], vm := .none },
  { cls := 10, slots := #[.long (-15)], vm := .none },
  { cls := 10, slots := #[.long (-14)], vm := .none },
  { cls := 10, slots := #[.long (-13)], vm := .none },
  { cls := 10, slots := #[.long (-12)], vm := .none },
  { cls := 10, slots := #[.long (-11)], vm := .none },
  { cls := 10, slots := #[.long (-10)], vm := .none },
  { cls := 10, slots := #[.long (-9)], vm := .none },
  { cls := 10, slots := #[.long (-8)], vm := .none },
  { cls := 10, slots := #[.long (-7)], vm := .none },
  { cls := 10, slots := #[.long (-6)], vm := .none },
  { cls := 10, slots := #[.long (-5)], vm := .none },
  { cls := 10, slots := #[.long (-4)], vm := .none },
  { cls := 10, slots := #[.long (-3)], vm := .none },
  { cls := 10, slots := #[.long (-2)], vm := .none },
  { cls := 10, slots := #[.long (-1)], vm := .none },
  { cls := 10, slots := #[.long 0], vm := .none },
  { cls := 10, slots := #[.long 1], vm := .none },
  { cls := 10, slots := #[.long 2], vm := .none },
  { cls := 10, slots := #[.long 3], vm := .none },
  { cls := 10, slots := #[.long 4], vm := .none },
  { cls := 10, slots := #[.long 5], vm := .none },
  { cls := 10, slots := #[.long 6], vm := .none },
  { cls := 10, slots := #[.long 7], vm := .none },
  { cls := 10, slots := #[.long 8], vm := .none },
  { cls := 10, slots := #[.long 9], vm := .none },
  { cls := 10, slots := #[.long 10], vm := .none },
  { cls := 10, slots := #[.long 11], vm := .none },
  { cls := 10, slots := #[.long 12], vm := .none },
  { cls := 10, slots := #[.long 13], vm := .none },
  { cls := 10, slots := #[.long 14], vm := .none },
  { cls := 10, slots := #[.long 15], vm := .none },
  { cls := 10, slots := #[.long 16], vm := .none },
  { cls := 10, slots := #[.long 17], vm := .none },
  { cls := 10, slots := #[.long 18], vm := .none },
  { cls := 10, slots := #[.long 19], vm := .none },
  { cls := 10, slots := #[.long 20], vm := .none },
  { cls := 10, slots := #[.long 21], vm := .none },
  { cls := 10, slots := #[.long 22], vm := .none },
  { cls := 10, slots := #[.long 23], vm := .none },
  { cls := 10, slots := #[.long 24], vm := .none },
  { cls := 10, slots := #[.long 25], vm := .none },
  { cls := 10, slots := #[.long 26], vm := .none },
  { cls := 10, slots := #[.long 27], vm := .none },
  { cls := 10, slots := #[.long 28], vm := .none },
  { cls := 10, slots := #[.long 29], vm := .none },
  { cls := 10, slots := #[.long 30], vm := .none },
  { cls := 10, slots := #[.long 31], vm := .none },
  { cls := 10, slots := #[.long 32], vm := .none },
  { cls := 10, slots := #[.long 33], vm := .none },
  { cls := 10, slots := #[.long 34], vm := .none },
  { cls := 10, slots := #[.long 35], vm := .none },
  { cls := 10, slots := #[.long 36], vm := .none },
  { cls := 10, slots := #[.long 37], vm := .none },
  { cls := 10, slots := #[.long 38], vm := .none },
  { cls := 10, slots := #[.long 39], vm := .none },
  { cls := 10, slots := #[.long 40], vm := .none },
  { cls := 10, slots := #[.long 41], vm := .none },
  { cls := 10, slots := #[.long 42], vm := .none },
  { cls := 10, slots := #[.long 43], vm := .none },
  { cls := 10, slots := #[.long 44], vm := .none },
  { cls := 10, slots := #[.long 45], vm := .none },
  { cls := 10, slots := #[.long 46], vm := .none },
  { cls := 10, slots := #[.long 47], vm := .none },
  { cls := 10, slots := #[.long 48], vm := .none },
  { cls := 10, slots := #[.long 49], vm := .none },
  { cls := 10, slots := #[.long 50], vm := .none },
  { cls := 10, slots := #[.long 51], vm := .none },
  { cls := 10, slots := #[.long 52], vm := .none },
  { cls := 10, slots := #[.long 53], vm := .none },
  { cls := 10, slots := #[.long 54], vm := .none },
  { cls := 10, slots := #[.long 55], vm := .none },
  { cls := 10, slots := #[.long 56], vm := .none },
  { cls := 10, slots := #[.long 57], vm := .none },
  { cls := 10, slots := #[.long 58], vm := .none },
  { cls := 10, slots := #[.long 59], vm := .none },
  { cls := 10, slots := #[.long 60], vm := .none },
  { cls := 10, slots := #[.long 61], vm := .none },
  { cls := 10, slots := #[.long 62], vm := .none },
  { cls := 10, slots := #[.long 63], vm := .none },
  { cls := 10, slots := #[.long 64], vm := .none },
  { cls := 10, slots := #[.long 65], vm := .none },
  { cls := 10, slots := #[.long 66], vm := .none },
  { cls := 10, slots := #[.long 67], vm := .none },
  { cls := 10, slots := #[.long 68], vm := .none },
  { cls := 10, slots := #[.long 69], vm := .none },
  { cls := 10, slots := #[.long 70], vm := .none },
  { cls := 10, slots := #[.long 71], vm := .none },
  { cls := 10, slots := #[.long 72], vm := .none },
  { cls := 10, slots := #[.long 73], vm := .none },
  { cls := 10, slots := #[.long 74], vm := .none },
  { cls := 10, slots := #[.long 75], vm := .none },
  { cls := 10, slots := #[.long 76], vm := .none },
  { cls := 10, slots := #[.long 77], vm := .none },
  { cls := 10, slots := #[.long 78], vm := .none },
  { cls := 10, slots := #[.long 79], vm := .none },
  { cls := 10, slots := #[.long 80], vm := .none },
  { cls := 10, slots := #[.long 81], vm := .none },
  { cls := 10, slots := #[.long 82], vm := .none },
  { cls := 10, slots := #[.long 83], vm := .none },
  { cls := 10, slots := #[.long 84], vm := .none },
  { cls := 10, slots := #[.long 85], vm := .none },
  { cls := 10, slots := #[.long 86], vm := .none },
  { cls := 10, slots := #[.long 87], vm := .none },
  { cls := 10, slots := #[.long 88], vm := .none },
  { cls := 10, slots := #[.long 89], vm := .none },
  { cls := 10, slots := #[.long 90], vm := .none },
  { cls := 10, slots := #[.long 91], vm := .none },
  { cls := 10, slots := #[.long 92], vm := .none },
  { cls := 10, slots := #[.long 93], vm := .none },
  { cls := 10, slots := #[.long 94], vm := .none },
  { cls := 10, slots := #[.long 95], vm := .none },
  { cls := 10, slots := #[.long 96], vm := .none },
  { cls := 10, slots := #[.long 97], vm := .none },
  { cls := 10, slots := #[.long 98], vm := .none },
  { cls := 10, slots := #[.long 99], vm := .none },
  { cls := 10, slots := #[.long 100], vm := .none },
  { cls := 10, slots := #[.long 101], vm := .none },
  { cls := 10, slots := #[.long 102], vm := .none },
  { cls := 10, slots := #[.long 103], vm := .none },
  { cls := 10, slots := #[.long 104], vm := .none },
  { cls := 10, slots := #[.long 105], vm := .none },
  { cls := 10, slots := #[.long 106], vm := .none },
  { cls := 10, slots := #[.long 107], vm := .none },
  { cls := 10, slots := #[.long 108], vm := .none },
  { cls := 10, slots := #[.long 109], vm := .none },
  { cls := 10, slots := #[.long 110], vm := .none },
  { cls := 10, slots := #[.long 111], vm := .none },
  { cls := 10, slots := #[.long 112], vm := .none },
  { cls := 10, slots := #[.long 113], vm := .none },
  { cls := 10, slots := #[.long 114], vm := .none },
  { cls := 10, slots := #[.long 115], vm := .none },
  { cls := 10, slots := #[.long 116], vm := .none },
  { cls := 10, slots := #[.long 117], vm := .none },
  { cls := 10, slots := #[.long 118], vm := .none },
  { cls := 10, slots := #[.long 119], vm := .none },
  { cls := 10, slots := #[.long 120], vm := .none },
  { cls := 10, slots := #[.long 121], vm := .none },
  { cls := 10, slots := #[.long 122], vm := .none },
  { cls := 10, slots := #[.long 123], vm := .none },
  { cls := 10, slots := #[.long 124], vm := .none },
  { cls := 10, slots := #[.long 125], vm := .none },
  { cls := 10, slots := #[.long 126], vm := .none },
  { cls := 10, slots := #[.long 127], vm := .none },
  { cls := 9, slots := #[.null], vm := .none }]
def classes : Array Class := #[k0, k1, k2, k3, k4, k5, k6, k7, k8, k9, k10, k11, k12, k13, k14, k15, k16, k17, k18, k19, k20]
def interned : List (Array UInt16 × Addr) := []
def slotsUsed : Nat := 517
def theMethod : MethodId := ⟨1, 1⟩
def args0 : Array Value := #[.long 5, .long 6, .long 7, .int 1]
def aboutOver (below : List Frame) : State where
  vm := { classes := classes, interned := interned.toArray }
  heap := heap
  slotsUsed := slotsUsed
  threads := #[{ frames := .invoking theMethod args0 :: below }]
def below0 : List Frame := [.native { method := ⟨0, 0⟩, args := #[] }]
def about1 : State := aboutOver below0
def p0 : Program := .bare "" "" ""
def e0 : Env := launch0.env 0 0 0
theorem w_frames : about1.frames = Frame.invoking theMethod args0 :: below0 := rfl
set_option maxRecDepth 65536 in
theorem w_args : argsFit about1.vm theMethod args0 = true := by decide +kernel
set_option maxRecDepth 65536 in
theorem w_heap : heapFits about1 = true := by decide +kernel
set_option maxRecDepth 65536 in
theorem w_runnable : about1.curStatus? = some .runnable := by decide +kernel
set_option maxRecDepth 65536 in
theorem w_alone : about1.alone = true := by decide +kernel
set_option maxRecDepth 65536 in
theorem w_named : about1.methodNamed? x = some theMethod := by decide +kernel
set_option maxRecDepth 65536 in
theorem w_hears : about1.hears theMethod below0 = true := by decide +kernel
set_option maxRecDepth 65536 in
theorem w_ripe : about1.ripe theMethod args0 below0 = true := by decide +kernel
theorem w_running : about1.status = .running := rfl
set_option maxRecDepth 65536 in
theorem w_room : about1.hasRoom e0.platform room_1 = true :=
  launch0.hasRoom_least _ room_1 (by decide +kernel) (by decide +kernel) (by decide +kernel) (by decide +kernel) (by decide +kernel) (by decide +kernel)
theorem allAtoms_all (ts : List Jvm.Cond) (a : Array Jvm.Value) (st : Jvm.State) : (allAtoms ts).before a st = ts.all (fun c => c.before a st) := by
  induction ts with
  | nil => rfl
  | cons c t ih =>
    show (Jvm.Cond.and c (allAtoms t)).before a st = _
    rw [Jvm.Cond.before_and, ih, List.all_cons]
def words1 : List Jvm.Cond := Jvm.Cond.code x code maxLocals ret :: tables_1
/-- a 'code' word, met by the world's own term for the bytes: nothing is compared byte by byte -/
theorem code_word {y : MethodName} {bytes : ByteArray} {mx : Nat} {rt : Option FieldType} {a : Array Value} {s : State} {m : MethodId} {meth : Method} {c : Code} (h1 : s.methodNamed? y = some m) (h2 : s.vm.method? m = some meth) (h3 : meth.code = some c) (h4 : c.code = bytes)
    (h5 : (c.maxLocals == mx && c.exceptionTable.isEmpty && decide (c.maxStack ≤ mostOperands) && decide (meth.sig.returnType = rt) && !meth.locks && decide (parseMethodDescriptor y.desc = some meth.sig)) = true) : (Jvm.Cond.code y bytes mx rt).before a s = true := by
  simp only [Bool.and_eq_true, beq_iff_eq, Bool.not_eq_true', decide_eq_true_eq] at h5
  obtain ⟨⟨⟨⟨⟨g1, g2⟩, g3⟩, g4⟩, g5⟩, g6⟩ := h5
  simp [Cond.before, Cond.holds, Cond.value, h1, h2, h3, h4, g1, g2, g3, g4, g5, g6]
def isCode : Jvm.Cond → Bool
  | .code _ _ _ _ => true
  | _ => false
theorem all_split {L : List Jvm.Cond} {P : Jvm.Cond → Bool} (h1 : L.all (fun c => isCode c || P c) = true) (h2 : ∀ c ∈ L.filter isCode, P c = true) : L.all P = true := by
  refine List.all_eq_true.mpr fun c hc => ?_
  have h := List.all_eq_true.mp h1 c hc
  rcases Bool.eq_false_or_eq_true (isCode c) with hi | hi
  · exact h2 c (List.mem_filter.mpr ⟨hc, hi⟩)
  · simpa [hi] using h
set_option maxRecDepth 65536 in
theorem w_c0 : (Jvm.Cond.code x code maxLocals ret).before args0 about1 = true := code_word (m := ⟨1, 1⟩) (meth := k1m1) (c := k1c1) (by decide +kernel) rfl rfl rfl (by decide +kernel)
set_option maxRecDepth 65536 in
theorem w_c1 : (Jvm.Cond.code ({ cls := "com/example/tideshift/tideshift/partition/AccessCounts", name := "<init>", desc := "()V" } : Jvm.MethodName) prog_58_method_1_code (1 : Nat) (Option.none : Option Jvm.ClassFile.FieldType)).before args0 about1 = true := code_word (m := ⟨2, 0⟩) (meth := k2m0) (c := k2c0) (by decide +kernel) rfl rfl rfl (by decide +kernel)
set_option maxRecDepth 65536 in
theorem w_c2 : (Jvm.Cond.code ({ cls := "java/lang/Object", name := "<init>", desc := "()V" } : Jvm.MethodName) object_method_1_code (1 : Nat) (Option.none : Option Jvm.ClassFile.FieldType)).before args0 about1 = true := code_word (m := ⟨0, 0⟩) (meth := k0m0) (c := k0c0) (by decide +kernel) rfl rfl rfl (by decide +kernel)
set_option maxRecDepth 65536 in
theorem w_c3 : (Jvm.Cond.code ({ cls := "com/example/tideshift/tideshift/partition/AccessCounts", name := "empty", desc := "()V" } : Jvm.MethodName) prog_58_method_10_code (1 : Nat) (Option.none : Option Jvm.ClassFile.FieldType)).before args0 about1 = true := code_word (m := ⟨2, 4⟩) (meth := k2m4) (c := k2c4) (by decide +kernel) rfl rfl rfl (by decide +kernel)
set_option maxRecDepth 65536 in
theorem w_c4 : (Jvm.Cond.code ({ cls := "java/lang/Integer", name := "numberOfTrailingZeros", desc := "(I)I" } : Jvm.MethodName) jdk_33_method_48_code (2 : Nat) (Option.some Jvm.ClassFile.FieldType.int)).before args0 about1 = true := code_word (m := ⟨8, 0⟩) (meth := k8m0) (c := k8c0) (by decide +kernel) rfl rfl rfl (by decide +kernel)
set_option maxRecDepth 65536 in
theorem w_c5 : (Jvm.Cond.code ({ cls := "java/util/Optional", name := "empty", desc := "()Ljava/util/Optional;" } : Jvm.MethodName) jdk_32_method_1_code (1 : Nat) (Option.some (Jvm.ClassFile.FieldType.object "java/util/Optional"))).before args0 about1 = true := code_word (m := ⟨9, 0⟩) (meth := k9m0) (c := k9c0) (by decide +kernel) rfl rfl rfl (by decide +kernel)
set_option maxRecDepth 65536 in
theorem w_c6 : (Jvm.Cond.code ({ cls := "com/example/tideshift/tideshift/partition/AccessCounts", name := "add", desc := "(J)V" } : Jvm.MethodName) prog_58_method_3_code (4 : Nat) (Option.none : Option Jvm.ClassFile.FieldType)).before args0 about1 = true := code_word (m := ⟨2, 1⟩) (meth := k2m1) (c := k2c1) (by decide +kernel) rfl rfl rfl (by decide +kernel)
set_option maxRecDepth 65536 in
theorem w_c7 : (Jvm.Cond.code ({ cls := "com/example/tideshift/tideshift/partition/AccessCounts", name := "placeOf", desc := "(J)I" } : Jvm.MethodName) prog_58_method_11_code (5 : Nat) (Option.some Jvm.ClassFile.FieldType.int)).before args0 about1 = true := code_word (m := ⟨2, 5⟩) (meth := k2m5) (c := k2c5) (by decide +kernel) rfl rfl rfl (by decide +kernel)
set_option maxRecDepth 65536 in
theorem w_c8 : (Jvm.Cond.code ({ cls := "com/example/tideshift/tideshift/partition/AccessCounts", name := "keys", desc := "()[J" } : Jvm.MethodName) prog_58_method_6_code (4 : Nat) (Option.some (Jvm.ClassFile.FieldType.array Jvm.ClassFile.FieldType.long))).before args0 about1 = true := code_word (m := ⟨2, 2⟩) (meth := k2m2) (c := k2c2) (by decide +kernel) rfl rfl rfl (by decide +kernel)
set_option maxRecDepth 65536 in
theorem w_c9 : (Jvm.Cond.code ({ cls := "com/example/tideshift/tideshift/partition/AccessCountsKeysPinLaw", name := "inE", desc := "(J[JI)Z" } : Jvm.MethodName) method_3_code (4 : Nat) (Option.some Jvm.ClassFile.FieldType.boolean)).before args0 about1 = true := code_word (m := ⟨1, 2⟩) (meth := k1m2) (c := k1c2) (by decide +kernel) rfl rfl rfl (by decide +kernel)
set_option maxRecDepth 65536 in
theorem w_c10 : (Jvm.Cond.code ({ cls := "com/example/tideshift/tideshift/partition/AccessCountsKeysPinLaw", name := "inR", desc := "(J[J)Z" } : Jvm.MethodName) method_4_code (3 : Nat) (Option.some Jvm.ClassFile.FieldType.boolean)).before args0 about1 = true := code_word (m := ⟨1, 3⟩) (meth := k1m3) (c := k1c3) (by decide +kernel) rfl rfl rfl (by decide +kernel)
set_option maxRecDepth 65536 in
theorem w_c11 : (Jvm.Cond.code ({ cls := "com/example/tideshift/tideshift/partition/AccessCounts", name := "clear", desc := "(J)V" } : Jvm.MethodName) prog_58_method_7_code (3 : Nat) (Option.none : Option Jvm.ClassFile.FieldType)).before args0 about1 = true := code_word (m := ⟨2, 3⟩) (meth := k2m3) (c := k2c3) (by decide +kernel) rfl rfl rfl (by decide +kernel)
set_option maxRecDepth 65536 in
theorem w_c12 : (Jvm.Cond.code ({ cls := "java/lang/Long", name := "valueOf", desc := "(J)Ljava/lang/Long;" } : Jvm.MethodName) jdk_35_method_24_code (3 : Nat) (Option.some (Jvm.ClassFile.FieldType.object "java/lang/Long"))).before args0 about1 = true := code_word (m := ⟨10, 0⟩) (meth := k10m0) (c := k10c0) (by decide +kernel) rfl rfl rfl (by decide +kernel)
set_option maxRecDepth 65536 in
theorem w_c13 : (Jvm.Cond.code ({ cls := "java/lang/Long", name := "<init>", desc := "(J)V" } : Jvm.MethodName) jdk_35_method_26_code (3 : Nat) (Option.none : Option Jvm.ClassFile.FieldType)).before args0 about1 = true := code_word (m := ⟨10, 1⟩) (meth := k10m1) (c := k10c1) (by decide +kernel) rfl rfl rfl (by decide +kernel)
set_option maxRecDepth 65536 in
theorem w_c14 : (Jvm.Cond.code ({ cls := "java/lang/Number", name := "<init>", desc := "()V" } : Jvm.MethodName) jdk_18_method_1_code (1 : Nat) (Option.none : Option Jvm.ClassFile.FieldType)).before args0 about1 = true := code_word (m := ⟨4, 0⟩) (meth := k4m0) (c := k4c0) (by decide +kernel) rfl rfl rfl (by decide +kernel)
set_option maxRecDepth 65536 in
theorem w_c15 : (Jvm.Cond.code ({ cls := "java/util/Optional", name := "of", desc := "(Ljava/lang/Object;)Ljava/util/Optional;" } : Jvm.MethodName) jdk_32_method_3_code (1 : Nat) (Option.some (Jvm.ClassFile.FieldType.object "java/util/Optional"))).before args0 about1 = true := code_word (m := ⟨9, 2⟩) (meth := k9m2) (c := k9c2) (by decide +kernel) rfl rfl rfl (by decide +kernel)
set_option maxRecDepth 65536 in
theorem w_c16 : (Jvm.Cond.code ({ cls := "java/util/Objects", name := "requireNonNull", desc := "(Ljava/lang/Object;)Ljava/lang/Object;" } : Jvm.MethodName) jdk_31_method_10_code (1 : Nat) (Option.some (Jvm.ClassFile.FieldType.object "java/lang/Object"))).before args0 about1 = true := code_word (m := ⟨11, 1⟩) (meth := k11m1) (c := k11c1) (by decide +kernel) rfl rfl rfl (by decide +kernel)
set_option maxRecDepth 65536 in
theorem w_c17 : (Jvm.Cond.code ({ cls := "java/util/Optional", name := "<init>", desc := "(Ljava/lang/Object;)V" } : Jvm.MethodName) jdk_32_method_2_code (2 : Nat) (Option.none : Option Jvm.ClassFile.FieldType)).before args0 about1 = true := code_word (m := ⟨9, 1⟩) (meth := k9m1) (c := k9c1) (by decide +kernel) rfl rfl rfl (by decide +kernel)
def codes1 : List Jvm.Cond := [Jvm.Cond.code x code maxLocals ret, Jvm.Cond.code ({ cls := "com/example/tideshift/tideshift/partition/AccessCounts", name := "<init>", desc := "()V" } : Jvm.MethodName) prog_58_method_1_code (1 : Nat) (Option.none : Option Jvm.ClassFile.FieldType), Jvm.Cond.code ({ cls := "java/lang/Object", name := "<init>", desc := "()V" } : Jvm.MethodName) object_method_1_code (1 : Nat) (Option.none : Option Jvm.ClassFile.FieldType), Jvm.Cond.code ({ cls := "com/example/tideshift/tideshift/partition/AccessCounts", name := "empty", desc := "()V" } : Jvm.MethodName) prog_58_method_10_code (1 : Nat) (Option.none : Option Jvm.ClassFile.FieldType), Jvm.Cond.code ({ cls := "java/lang/Integer", name := "numberOfTrailingZeros", desc := "(I)I" } : Jvm.MethodName) jdk_33_method_48_code (2 : Nat) (Option.some Jvm.ClassFile.FieldType.int), Jvm.Cond.code ({ cls := "java/util/Optional", name := "empty", desc := "()Ljava/util/Optional;" } : Jvm.MethodName) jdk_32_method_1_code (1 : Nat) (Option.some (Jvm.ClassFile.FieldType.object "java/util/Optional")), Jvm.Cond.code ({ cls := "com/example/tideshift/tideshift/partition/AccessCounts", name := "add", desc := "(J)V" } : Jvm.MethodName) prog_58_method_3_code (4 : Nat) (Option.none : Option Jvm.ClassFile.FieldType), Jvm.Cond.code ({ cls := "com/example/tideshift/tideshift/partition/AccessCounts", name := "placeOf", desc := "(J)I" } : Jvm.MethodName) prog_58_method_11_code (5 : Nat) (Option.some Jvm.ClassFile.FieldType.int), Jvm.Cond.code ({ cls := "com/example/tideshift/tideshift/partition/AccessCounts", name := "keys", desc := "()[J" } : Jvm.MethodName) prog_58_method_6_code (4 : Nat) (Option.some (Jvm.ClassFile.FieldType.array Jvm.ClassFile.FieldType.long)), Jvm.Cond.code ({ cls := "com/example/tideshift/tideshift/partition/AccessCountsKeysPinLaw", name := "inE", desc := "(J[JI)Z" } : Jvm.MethodName) method_3_code (4 : Nat) (Option.some Jvm.ClassFile.FieldType.boolean), Jvm.Cond.code ({ cls := "com/example/tideshift/tideshift/partition/AccessCountsKeysPinLaw", name := "inR", desc := "(J[J)Z" } : Jvm.MethodName) method_4_code (3 : Nat) (Option.some Jvm.ClassFile.FieldType.boolean), Jvm.Cond.code ({ cls := "com/example/tideshift/tideshift/partition/AccessCounts", name := "clear", desc := "(J)V" } : Jvm.MethodName) prog_58_method_7_code (3 : Nat) (Option.none : Option Jvm.ClassFile.FieldType), Jvm.Cond.code ({ cls := "java/lang/Long", name := "valueOf", desc := "(J)Ljava/lang/Long;" } : Jvm.MethodName) jdk_35_method_24_code (3 : Nat) (Option.some (Jvm.ClassFile.FieldType.object "java/lang/Long")), Jvm.Cond.code ({ cls := "java/lang/Long", name := "<init>", desc := "(J)V" } : Jvm.MethodName) jdk_35_method_26_code (3 : Nat) (Option.none : Option Jvm.ClassFile.FieldType), Jvm.Cond.code ({ cls := "java/lang/Number", name := "<init>", desc := "()V" } : Jvm.MethodName) jdk_18_method_1_code (1 : Nat) (Option.none : Option Jvm.ClassFile.FieldType), Jvm.Cond.code ({ cls := "java/util/Optional", name := "of", desc := "(Ljava/lang/Object;)Ljava/util/Optional;" } : Jvm.MethodName) jdk_32_method_3_code (1 : Nat) (Option.some (Jvm.ClassFile.FieldType.object "java/util/Optional")), Jvm.Cond.code ({ cls := "java/util/Objects", name := "requireNonNull", desc := "(Ljava/lang/Object;)Ljava/lang/Object;" } : Jvm.MethodName) jdk_31_method_10_code (1 : Nat) (Option.some (Jvm.ClassFile.FieldType.object "java/lang/Object")), Jvm.Cond.code ({ cls := "java/util/Optional", name := "<init>", desc := "(Ljava/lang/Object;)V" } : Jvm.MethodName) jdk_32_method_2_code (2 : Nat) (Option.none : Option Jvm.ClassFile.FieldType)]
set_option maxRecDepth 65536 in
theorem codes_eq : words1.filter isCode = codes1 := rfl
theorem w_codes : ∀ c ∈ words1.filter isCode, c.before args0 about1 = true := by
  rw [codes_eq]
  intro c hc
  simp only [codes1, List.mem_cons, List.not_mem_nil, or_false] at hc
  rcases hc with rfl | rfl | rfl | rfl | rfl | rfl | rfl | rfl | rfl | rfl | rfl | rfl | rfl | rfl | rfl | rfl | rfl | rfl
  · exact w_c0
  · exact w_c1
  · exact w_c2
  · exact w_c3
  · exact w_c4
  · exact w_c5
  · exact w_c6
  · exact w_c7
  · exact w_c8
  · exact w_c9
  · exact w_c10
  · exact w_c11
  · exact w_c12
  · exact w_c13
  · exact w_c14
  · exact w_c15
  · exact w_c16
  · exact w_c17
set_option maxRecDepth 65536 in
theorem w_t1 : (words1.take 24).all (fun c => isCode c || c.before args0 about1) = true := by decide +kernel
set_option maxRecDepth 65536 in
theorem w_t2 : ((words1.drop 24).take 24).all (fun c => isCode c || c.before args0 about1) = true := by decide +kernel
set_option maxRecDepth 65536 in
theorem w_t3 : (((words1.drop 24).drop 24).take 24).all (fun c => isCode c || c.before args0 about1) = true := by decide +kernel
set_option maxRecDepth 65536 in
theorem w_t4 : ((((words1.drop 24).drop 24).drop 24).take 24).all (fun c => isCode c || c.before args0 about1) = true := by decide +kernel
set_option maxRecDepth 65536 in
theorem w_t5 : ((((words1.drop 24).drop 24).drop 24).drop 24).all (fun c => isCode c || c.before args0 about1) = true := by decide +kernel
theorem w_tables : (allAtoms (Jvm.Cond.code x code maxLocals ret :: tables_1)).before args0 about1 = true := by
  rw [allAtoms_all]
  show words1.all (fun c => c.before args0 about1) = true
  refine all_split ?_ w_codes
  rw [← List.take_append_drop 24 words1, List.all_append, w_t1, ← List.take_append_drop 24 (words1.drop 24), List.all_append, w_t2, ← List.take_append_drop 24 ((words1.drop 24).drop 24), List.all_append, w_t3, ← List.take_append_drop 24 (((words1.drop 24).drop 24).drop 24), List.all_append, w_t4, w_t5]
  rfl
set_option maxRecDepth 65536 in
theorem w_rest : rest_1_c.before args0 about1 = true := by decide +kernel
set_option maxRecDepth 65536 in
theorem w_case : (Jvm.Cond.and given_1 narrow_1).before args0 about1 = true := by decide +kernel
theorem w_applies : (headSpec (Jvm.Cond.code x code maxLocals ret :: tables_1) room_1).applies x e0.platform about1 = true :=
  (Spec.applies_iff w_frames).mpr ⟨w_running, w_runnable, w_alone, w_named, w_hears, w_ripe, w_room, w_tables⟩
theorem atStart : AtStart classFile x code maxLocals ret World_1 tables_1 room_1 Calls_1 rest_1 Pre_1 launch0 p0 e0 about1 theMethod args0 below0 :=
  ⟨lists_1, trivial, launch0.admits_env _ _ _, launch0.least_env, fairChoices_fair.cas, fairChoices_fair.clock, w_frames, w_args, w_heap, w_applies, trivial, w_rest, w_case⟩
end start1
theorem witness_1 : WitnessClaimed_1 := ⟨start1.p0, start1.e0, start1.about1, start1.theMethod, start1.args0, start1.below0, start1.atStart⟩
end Jvm.Pilot.@@N@@
