import JvmDerived
import JvmDerived.Pilot.@@N@@Statement
import JvmDerived.Pilot.@@N@@Code
set_option linter.unusedVariables false
set_option linter.unusedSimpArgs false
namespace Jvm.RoadKit
open Sem ClassFile Op Lib Jvm.Stand Jvm.Free Jvm.LawKit
section New
variable {p : Program} {l : Launch} {e : Env} {R : Room} {s : State} {m : MethodId} {args : Array Value} {below : List Frame} {meth : Method} {c : Code} {T : State} {locs : List Loc} {cells slots : Nat}
theorem retI (X : Stand p l e R s m args below meth c T locs cells slots) (hx : p.tables.exec = Jvm.exec) {pc : Nat} {Ls : Array Slot} {z : Int32} {rest : List Value} (hret : meth.sig.returnType = some .int) (hd : decode c.code pc = .ok (.ireturn, 1)) {fs : List Frame}
    (hl : ∀ (f : JFrame) (acts : List Action), f.method = m → f.locked = none → f.entered = [] → (doReturn e (T.setTop f) acts (some (.int z))).1 = T.setFrames fs) : Steps p.tables e below (T.setTop (mkF m pc Ls (.int z :: rest))) (T.setFrames fs) := by
  have hm' : T.vm.method? m = some meth := X.method'
  have hn : narrow .int (.int z) = .int z := rfl
  show Steps p.tables e below (T.setTop { method := m, pc := pc, locals := Ls, stack := _ :: rest, locked := none }) _
  jvm_step X.here [X.here.top, hx, hd, hm', hret, hn]
  first | (intro acts; rw [hl _ acts rfl rfl rfl]) | rw [hl _ _ rfl rfl rfl]
  exact Steps.refl _
end New
end Jvm.RoadKit
namespace Jvm.Pilot.@@N@@
open Jvm Jvm.ClassFile Sem Op Lib Jvm.Free Jvm.Stand Jvm.LawKit Jvm.RoadKit Bundle Jvm.Pilot.@@N@@.Jvm.D
theorem own_b10n {P : Prop} [Decidable P] (h : P) : ¬ (if P then (1 : Int32) else 0) = 0 := by rw [if_pos h]; decide
theorem own_b10z {P : Prop} [Decidable P] (h : ¬ P) : (if P then (1 : Int32) else 0) = 0 := if_neg h
theorem own_b01z {P : Prop} [Decidable P] (h : P) : (if P then (0 : Int32) else 1) = 0 := if_pos h
theorem own_b01n {P : Prop} [Decidable P] (h : ¬ P) : ¬ (if P then (0 : Int32) else 1) = 0 := by rw [if_neg h]; decide
theorem own_nb10 {P : Prop} [Decidable P] : nar .boolean (if P then (1 : Int32) else 0) = (if P then (1 : Int32) else 0) := by by_cases h : P <;> simp [h, nar]
theorem own_nb01 {P : Prop} [Decidable P] : nar .boolean (if P then (0 : Int32) else 1) = (if P then (0 : Int32) else 1) := by by_cases h : P <;> simp [h, nar]
theorem own_selP {Z s : State} {a0 args : Array Value} {y : MethodName} {n : Nat} (hZ : Z.Warmed39 s.vm) (wi : (Jvm.Cond.instantiable y.cls n).before a0 Z = true) (wp : (Jvm.Cond.privateMethod y).before a0 Z = true) (wm : (Jvm.Cond.instanceMethod y).before a0 Z = true)
    (hy : y.cls ≠ "java/lang/invoke/MethodHandle" ∧ y.cls ≠ "java/lang/invoke/VarHandle") : (Jvm.Cond.selects y.cls y y).before args s = true := by
  obtain ⟨c, k, hc, hk, -, hf, -⟩ := Cond.instantiable_spec (mv hZ wi (args := args))
  have hi : k.isInterface = false := by
    cases q : k.isInterface
    · rfl
    · simp [q] at hf
  exact Jvm.Stand.selects_self_of_private hc hk hi (Cond.privateMethod_at (mvP hZ wp (args := args))) (mv hZ wm) hy
theorem own_one (i : Nat) : Int32.ofNat i + (1 : Int32) = Int32.ofNat (i + 1) := (Int32.ofNat_add i 1).symm
def own_list (g : Nat → Value) (i : Nat) : List Value := (List.range i).map g
theorem own_len (g : Nat → Value) (i : Nat) : (own_list g i).length = i := by simp [own_list]
theorem own_at (g : Nat → Value) {i j : Nat} (h : j < i) (d : Value) : (own_list g i).getD j d = g j := by simp [own_list, List.getD_eq_getElem?_getD, h]
theorem own_setl (g : Nat → Value) (i : Nat) (x : Value) : (own_list g i ++ [x]).set i (g i) = own_list g (i + 1) := by
  have h := own_len g i
  have e : (own_list g i ++ [x]).set (own_list g i).length (g i) = own_list g i ++ [g i] := by simp
  rw [h] at e
  rw [e]; simp [own_list, List.range_succ]
theorem own_il {i : Nat} (h : i < 2147483648) : (Int32.ofNat i).toInt = i := Int32.toInt_ofNat_of_lt h
theorem own_in {i : Nat} (h : i < 2147483648) : ¬ Int32.ofNat i < 0 := by
  rw [Int32.lt_iff_toInt_lt, own_il h, show (0 : Int32).toInt = 0 from rfl]; omega
theorem own_ic {i : Nat} (h : i < 2147483648) : (Int32.ofNat i).toNatClampNeg = i := by
  rw [Int32.toNatClampNeg, own_il h]; rfl
section OwnDia
variable {tb : Tables} [Ours tb] {e : Env} {below : List Frame} {T target : State} {m : MethodId} {c : Code} {g : JFrame}
/-- a boolean written out: if .. goto the 0; 1; goto behind; 0 -/
theorem own_dia (h : At T m c below) (hx : tb.exec = Jvm.exec) (hg : g.method = m) {pc0 : Nat} {P : Prop} [Decidable P] {u w : Int32} {rest : List Value} (huw : u = 0 ∧ w = 1 ∨ u = 1 ∧ w = 0)
    (hd1 : decode c.code (pc0 + 3) = .ok (.iconst 1, 1)) (hd2 : decode c.code (pc0 + 4) = .ok (.goto 4, 3)) (hd3 : decode c.code (pc0 + 7) = .ok (.iconst 0, 1))
    (s1 : ∀ t, (P ∧ u = 0 ∨ ¬ P ∧ w = 0) → Steps tb e below (T.setTop { g with pc := pc0 + 7, stack := rest }) t → Steps tb e below (T.setTop g) t)
    (s2 : ∀ t, (P ∧ u = 1 ∨ ¬ P ∧ w = 1) → Steps tb e below (T.setTop { g with pc := pc0 + 3, stack := rest }) t → Steps tb e below (T.setTop g) t)
    (hr : Steps tb e below (T.setTop { g with pc := pc0 + 8, stack := .int (if P then u else w) :: rest }) target) : Steps tb e below (T.setTop g) target := by
  have z : (if P then u else w) = 0 → (P ∧ u = 0 ∨ ¬ P ∧ w = 0) := fun q => by
    by_cases hp : P
    · rw [if_pos hp] at q; exact Or.inl ⟨hp, q⟩
    · rw [if_neg hp] at q; exact Or.inr ⟨hp, q⟩
  have o : (if P then u else w) = 1 → (P ∧ u = 1 ∨ ¬ P ∧ w = 1) := fun q => by
    by_cases hp : P
    · rw [if_pos hp] at q; exact Or.inl ⟨hp, q⟩
    · rw [if_neg hp] at q; exact Or.inr ⟨hp, q⟩
  have b : (if P then u else w) = 0 ∨ (if P then u else w) = 1 := by
    rcases huw with ⟨rfl, rfl⟩ | ⟨rfl, rfl⟩ <;> by_cases hp : P <;> simp [hp]
  rcases b with q | q
  · refine s1 _ (z q) ?_
    refine Free.XS.iconst h hx hg hd3 ?_
    rw [q] at hr
    exact hr
  · refine s2 _ (o q) ?_
    refine Free.XS.iconst h hx hg hd1 ?_
    refine Free.XS.goto h hx hg (pc0 := pc0 + 4) (pc' := pc0 + 8) rfl hd2 (by omega) (by omega) ?_
    rw [q] at hr
    exact hr
theorem own_diaT (h : At T m c below) (hx : tb.exec = Jvm.exec) (hg : g.method = m) {pc0 : Nat} (hpc : g.pc = pc0) {P : Prop} [Decidable P] {cd : ClassFile.Cond} {x : Int32} {rest : List Value}
    (hd0 : decode c.code pc0 = .ok (.ifCond cd 7, 3)) (hd1 : decode c.code (pc0 + 3) = .ok (.iconst 1, 1)) (hd2 : decode c.code (pc0 + 4) = .ok (.goto 4, 3)) (hd3 : decode c.code (pc0 + 7) = .ok (.iconst 0, 1))
    (hs : g.stack = .int x :: rest) (hy : P → ifCond.holds cd x = true) (hn : ¬ P → ifCond.holds cd x = false)
    (hr : Steps tb e below (T.setTop { g with pc := pc0 + 8, stack := .int (if P then (0 : Int32) else 1) :: rest }) target) : Steps tb e below (T.setTop g) target := by
  subst hpc
  refine own_dia h hx hg (P := P) (u := 0) (w := 1) (rest := rest) (Or.inl ⟨rfl, rfl⟩) hd1 hd2 hd3 (fun t q k => ?_) (fun t q k => ?_) hr
  · have hp : P := q.elim (·.1) fun z => absurd z.2 (by decide)
    exact Free.XS.ifYes h hx hg (pc' := g.pc + 7) rfl hd0 hs (hy hp) (by omega) (by omega) k
  · have hp : ¬ P := q.elim (fun z => absurd z.2 (by decide)) (·.1)
    exact Free.XS.ifNo h hx hg hd0 hs (hn hp) k
theorem own_diaF (h : At T m c below) (hx : tb.exec = Jvm.exec) (hg : g.method = m) {pc0 : Nat} (hpc : g.pc = pc0) {P : Prop} [Decidable P] {cd : ClassFile.Cond} {x : Int32} {rest : List Value}
    (hd0 : decode c.code pc0 = .ok (.ifCond cd 7, 3)) (hd1 : decode c.code (pc0 + 3) = .ok (.iconst 1, 1)) (hd2 : decode c.code (pc0 + 4) = .ok (.goto 4, 3)) (hd3 : decode c.code (pc0 + 7) = .ok (.iconst 0, 1))
    (hs : g.stack = .int x :: rest) (hy : P → ifCond.holds cd x = false) (hn : ¬ P → ifCond.holds cd x = true)
    (hr : Steps tb e below (T.setTop { g with pc := pc0 + 8, stack := .int (if P then (1 : Int32) else 0) :: rest }) target) : Steps tb e below (T.setTop g) target := by
  subst hpc
  refine own_dia h hx hg (P := P) (u := 1) (w := 0) (rest := rest) (Or.inr ⟨rfl, rfl⟩) hd1 hd2 hd3 (fun t q k => ?_) (fun t q k => ?_) hr
  · have hp : ¬ P := q.elim (fun z => absurd z.2 (by decide)) (·.1)
    exact Free.XS.ifYes h hx hg (pc' := g.pc + 7) rfl hd0 hs (hn hp) (by omega) (by omega) k
  · have hp : P := q.elim (·.1) fun z => absurd z.2 (by decide)
    exact Free.XS.ifNo h hx hg hd0 hs (hy hp) k
theorem own_diaT2 (h : At T m c below) (hx : tb.exec = Jvm.exec) (hg : g.method = m) {pc0 : Nat} (hpc : g.pc = pc0) {P : Prop} [Decidable P] {cd : ClassFile.Cond} {x y : Int32} {rest : List Value}
    (hd0 : decode c.code pc0 = .ok (.if_icmp cd 7, 3)) (hd1 : decode c.code (pc0 + 3) = .ok (.iconst 1, 1)) (hd2 : decode c.code (pc0 + 4) = .ok (.goto 4, 3)) (hd3 : decode c.code (pc0 + 7) = .ok (.iconst 0, 1))
    (hs : g.stack = .int y :: .int x :: rest) (hy : P → if_icmp.holds cd x y = true) (hn : ¬ P → if_icmp.holds cd x y = false)
    (hr : Steps tb e below (T.setTop { g with pc := pc0 + 8, stack := .int (if P then (0 : Int32) else 1) :: rest }) target) : Steps tb e below (T.setTop g) target := by
  subst hpc
  refine own_dia h hx hg (P := P) (u := 0) (w := 1) (rest := rest) (Or.inl ⟨rfl, rfl⟩) hd1 hd2 hd3 (fun t q k => ?_) (fun t q k => ?_) hr
  · have hp : P := q.elim (·.1) fun z => absurd z.2 (by decide)
    exact Free.XS.icmpYes h hx hg (pc' := g.pc + 7) rfl hd0 hs (hy hp) (by omega) (by omega) k
  · have hp : ¬ P := q.elim (fun z => absurd z.2 (by decide)) (·.1)
    exact Free.XS.icmpNo h hx hg hd0 hs (hn hp) k
theorem own_diaF2 (h : At T m c below) (hx : tb.exec = Jvm.exec) (hg : g.method = m) {pc0 : Nat} (hpc : g.pc = pc0) {P : Prop} [Decidable P] {cd : ClassFile.Cond} {x y : Int32} {rest : List Value}
    (hd0 : decode c.code pc0 = .ok (.if_icmp cd 7, 3)) (hd1 : decode c.code (pc0 + 3) = .ok (.iconst 1, 1)) (hd2 : decode c.code (pc0 + 4) = .ok (.goto 4, 3)) (hd3 : decode c.code (pc0 + 7) = .ok (.iconst 0, 1))
    (hs : g.stack = .int y :: .int x :: rest) (hy : P → if_icmp.holds cd x y = false) (hn : ¬ P → if_icmp.holds cd x y = true)
    (hr : Steps tb e below (T.setTop { g with pc := pc0 + 8, stack := .int (if P then (1 : Int32) else 0) :: rest }) target) : Steps tb e below (T.setTop g) target := by
  subst hpc
  refine own_dia h hx hg (P := P) (u := 1) (w := 0) (rest := rest) (Or.inr ⟨rfl, rfl⟩) hd1 hd2 hd3 (fun t q k => ?_) (fun t q k => ?_) hr
  · have hp : ¬ P := q.elim (fun z => absurd z.2 (by decide)) (·.1)
    exact Free.XS.icmpYes h hx hg (pc' := g.pc + 7) rfl hd0 hs (hn hp) (by omega) (by omega) k
  · have hp : P := q.elim (·.1) fun z => absurd z.2 (by decide)
    exact Free.XS.icmpNo h hx hg hd0 hs (hy hp) k
end OwnDia

theorem own_n (q : Int64) : ¬ (q &&& (9223372036854775807 : Int64)) < 0 := by
  have h := (c_andSL q (9223372036854775807 : Int64)).2.2 (by decide)
  rw [Int64.lt_iff_toInt_lt]; simpa using h
theorem own_c {mi n : Int64} (hn : ¬ n < 0) : ((9223372036854775807 : Int64) - n < mi ↔ 9223372036854775807 - n.toInt < mi.toInt) ∧ ((mi + n < mi ↔ 9223372036854775807 - n.toInt < mi.toInt) ∧ (¬ 9223372036854775807 - n.toInt < mi.toInt → (mi + n).toInt = mi.toInt + n.toInt)) ∧ 0 ≤ n.toInt ∧ n.toInt ≤ 9223372036854775807 := by
  have e1 := c_lsub (9223372036854775807 : Int64) n
  have e2 := c_ladd mi n
  have e3 := rng64 n
  have e4 := rng64 mi
  have e5 := rng64 ((9223372036854775807 : Int64) - n)
  have e6 := rng64 (mi + n)
  have hm : (9223372036854775807 : Int64).toInt = 9223372036854775807 := rfl
  have hz : (0 : Int64).toInt = 0 := rfl
  simp only [Int64.lt_iff_toInt_lt] at *
  rw [hm] at e1
  rw [hz] at hn
  refine ⟨?_, ⟨?_, ?_⟩, ?_, ?_⟩ <;> omega
theorem own_e1 {mi n : Int64} (hn : ¬ n < 0) (h : mi + n < mi) : (if (9223372036854775807 : Int64) - n < mi then (9223372036854775807 : Int64) else mi + n) = (9223372036854775807 : Int64) := if_pos ((own_c hn).1.mpr ((own_c hn).2.1.1.mp h))
theorem own_e2 {mi n : Int64} (hn : ¬ n < 0) (h : ¬ mi + n < mi) : (if (9223372036854775807 : Int64) - n < mi then (9223372036854775807 : Int64) else mi + n) = mi + n := if_neg fun q => h ((own_c hn).2.1.1.mpr ((own_c hn).1.mp q))
theorem own_e3 {mi n : Int64} (hn : ¬ n < 0) : ¬ (if (9223372036854775807 : Int64) - n < mi then (9223372036854775807 : Int64) else mi + n) < mi := by
  have hm : (9223372036854775807 : Int64).toInt = 9223372036854775807 := rfl
  have e4 := rng64 mi
  obtain ⟨a, ⟨b, b'⟩, c, d⟩ := own_c (mi := mi) hn
  by_cases h : (9223372036854775807 : Int64) - n < mi
  · rw [if_pos h, Int64.lt_iff_toInt_lt, hm]; omega
  · rw [if_neg h, Int64.lt_iff_toInt_lt, b' (fun q => h (a.mpr q))]; omega
theorem own_e4 {mi n : Int64} (hn : ¬ n < 0) (h0 : ¬ mi < 0) : ¬ (if (9223372036854775807 : Int64) - n < mi then (9223372036854775807 : Int64) else mi + n) < n := by
  have hm : (9223372036854775807 : Int64).toInt = 9223372036854775807 := rfl
  have hz : (0 : Int64).toInt = 0 := rfl
  rw [Int64.lt_iff_toInt_lt, hz] at h0
  obtain ⟨a, ⟨b, b'⟩, c, d⟩ := own_c (mi := mi) hn
  by_cases h : (9223372036854775807 : Int64) - n < mi
  · rw [if_pos h, Int64.lt_iff_toInt_lt, hm]; omega
  · rw [if_neg h, Int64.lt_iff_toInt_lt, b' (fun q => h (a.mpr q))]; omega
theorem own_ee {mi n : Int64} (hn : ¬ n < 0) : (if (9223372036854775807 : Int64) - n < mi then (9223372036854775807 : Int64) else mi + n) = (if mi + n < mi then (9223372036854775807 : Int64) else mi + n) := by
  by_cases h : mi + n < mi
  · rw [own_e1 hn h, if_pos h]
  · rw [own_e2 hn h, if_neg h]
theorem own_cv {mi n got : Int64} (hn : ¬ n < 0) (hg : got = (if (9223372036854775807 : Int64) - n < mi then (9223372036854775807 : Int64) else mi + n)) : ¬ (if mi < (0 : Int64) then (1 : Int32) else (if got < n then (0 : Int32) else 1)) = 0 := by
  by_cases h : mi < 0
  · rw [if_pos h]; decide
  · rw [if_neg h, hg, if_neg (own_e4 hn h)]; decide
theorem d1_0 : decode prog_11_method_8_code 0 = .ok (.lload_n 0, 1) := by decide +kernel
theorem d1_1 : decode prog_11_method_8_code 1 = .ok (.ldc2_w 91, 3) := by decide +kernel
theorem d1_4 : decode prog_11_method_8_code 4 = .ok (.lload_n 2, 1) := by decide +kernel
theorem d1_5 : decode prog_11_method_8_code 5 = .ok (.lsub, 1) := by decide +kernel
theorem d1_6 : decode prog_11_method_8_code 6 = .ok (.lcmp, 1) := by decide +kernel
theorem d1_7 : decode prog_11_method_8_code 7 = .ok (.ifCond .le 9, 3) := by decide +kernel
theorem d1_10 : decode prog_11_method_8_code 10 = .ok (.ldc2_w 91, 3) := by decide +kernel
theorem d1_13 : decode prog_11_method_8_code 13 = .ok (.goto 6, 3) := by decide +kernel
theorem d1_16 : decode prog_11_method_8_code 16 = .ok (.lload_n 0, 1) := by decide +kernel
theorem d1_17 : decode prog_11_method_8_code 17 = .ok (.lload_n 2, 1) := by decide +kernel
theorem d1_18 : decode prog_11_method_8_code 18 = .ok (.ladd, 1) := by decide +kernel
theorem d1_19 : decode prog_11_method_8_code 19 = .ok (.lreturn, 1) := by decide +kernel
theorem pn_com_example_taut_limiter_tautlimiter_Micros : plainName "com/example/taut_limiter/tautlimiter/Micros" = true := by first | (simp [plainName, overriddenIn]; done) | decide +kernel
theorem ef_1 (m : MethodId) (q0 : Int64) (q1 : Int64) : entryFrame m #[(.long q0), (.long q1)] 4 = mkF m 0 #[.val (.long q0), .second, .val (.long q1), .second] [] := by first | (simp [entryFrame, mkF, argsToLocals, Value.category]; done) | rfl
def Q1 (Z : State) (q0 : Int64) (q1 : Int64) (h0 : Heap) (n0 : Nat) (v : Option Value) (h : Heap) (L : List Loc) : Prop := v = some (.long (if ((9223372036854775807 : Int64) - q1) < q0 then (9223372036854775807 : Int64) else (q0 + q1))) ∧ Fr n0 L ∧ Keep h0 h []
set_option maxRecDepth 65536 in
set_option maxHeartbeats 40000000 in
theorem rm1 (l : Launch) (Z : State) (a0 : Array Value) (hw : ∀ d ∈ tables_1, d.before a0 Z = true) (ws : List Jvm.Cond) (q0 : Int64) (q1 : Int64) (h0 : Heap) (n0 : Nat) (Z0 : n0 ≤ h0.size) :
    MetFree l (⟨"com/example/taut_limiter/tautlimiter/Micros", "cappedSum", "(JJ)J"⟩ : MethodName) (head1 (Jvm.Cond.code (⟨"com/example/taut_limiter/tautlimiter/Micros", "cappedSum", "(JJ)J"⟩ : MethodName) prog_11_method_8_code 4 (some .long) :: ws) ({ frames := 0, cells := 0, slots := 0, locals := 0 } : Room)) (fun a U => a = #[(.long q0), (.long q1)] ∧ Z.Warmed39 U.vm ∧ U.heap = h0) (fun _ _ _ _ _ => True) (fun _ U o U' => ∃ v L, o = .returned v ∧ Q1 Z q0 q1 h0 n0 v U'.heap L ∧ FrameEnd U o U' L ({ frames := 0, cells := 0, slots := 0, locals := 0 } : Room).cells ({ frames := 0, cells := 0, slots := 0, locals := 0 } : Room).slots) := by
  refine MetFree.of_bodySF (plainFor_of_name pn_com_example_taut_limiter_tautlimiter_Micros) hisR ?_
  intro p e s m args below meth c s₁ Bd hml0 hP hK
  obtain ⟨rfl, hZ, hh⟩ := hP
  have hx := Bd.exec
  have hby := Bd.bytes
  have hml : c.maxLocals = 4 := hml0
  have hown : s.vm.findClass "com/example/taut_limiter/tautlimiter/Micros" = some m.cls := findClass_of_methodNamed Bd.named
  have hnm := (name_of_methodNamed Bd.named Bd.method).1
  have X0 : Stand p l e ({ frames := 0, cells := 0, slots := 0, locals := 0 } : Room) s m #[(.long q0), (.long q1)] below meth c s₁ [] 0 0 := Stand.of_body Bd
  have e0 : s₁.heap = h0 := by rw [← hh, Bd.state]; rfl
  have N0 := Fr.nil n0
  have pre0 : ∀ t, Steps p.tables e below (s₁.setTop (mkF m 0 #[.val (.long q0), .second, .val (.long q1), .second] [])) t → Steps p.tables e below (s₁.setTop (entryFrame m #[(.long q0), (.long q1)] 4)) t := fun t k => castTop (ef_1 m q0 q1) k
  have pre1 : ∀ t, Steps p.tables e below (s₁.setTop (mkF m 7 #[.val (.long q0), .second, .val (.long q1), .second] [(.int (lcmpW q0 ((9223372036854775807 : Int64) - q1)))])) t → Steps p.tables e below (s₁.setTop (entryFrame m #[(.long q0), (.long q1)] 4)) t := by
    intro t kt
    refine pre0 _ ?_
    show Steps p.tables e below (s₁.setTop (mkF m 0 #[.val (.long q0), .second, .val (.long q1), .second] [])) _
    refine XS.lloadN X0.here hx rfl (hb hby d1_0) rfl ?_
    show Steps p.tables e below (s₁.setTop (mkF m 1 #[.val (.long q0), .second, .val (.long q1), .second] [(.long q0)])) _
    refine X0.ldc2Long hx hown (mvT hZ (hw _ (List.mem_of_getElem? (i := 5) rfl))) (g := (mkF m 1 #[.val (.long q0), .second, .val (.long q1), .second] [(.long q0)])) rfl (hb hby d1_1) _ ?_
    show Steps p.tables e below (s₁.setTop (mkF m 4 #[.val (.long q0), .second, .val (.long q1), .second] [(.long (9223372036854775807 : Int64)), (.long q0)])) _
    refine XS.lloadN X0.here hx rfl (hb hby d1_4) rfl ?_
    show Steps p.tables e below (s₁.setTop (mkF m 5 #[.val (.long q0), .second, .val (.long q1), .second] [(.long q1), (.long (9223372036854775807 : Int64)), (.long q0)])) _
    refine XS.lsub X0.here hx rfl (hb hby d1_5) rfl ?_
    show Steps p.tables e below (s₁.setTop (mkF m 6 #[.val (.long q0), .second, .val (.long q1), .second] [(.long ((9223372036854775807 : Int64) - q1)), (.long q0)])) _
    refine XS.lcmp X0.here hx rfl (hb hby d1_6) rfl ?_
    exact kt
  by_cases hc7_2 : ((9223372036854775807 : Int64) - q1) < q0
  · skip
    obtain ⟨fs, hr, hrun, hended, hW, hsame⟩ := X0.leave (v := some (.long (9223372036854775807 : Int64))) (fun h => by rw [Bd.returns] at h; cases h)
    refine ⟨_, _, pre1 _ ?_, hrun, hended, _, _, rfl, ?_, ⟨_, rfl⟩, hW, hsame.mono (by decide) (by decide)⟩
    · show Steps p.tables e below (s₁.setTop (mkF m 7 #[.val (.long q0), .second, .val (.long q1), .second] [(.int (lcmpW q0 ((9223372036854775807 : Int64) - q1)))])) _
      refine XS.ifNo X0.here hx rfl (hb hby d1_7) rfl ((if0 _ _).trans (tlt ((lw_gt _ _).mpr hc7_2)).2.2.2) ?_
      show Steps p.tables e below (s₁.setTop (mkF m 10 #[.val (.long q0), .second, .val (.long q1), .second] [])) _
      refine X0.ldc2Long hx hown (mvT hZ (hw _ (List.mem_of_getElem? (i := 5) rfl))) (g := (mkF m 10 #[.val (.long q0), .second, .val (.long q1), .second] [])) rfl (hb hby d1_10) _ ?_
      show Steps p.tables e below (s₁.setTop (mkF m 13 #[.val (.long q0), .second, .val (.long q1), .second] [(.long (9223372036854775807 : Int64))])) _
      refine XS.goto X0.here hx rfl (pc0 := 13) (pc' := 19) rfl (hb hby d1_13) (by decide) (by decide) ?_
      show Steps p.tables e below (s₁.setTop (mkF m 19 #[.val (.long q0), .second, .val (.long q1), .second] [(.long (9223372036854775807 : Int64))])) _
      jvm_step X0.here [X0.here.top, hx, (hb hby d1_19), X0.method', Bd.returns, narrow]
      first | (intro acts; rw [hr _ acts rfl rfl rfl]) | rw [hr _ _ rfl rfl rfl]
      exact Steps.refl _
    · show Q1 Z q0 q1 h0 n0 _ s₁.heap _
      rw [e0]
      exact ⟨by rw [if_pos hc7_2], N0, (Keep.refl h0 [])⟩
  · skip
    obtain ⟨fs, hr, hrun, hended, hW, hsame⟩ := X0.leave (v := some (.long (q0 + q1))) (fun h => by rw [Bd.returns] at h; cases h)
    refine ⟨_, _, pre1 _ ?_, hrun, hended, _, _, rfl, ?_, ⟨_, rfl⟩, hW, hsame.mono (by decide) (by decide)⟩
    · show Steps p.tables e below (s₁.setTop (mkF m 7 #[.val (.long q0), .second, .val (.long q1), .second] [(.int (lcmpW q0 ((9223372036854775807 : Int64) - q1)))])) _
      refine XS.ifYes X0.here hx rfl (pc0 := 7) (pc' := 16) rfl (hb hby d1_7) rfl ((if0 _ _).trans (flt (mt (lw_gt _ _).mp hc7_2)).2.2.2) (by decide) (by decide) ?_
      show Steps p.tables e below (s₁.setTop (mkF m 16 #[.val (.long q0), .second, .val (.long q1), .second] [])) _
      refine XS.lloadN X0.here hx rfl (hb hby d1_16) rfl ?_
      show Steps p.tables e below (s₁.setTop (mkF m 17 #[.val (.long q0), .second, .val (.long q1), .second] [(.long q0)])) _
      refine XS.lloadN X0.here hx rfl (hb hby d1_17) rfl ?_
      show Steps p.tables e below (s₁.setTop (mkF m 18 #[.val (.long q0), .second, .val (.long q1), .second] [(.long q1), (.long q0)])) _
      refine XS.ladd X0.here hx rfl (hb hby d1_18) rfl ?_
      show Steps p.tables e below (s₁.setTop (mkF m 19 #[.val (.long q0), .second, .val (.long q1), .second] [(.long (q0 + q1))])) _
      jvm_step X0.here [X0.here.top, hx, (hb hby d1_19), X0.method', Bd.returns, narrow]
      first | (intro acts; rw [hr _ acts rfl rfl rfl]) | rw [hr _ _ rfl rfl rfl]
      exact Steps.refl _
    · show Q1 Z q0 q1 h0 n0 _ s₁.heap _
      rw [e0]
      exact ⟨by rw [if_neg hc7_2], N0, (Keep.refl h0 [])⟩
theorem pn_com_example_taut_limiter_tautlimiter_MicrosCappedSumPinLaw : plainName "com/example/taut_limiter/tautlimiter/MicrosCappedSumPinLaw" = true := by first | (simp [plainName, overriddenIn]; done) | decide +kernel
theorem pd_0 : parseMethodDescriptor "(JJ)J" = some ⟨[.long, .long], some .long⟩ := by decide +kernel
theorem ef_0 (m : MethodId) (q0 : Int64) (q1 : Int64) (p2 : Int32) : entryFrame m #[(.long q0), (.long q1), (.int p2)] maxLocals = mkF m 0 #[.val (.long q0), .second, .val (.long q1), .second, .val (.int p2), .unset, .unset, .unset, .unset, .unset, .unset, .unset, .unset, .unset, .unset, .unset, .unset, .unset] [] := by first | (simp [entryFrame, mkF, argsToLocals, Value.category, maxLocals]; done) | rfl
def Q0 (Z : State) (q0 : Int64) (q1 : Int64) (p2 : Int32) (h0 : Heap) (n0 : Nat) (v : Option Value) (h : Heap) (L : List Loc) : Prop := v = some (.int (1 : Int32)) ∧ Fr n0 L
set_option maxRecDepth 65536 in
set_option maxHeartbeats 40000000 in
theorem rm0 (l : Launch) (Z : State) (a0 : Array Value) (hw : ∀ d ∈ tables_1, d.before a0 Z = true) (ws : List Jvm.Cond) (q0 : Int64) (q1 : Int64) (p2 : Int32) (h0 : Heap) (n0 : Nat) (Z0 : n0 ≤ h0.size) :
    MetFree l x (head1 (Jvm.Cond.code x code maxLocals ret :: ws) room_1) (fun a U => a = #[(.long q0), (.long q1), (.int p2)] ∧ Z.Warmed39 U.vm ∧ U.heap = h0) (fun _ _ _ _ _ => True) (fun _ U o U' => ∃ v L, o = .returned v ∧ Q0 Z q0 q1 p2 h0 n0 v U'.heap L ∧ FrameEnd U o U' L room_1.cells room_1.slots) := by
  refine MetFree.of_bodySF (plainFor_of_name pn_com_example_taut_limiter_tautlimiter_MicrosCappedSumPinLaw) hisR ?_
  intro p e s m args below meth c s₁ Bd hml0 hP hK
  obtain ⟨rfl, hZ, hh⟩ := hP
  have hx := Bd.exec
  have hby := Bd.bytes
  have hml : c.maxLocals = 18 := hml0
  have hown : s.vm.findClass "com/example/taut_limiter/tautlimiter/MicrosCappedSumPinLaw" = some m.cls := findClass_of_methodNamed Bd.named
  have hnm := (name_of_methodNamed Bd.named Bd.method).1
  have X0 : Stand p l e room_1 s m #[(.long q0), (.long q1), (.int p2)] below meth c s₁ [] 0 0 := Stand.of_body Bd
  have e0 : s₁.heap = h0 := by rw [← hh, Bd.state]; rfl
  have N0 := Fr.nil n0
  have pre0 : ∀ t, Steps p.tables e below (s₁.setTop (mkF m 0 #[.val (.long q0), .second, .val (.long q1), .second, .val (.int p2), .unset, .unset, .unset, .unset, .unset, .unset, .unset, .unset, .unset, .unset, .unset, .unset, .unset] [])) t → Steps p.tables e below (s₁.setTop (entryFrame m #[(.long q0), (.long q1), (.int p2)] maxLocals)) t := fun t k => castTop (ef_0 m q0 q1 p2) k
  obtain ⟨n, e_n⟩ : ∃ z : Int64, z = (q1 &&& (9223372036854775807 : Int64)) := ⟨_, rfl⟩
  have hn : ¬ n < 0 := by rw [e_n]; exact own_n _
  have pre1 : ∀ t, Steps p.tables e below (s₁.setTop (mkF m 11 #[.val (.long q0), .second, .val (.long q1), .second, .val (.int p2), .val (.long n), .second, .unset, .unset, .unset, .unset, .unset, .unset, .unset, .unset, .unset, .unset, .unset] [(.int (p2 &&& (3 : Int32)))])) t → Steps p.tables e below (s₁.setTop (entryFrame m #[(.long q0), (.long q1), (.int p2)] maxLocals)) t := by
    intro t kt
    refine pre0 _ ?_
    show Steps p.tables e below (s₁.setTop (mkF m 0 #[.val (.long q0), .second, .val (.long q1), .second, .val (.int p2), .unset, .unset, .unset, .unset, .unset, .unset, .unset, .unset, .unset, .unset, .unset, .unset, .unset] [])) _
    refine XS.lloadN X0.here hx rfl (hb hby at_0) rfl ?_
    show Steps p.tables e below (s₁.setTop (mkF m 1 #[.val (.long q0), .second, .val (.long q1), .second, .val (.int p2), .unset, .unset, .unset, .unset, .unset, .unset, .unset, .unset, .unset, .unset, .unset, .unset, .unset] [(.long q1)])) _
    refine X0.ldc2Long hx hown (mvT hZ (hw _ (List.mem_of_getElem? (i := 0) rfl))) (g := (mkF m 1 #[.val (.long q0), .second, .val (.long q1), .second, .val (.int p2), .unset, .unset, .unset, .unset, .unset, .unset, .unset, .unset, .unset, .unset, .unset, .unset, .unset] [(.long q1)])) rfl (hb hby at_1) _ ?_
    show Steps p.tables e below (s₁.setTop (mkF m 4 #[.val (.long q0), .second, .val (.long q1), .second, .val (.int p2), .unset, .unset, .unset, .unset, .unset, .unset, .unset, .unset, .unset, .unset, .unset, .unset, .unset] [(.long (9223372036854775807 : Int64)), (.long q1)])) _
    refine XS.land X0.here hx rfl (hb hby at_4) rfl ?_
    show Steps p.tables e below (s₁.setTop (mkF m 5 #[.val (.long q0), .second, .val (.long q1), .second, .val (.int p2), .unset, .unset, .unset, .unset, .unset, .unset, .unset, .unset, .unset, .unset, .unset, .unset, .unset] [(.long (q1 &&& (9223372036854775807 : Int64)))])) _
    rw [← e_n]
    show Steps p.tables e below (s₁.setTop (mkF m 5 #[.val (.long q0), .second, .val (.long q1), .second, .val (.int p2), .unset, .unset, .unset, .unset, .unset, .unset, .unset, .unset, .unset, .unset, .unset, .unset, .unset] [(.long n)])) _
    refine XS.lstore X0.here hx rfl (hb hby at_5) rfl (l' := #[.val (.long q0), .second, .val (.long q1), .second, .val (.int p2), .val (.long n), .second, .unset, .unset, .unset, .unset, .unset, .unset, .unset, .unset, .unset, .unset, .unset]) rfl ?_
    show Steps p.tables e below (s₁.setTop (mkF m 7 #[.val (.long q0), .second, .val (.long q1), .second, .val (.int p2), .val (.long n), .second, .unset, .unset, .unset, .unset, .unset, .unset, .unset, .unset, .unset, .unset, .unset] [])) _
    refine XS.iload X0.here hx rfl (hb hby at_7) rfl ?_
    show Steps p.tables e below (s₁.setTop (mkF m 9 #[.val (.long q0), .second, .val (.long q1), .second, .val (.int p2), .val (.long n), .second, .unset, .unset, .unset, .unset, .unset, .unset, .unset, .unset, .unset, .unset, .unset] [(.int p2)])) _
    refine XS.iconst X0.here hx rfl (hb hby at_9) ?_
    show Steps p.tables e below (s₁.setTop (mkF m 10 #[.val (.long q0), .second, .val (.long q1), .second, .val (.int p2), .val (.long n), .second, .unset, .unset, .unset, .unset, .unset, .unset, .unset, .unset, .unset, .unset, .unset] [(.int (3 : Int32)), (.int p2)])) _
    refine XS.iand X0.here hx rfl (hb hby at_10) rfl ?_
    exact kt
  by_cases hc11_2 : (p2 &&& (3 : Int32)) = (0 : Int32)
  · skip
    -- pc 44: Micros.cappedSum by rm1
    obtain ⟨_, _, ⟨T3, L3, k3, n3⟩, -, X3, ⟨Lc3, hQ3, l3, y3, z3'⟩, st3⟩ := Jvm.LawKit.callS X0 hx (y := (⟨"com/example/taut_limiter/tautlimiter/Micros", "cappedSum", "(JJ)J"⟩ : MethodName)) hown (mvT hZ (hw _ (List.mem_of_getElem? (i := 1) rfl))) (mvT hZ (hw _ (List.mem_of_getElem? (i := 2) rfl))) (mvT hZ (hw _ (List.mem_of_getElem? (i := 3) rfl))) (mvT hZ (hw _ (List.mem_of_getElem? (i := 4) rfl))) (by decide) (backOf (W := 0) (rm1 l Z a0 hw [] q0 n h0 n0 Z0 ) hZ (hw _ (List.mem_of_getElem? (i := 4) rfl)) (hw _ (List.mem_of_getElem? (i := 3) rfl)) (by decide) (by decide)) (g := (mkF m 44 #[.val (.long q0), .second, .val (.long q1), .second, .val (.int p2), .val (.long n), .second, .val (.long q0), .second, .unset, .unset, .unset, .unset, .unset, .unset, .unset, .unset, .unset] [(.long n), (.long q0)])) rfl (by rw [hml]; rfl) (argsL := [(.long q0), (.long n)]) (rest := []) (lenOf pd_0 rfl) rfl (by show 2 * 0 + _ ≤ _; exact Nat.le_of_eq rfl) (hb hby at_44) (fun _ _ => ⟨rfl, e0, (by decide : 0 + 0 ≤ _), (by decide : 0 + 0 ≤ _)⟩)
    dsimp only [Pt.U, Pt.locs, Pt.cells, Pt.slots] at X3 l3 y3 z3' st3 hQ3
    subst l3 y3 z3'
    obtain ⟨rfl, N3q, K3⟩ := hQ3
    have N3 := Fr.app N0 N3q
    have J3 : Keep h0 T3.heap [] := (Keep.refl h0 []).trans K3 all0
    obtain ⟨got, e_got⟩ : ∃ z : Int64, z = (if ((9223372036854775807 : Int64) - n) < q0 then (9223372036854775807 : Int64) else (q0 + n)) := ⟨_, rfl⟩
    obtain ⟨ex, e_ex⟩ : ∃ z : Int64, z = (if (q0 + n) < q0 then (9223372036854775807 : Int64) else (q0 + n)) := ⟨_, rfl⟩
    have pre5 : ∀ t, Steps p.tables e below (T3.setTop (mkF m 72 #[.val (.long q0), .second, .val (.long q1), .second, .val (.int p2), .val (.long n), .second, .val (.long q0), .second, .val (.long got), .second, .val (.long (q0 + n)), .second, .unset, .unset, .unset, .unset, .unset] [(.long ex)])) t → Steps p.tables e below (s₁.setTop (entryFrame m #[(.long q0), (.long q1), (.int p2)] maxLocals)) t := by
      intro t kt
      refine pre1 _ ?_
      show Steps p.tables e below (s₁.setTop (mkF m 11 #[.val (.long q0), .second, .val (.long q1), .second, .val (.int p2), .val (.long n), .second, .unset, .unset, .unset, .unset, .unset, .unset, .unset, .unset, .unset, .unset, .unset] [(.int (p2 &&& (3 : Int32)))])) _
      refine XS.ifNo X0.here hx rfl (hb hby at_11) rfl ((if0 _ _).trans (teq hc11_2).2) ?_
      show Steps p.tables e below (s₁.setTop (mkF m 14 #[.val (.long q0), .second, .val (.long q1), .second, .val (.int p2), .val (.long n), .second, .unset, .unset, .unset, .unset, .unset, .unset, .unset, .unset, .unset, .unset, .unset] [])) _
      refine XS.lloadN X0.here hx rfl (hb hby at_14) rfl ?_
      show Steps p.tables e below (s₁.setTop (mkF m 15 #[.val (.long q0), .second, .val (.long q1), .second, .val (.int p2), .val (.long n), .second, .unset, .unset, .unset, .unset, .unset, .unset, .unset, .unset, .unset, .unset, .unset] [(.long q0)])) _
      refine XS.lstore X0.here hx rfl (hb hby at_15) rfl (l' := #[.val (.long q0), .second, .val (.long q1), .second, .val (.int p2), .val (.long n), .second, .val (.long q0), .second, .unset, .unset, .unset, .unset, .unset, .unset, .unset, .unset, .unset]) rfl ?_
      show Steps p.tables e below (s₁.setTop (mkF m 17 #[.val (.long q0), .second, .val (.long q1), .second, .val (.int p2), .val (.long n), .second, .val (.long q0), .second, .unset, .unset, .unset, .unset, .unset, .unset, .unset, .unset, .unset] [])) _
      refine XS.goto X0.here hx rfl (pc0 := 17) (pc' := 40) rfl (hb hby at_17) (by decide) (by decide) ?_
      show Steps p.tables e below (s₁.setTop (mkF m 40 #[.val (.long q0), .second, .val (.long q1), .second, .val (.int p2), .val (.long n), .second, .val (.long q0), .second, .unset, .unset, .unset, .unset, .unset, .unset, .unset, .unset, .unset] [])) _
      refine XS.lload X0.here hx rfl (hb hby at_40) rfl ?_
      show Steps p.tables e below (s₁.setTop (mkF m 42 #[.val (.long q0), .second, .val (.long q1), .second, .val (.int p2), .val (.long n), .second, .val (.long q0), .second, .unset, .unset, .unset, .unset, .unset, .unset, .unset, .unset, .unset] [(.long q0)])) _
      refine XS.lload X0.here hx rfl (hb hby at_42) rfl ?_
      show Steps p.tables e below (s₁.setTop (mkF m 44 #[.val (.long q0), .second, .val (.long q1), .second, .val (.int p2), .val (.long n), .second, .val (.long q0), .second, .unset, .unset, .unset, .unset, .unset, .unset, .unset, .unset, .unset] [(.long n), (.long q0)])) _
      refine st3 _ ?_
      show Steps p.tables e below (T3.setTop (mkF m 47 #[.val (.long q0), .second, .val (.long q1), .second, .val (.int p2), .val (.long n), .second, .val (.long q0), .second, .unset, .unset, .unset, .unset, .unset, .unset, .unset, .unset, .unset] [(.long (if ((9223372036854775807 : Int64) - n) < q0 then (9223372036854775807 : Int64) else (q0 + n)))])) _
      rw [← e_got]
      show Steps p.tables e below (T3.setTop (mkF m 47 #[.val (.long q0), .second, .val (.long q1), .second, .val (.int p2), .val (.long n), .second, .val (.long q0), .second, .unset, .unset, .unset, .unset, .unset, .unset, .unset, .unset, .unset] [(.long got)])) _
      refine XS.lstore X3.here hx rfl (hb hby at_47) rfl (l' := #[.val (.long q0), .second, .val (.long q1), .second, .val (.int p2), .val (.long n), .second, .val (.long q0), .second, .val (.long got), .second, .unset, .unset, .unset, .unset, .unset, .unset, .unset]) rfl ?_
      show Steps p.tables e below (T3.setTop (mkF m 49 #[.val (.long q0), .second, .val (.long q1), .second, .val (.int p2), .val (.long n), .second, .val (.long q0), .second, .val (.long got), .second, .unset, .unset, .unset, .unset, .unset, .unset, .unset] [])) _
      refine XS.lload X3.here hx rfl (hb hby at_49) rfl ?_
      show Steps p.tables e below (T3.setTop (mkF m 51 #[.val (.long q0), .second, .val (.long q1), .second, .val (.int p2), .val (.long n), .second, .val (.long q0), .second, .val (.long got), .second, .unset, .unset, .unset, .unset, .unset, .unset, .unset] [(.long q0)])) _
      refine XS.lload X3.here hx rfl (hb hby at_51) rfl ?_
      show Steps p.tables e below (T3.setTop (mkF m 53 #[.val (.long q0), .second, .val (.long q1), .second, .val (.int p2), .val (.long n), .second, .val (.long q0), .second, .val (.long got), .second, .unset, .unset, .unset, .unset, .unset, .unset, .unset] [(.long n), (.long q0)])) _
      refine XS.ladd X3.here hx rfl (hb hby at_53) rfl ?_
      show Steps p.tables e below (T3.setTop (mkF m 54 #[.val (.long q0), .second, .val (.long q1), .second, .val (.int p2), .val (.long n), .second, .val (.long q0), .second, .val (.long got), .second, .unset, .unset, .unset, .unset, .unset, .unset, .unset] [(.long (q0 + n))])) _
      refine XS.lstore X3.here hx rfl (hb hby at_54) rfl (l' := #[.val (.long q0), .second, .val (.long q1), .second, .val (.int p2), .val (.long n), .second, .val (.long q0), .second, .val (.long got), .second, .val (.long (q0 + n)), .second, .unset, .unset, .unset, .unset, .unset]) rfl ?_
      show Steps p.tables e below (T3.setTop (mkF m 56 #[.val (.long q0), .second, .val (.long q1), .second, .val (.int p2), .val (.long n), .second, .val (.long q0), .second, .val (.long got), .second, .val (.long (q0 + n)), .second, .unset, .unset, .unset, .unset, .unset] [])) _
      refine XS.lload X3.here hx rfl (hb hby at_56) rfl ?_
      show Steps p.tables e below (T3.setTop (mkF m 58 #[.val (.long q0), .second, .val (.long q1), .second, .val (.int p2), .val (.long n), .second, .val (.long q0), .second, .val (.long got), .second, .val (.long (q0 + n)), .second, .unset, .unset, .unset, .unset, .unset] [(.long (q0 + n))])) _
      refine XS.lload X3.here hx rfl (hb hby at_58) rfl ?_
      show Steps p.tables e below (T3.setTop (mkF m 60 #[.val (.long q0), .second, .val (.long q1), .second, .val (.int p2), .val (.long n), .second, .val (.long q0), .second, .val (.long got), .second, .val (.long (q0 + n)), .second, .unset, .unset, .unset, .unset, .unset] [(.long q0), (.long (q0 + n))])) _
      refine XS.lcmp X3.here hx rfl (hb hby at_60) rfl ?_
      by_cases hc61_4 : (q0 + n) < q0
      · rw [if_pos hc61_4] at e_ex
        show Steps p.tables e below (T3.setTop (mkF m 61 #[.val (.long q0), .second, .val (.long q1), .second, .val (.int p2), .val (.long n), .second, .val (.long q0), .second, .val (.long got), .second, .val (.long (q0 + n)), .second, .unset, .unset, .unset, .unset, .unset] [(.int (lcmpW (q0 + n) q0))])) _
        refine XS.ifNo X3.here hx rfl (hb hby at_61) rfl ((if0 _ _).trans (tlt ((lw_lt _ _).mpr hc61_4)).2.1) ?_
        show Steps p.tables e below (T3.setTop (mkF m 64 #[.val (.long q0), .second, .val (.long q1), .second, .val (.int p2), .val (.long n), .second, .val (.long q0), .second, .val (.long got), .second, .val (.long (q0 + n)), .second, .unset, .unset, .unset, .unset, .unset] [])) _
        refine X3.ldc2Long hx hown (mvT hZ (hw _ (List.mem_of_getElem? (i := 0) rfl))) (g := (mkF m 64 #[.val (.long q0), .second, .val (.long q1), .second, .val (.int p2), .val (.long n), .second, .val (.long q0), .second, .val (.long got), .second, .val (.long (q0 + n)), .second, .unset, .unset, .unset, .unset, .unset] [])) rfl (hb hby at_64) _ ?_
        show Steps p.tables e below (T3.setTop (mkF m 67 #[.val (.long q0), .second, .val (.long q1), .second, .val (.int p2), .val (.long n), .second, .val (.long q0), .second, .val (.long got), .second, .val (.long (q0 + n)), .second, .unset, .unset, .unset, .unset, .unset] [(.long (9223372036854775807 : Int64))])) _
        refine XS.goto X3.here hx rfl (pc0 := 67) (pc' := 72) rfl (hb hby at_67) (by decide) (by decide) ?_
        subst e_ex
        exact kt
      · rw [if_neg hc61_4] at e_ex
        show Steps p.tables e below (T3.setTop (mkF m 61 #[.val (.long q0), .second, .val (.long q1), .second, .val (.int p2), .val (.long n), .second, .val (.long q0), .second, .val (.long got), .second, .val (.long (q0 + n)), .second, .unset, .unset, .unset, .unset, .unset] [(.int (lcmpW (q0 + n) q0))])) _
        refine XS.ifYes X3.here hx rfl (pc0 := 61) (pc' := 70) rfl (hb hby at_61) rfl ((if0 _ _).trans (flt (mt (lw_lt _ _).mp hc61_4)).2.1) (by decide) (by decide) ?_
        show Steps p.tables e below (T3.setTop (mkF m 70 #[.val (.long q0), .second, .val (.long q1), .second, .val (.int p2), .val (.long n), .second, .val (.long q0), .second, .val (.long got), .second, .val (.long (q0 + n)), .second, .unset, .unset, .unset, .unset, .unset] [])) _
        refine XS.lload X3.here hx rfl (hb hby at_70) rfl ?_
        subst e_ex
        exact kt
    obtain ⟨cov, e_cov⟩ : ∃ z : Int32, z = (if q0 < (0 : Int64) then (1 : Int32) else (if got < n then (0 : Int32) else 1)) := ⟨_, rfl⟩
    have pre7 : ∀ t, Steps p.tables e below (T3.setTop (mkF m 124 #[.val (.long q0), .second, .val (.long q1), .second, .val (.int p2), .val (.long n), .second, .val (.long q0), .second, .val (.long got), .second, .val (.long (q0 + n)), .second, .val (.long ex), .second, .val (.int (if got = ex then (1 : Int32) else 0)), .val (.int (if got < q0 then (0 : Int32) else 1)), .unset] [(.int cov)])) t → Steps p.tables e below (s₁.setTop (entryFrame m #[(.long q0), (.long q1), (.int p2)] maxLocals)) t := by
      intro t kt
      refine pre5 _ ?_
      show Steps p.tables e below (T3.setTop (mkF m 72 #[.val (.long q0), .second, .val (.long q1), .second, .val (.int p2), .val (.long n), .second, .val (.long q0), .second, .val (.long got), .second, .val (.long (q0 + n)), .second, .unset, .unset, .unset, .unset, .unset] [(.long ex)])) _
      refine XS.lstore X3.here hx rfl (hb hby at_72) rfl (l' := #[.val (.long q0), .second, .val (.long q1), .second, .val (.int p2), .val (.long n), .second, .val (.long q0), .second, .val (.long got), .second, .val (.long (q0 + n)), .second, .val (.long ex), .second, .unset, .unset, .unset]) rfl ?_
      show Steps p.tables e below (T3.setTop (mkF m 74 #[.val (.long q0), .second, .val (.long q1), .second, .val (.int p2), .val (.long n), .second, .val (.long q0), .second, .val (.long got), .second, .val (.long (q0 + n)), .second, .val (.long ex), .second, .unset, .unset, .unset] [])) _
      refine XS.lload X3.here hx rfl (hb hby at_74) rfl ?_
      show Steps p.tables e below (T3.setTop (mkF m 76 #[.val (.long q0), .second, .val (.long q1), .second, .val (.int p2), .val (.long n), .second, .val (.long q0), .second, .val (.long got), .second, .val (.long (q0 + n)), .second, .val (.long ex), .second, .unset, .unset, .unset] [(.long got)])) _
      refine XS.lload X3.here hx rfl (hb hby at_76) rfl ?_
      show Steps p.tables e below (T3.setTop (mkF m 78 #[.val (.long q0), .second, .val (.long q1), .second, .val (.int p2), .val (.long n), .second, .val (.long q0), .second, .val (.long got), .second, .val (.long (q0 + n)), .second, .val (.long ex), .second, .unset, .unset, .unset] [(.long ex), (.long got)])) _
      refine XS.lcmp X3.here hx rfl (hb hby at_78) rfl ?_
      show Steps p.tables e below (T3.setTop (mkF m 79 #[.val (.long q0), .second, .val (.long q1), .second, .val (.int p2), .val (.long n), .second, .val (.long q0), .second, .val (.long got), .second, .val (.long (q0 + n)), .second, .val (.long ex), .second, .unset, .unset, .unset] [(.int (lcmpW got ex))])) _
      refine own_diaF X3.here hx rfl (pc0 := 79) rfl (hb hby at_79) (hb hby at_82) (hb hby at_83) (hb hby at_86) rfl (fun hq => ((if0 _ _).trans (teq ((lw_eq _ _).mpr hq)).2)) (fun hq => ((if0 _ _).trans (feq (mt (lw_eq _ _).mp hq)).2)) ?_
      show Steps p.tables e below (T3.setTop (mkF m 87 #[.val (.long q0), .second, .val (.long q1), .second, .val (.int p2), .val (.long n), .second, .val (.long q0), .second, .val (.long got), .second, .val (.long (q0 + n)), .second, .val (.long ex), .second, .unset, .unset, .unset] [(.int (if got = ex then (1 : Int32) else 0))])) _
      refine XS.istore X3.here hx rfl (hb hby at_87) rfl (l' := #[.val (.long q0), .second, .val (.long q1), .second, .val (.int p2), .val (.long n), .second, .val (.long q0), .second, .val (.long got), .second, .val (.long (q0 + n)), .second, .val (.long ex), .second, .val (.int (if got = ex then (1 : Int32) else 0)), .unset, .unset]) rfl ?_
      show Steps p.tables e below (T3.setTop (mkF m 89 #[.val (.long q0), .second, .val (.long q1), .second, .val (.int p2), .val (.long n), .second, .val (.long q0), .second, .val (.long got), .second, .val (.long (q0 + n)), .second, .val (.long ex), .second, .val (.int (if got = ex then (1 : Int32) else 0)), .unset, .unset] [])) _
      refine XS.lload X3.here hx rfl (hb hby at_89) rfl ?_
      show Steps p.tables e below (T3.setTop (mkF m 91 #[.val (.long q0), .second, .val (.long q1), .second, .val (.int p2), .val (.long n), .second, .val (.long q0), .second, .val (.long got), .second, .val (.long (q0 + n)), .second, .val (.long ex), .second, .val (.int (if got = ex then (1 : Int32) else 0)), .unset, .unset] [(.long got)])) _
      refine XS.lload X3.here hx rfl (hb hby at_91) rfl ?_
      show Steps p.tables e below (T3.setTop (mkF m 93 #[.val (.long q0), .second, .val (.long q1), .second, .val (.int p2), .val (.long n), .second, .val (.long q0), .second, .val (.long got), .second, .val (.long (q0 + n)), .second, .val (.long ex), .second, .val (.int (if got = ex then (1 : Int32) else 0)), .unset, .unset] [(.long q0), (.long got)])) _
      refine XS.lcmp X3.here hx rfl (hb hby at_93) rfl ?_
      show Steps p.tables e below (T3.setTop (mkF m 94 #[.val (.long q0), .second, .val (.long q1), .second, .val (.int p2), .val (.long n), .second, .val (.long q0), .second, .val (.long got), .second, .val (.long (q0 + n)), .second, .val (.long ex), .second, .val (.int (if got = ex then (1 : Int32) else 0)), .unset, .unset] [(.int (lcmpW got q0))])) _
      refine own_diaT X3.here hx rfl (pc0 := 94) rfl (hb hby at_94) (hb hby at_97) (hb hby at_98) (hb hby at_101) rfl (fun hq => ((if0 _ _).trans (tlt ((lw_lt _ _).mpr hq)).1)) (fun hq => ((if0 _ _).trans (flt (mt (lw_lt _ _).mp hq)).1)) ?_
      show Steps p.tables e below (T3.setTop (mkF m 102 #[.val (.long q0), .second, .val (.long q1), .second, .val (.int p2), .val (.long n), .second, .val (.long q0), .second, .val (.long got), .second, .val (.long (q0 + n)), .second, .val (.long ex), .second, .val (.int (if got = ex then (1 : Int32) else 0)), .unset, .unset] [(.int (if got < q0 then (0 : Int32) else 1))])) _
      refine XS.istore X3.here hx rfl (hb hby at_102) rfl (l' := #[.val (.long q0), .second, .val (.long q1), .second, .val (.int p2), .val (.long n), .second, .val (.long q0), .second, .val (.long got), .second, .val (.long (q0 + n)), .second, .val (.long ex), .second, .val (.int (if got = ex then (1 : Int32) else 0)), .val (.int (if got < q0 then (0 : Int32) else 1)), .unset]) rfl ?_
      show Steps p.tables e below (T3.setTop (mkF m 104 #[.val (.long q0), .second, .val (.long q1), .second, .val (.int p2), .val (.long n), .second, .val (.long q0), .second, .val (.long got), .second, .val (.long (q0 + n)), .second, .val (.long ex), .second, .val (.int (if got = ex then (1 : Int32) else 0)), .val (.int (if got < q0 then (0 : Int32) else 1)), .unset] [])) _
      refine XS.lload X3.here hx rfl (hb hby at_104) rfl ?_
      show Steps p.tables e below (T3.setTop (mkF m 106 #[.val (.long q0), .second, .val (.long q1), .second, .val (.int p2), .val (.long n), .second, .val (.long q0), .second, .val (.long got), .second, .val (.long (q0 + n)), .second, .val (.long ex), .second, .val (.int (if got = ex then (1 : Int32) else 0)), .val (.int (if got < q0 then (0 : Int32) else 1)), .unset] [(.long q0)])) _
      refine XS.lconst X3.here hx rfl (hb hby at_106) ?_
      show Steps p.tables e below (T3.setTop (mkF m 107 #[.val (.long q0), .second, .val (.long q1), .second, .val (.int p2), .val (.long n), .second, .val (.long q0), .second, .val (.long got), .second, .val (.long (q0 + n)), .second, .val (.long ex), .second, .val (.int (if got = ex then (1 : Int32) else 0)), .val (.int (if got < q0 then (0 : Int32) else 1)), .unset] [(.long (0 : Int64)), (.long q0)])) _
      refine XS.lcmp X3.here hx rfl (hb hby at_107) rfl ?_
      by_cases hc108_6 : q0 < (0 : Int64)
      · rw [if_pos hc108_6] at e_cov
        show Steps p.tables e below (T3.setTop (mkF m 108 #[.val (.long q0), .second, .val (.long q1), .second, .val (.int p2), .val (.long n), .second, .val (.long q0), .second, .val (.long got), .second, .val (.long (q0 + n)), .second, .val (.long ex), .second, .val (.int (if got = ex then (1 : Int32) else 0)), .val (.int (if got < q0 then (0 : Int32) else 1)), .unset] [(.int (lcmpW q0 (0 : Int64)))])) _
        refine XS.ifYes X3.here hx rfl (pc0 := 108) (pc' := 119) rfl (hb hby at_108) rfl ((if0 _ _).trans (tlt ((lw_lt _ _).mpr hc108_6)).1) (by decide) (by decide) ?_
        show Steps p.tables e below (T3.setTop (mkF m 119 #[.val (.long q0), .second, .val (.long q1), .second, .val (.int p2), .val (.long n), .second, .val (.long q0), .second, .val (.long got), .second, .val (.long (q0 + n)), .second, .val (.long ex), .second, .val (.int (if got = ex then (1 : Int32) else 0)), .val (.int (if got < q0 then (0 : Int32) else 1)), .unset] [])) _
        refine XS.iconst X3.here hx rfl (hb hby at_119) ?_
        show Steps p.tables e below (T3.setTop (mkF m 120 #[.val (.long q0), .second, .val (.long q1), .second, .val (.int p2), .val (.long n), .second, .val (.long q0), .second, .val (.long got), .second, .val (.long (q0 + n)), .second, .val (.long ex), .second, .val (.int (if got = ex then (1 : Int32) else 0)), .val (.int (if got < q0 then (0 : Int32) else 1)), .unset] [(.int (1 : Int32))])) _
        refine XS.goto X3.here hx rfl (pc0 := 120) (pc' := 124) rfl (hb hby at_120) (by decide) (by decide) ?_
        subst e_cov
        exact kt
      · rw [if_neg hc108_6] at e_cov
        show Steps p.tables e below (T3.setTop (mkF m 108 #[.val (.long q0), .second, .val (.long q1), .second, .val (.int p2), .val (.long n), .second, .val (.long q0), .second, .val (.long got), .second, .val (.long (q0 + n)), .second, .val (.long ex), .second, .val (.int (if got = ex then (1 : Int32) else 0)), .val (.int (if got < q0 then (0 : Int32) else 1)), .unset] [(.int (lcmpW q0 (0 : Int64)))])) _
        refine XS.ifNo X3.here hx rfl (hb hby at_108) rfl ((if0 _ _).trans (flt (mt (lw_lt _ _).mp hc108_6)).1) ?_
        show Steps p.tables e below (T3.setTop (mkF m 111 #[.val (.long q0), .second, .val (.long q1), .second, .val (.int p2), .val (.long n), .second, .val (.long q0), .second, .val (.long got), .second, .val (.long (q0 + n)), .second, .val (.long ex), .second, .val (.int (if got = ex then (1 : Int32) else 0)), .val (.int (if got < q0 then (0 : Int32) else 1)), .unset] [])) _
        refine XS.lload X3.here hx rfl (hb hby at_111) rfl ?_
        show Steps p.tables e below (T3.setTop (mkF m 113 #[.val (.long q0), .second, .val (.long q1), .second, .val (.int p2), .val (.long n), .second, .val (.long q0), .second, .val (.long got), .second, .val (.long (q0 + n)), .second, .val (.long ex), .second, .val (.int (if got = ex then (1 : Int32) else 0)), .val (.int (if got < q0 then (0 : Int32) else 1)), .unset] [(.long got)])) _
        refine XS.lload X3.here hx rfl (hb hby at_113) rfl ?_
        show Steps p.tables e below (T3.setTop (mkF m 115 #[.val (.long q0), .second, .val (.long q1), .second, .val (.int p2), .val (.long n), .second, .val (.long q0), .second, .val (.long got), .second, .val (.long (q0 + n)), .second, .val (.long ex), .second, .val (.int (if got = ex then (1 : Int32) else 0)), .val (.int (if got < q0 then (0 : Int32) else 1)), .unset] [(.long n), (.long got)])) _
        refine XS.lcmp X3.here hx rfl (hb hby at_115) rfl ?_
        show Steps p.tables e below (T3.setTop (mkF m 116 #[.val (.long q0), .second, .val (.long q1), .second, .val (.int p2), .val (.long n), .second, .val (.long q0), .second, .val (.long got), .second, .val (.long (q0 + n)), .second, .val (.long ex), .second, .val (.int (if got = ex then (1 : Int32) else 0)), .val (.int (if got < q0 then (0 : Int32) else 1)), .unset] [(.int (lcmpW got n))])) _
        refine own_diaT X3.here hx rfl (pc0 := 116) rfl (hb hby at_116) (hb hby at_119) (hb hby at_120) (hb hby at_123) rfl (fun hq => ((if0 _ _).trans (tlt ((lw_lt _ _).mpr hq)).1)) (fun hq => ((if0 _ _).trans (flt (mt (lw_lt _ _).mp hq)).1)) ?_
        subst e_cov
        exact kt
    have hc128_8 : got = ex := e_got.trans ((own_ee hn).trans e_ex.symm)
    have hc133_9 : ¬ (got < q0) := by rw [e_got]; exact own_e3 hn
    have hc138_10 : ¬ (cov = (0 : Int32)) := by rw [e_cov]; exact own_cv hn e_got
    obtain ⟨fs, hr, hrun, hended, hW, hsame⟩ := X3.leave (v := some (.int (1 : Int32))) (fun h => by rw [Bd.returns] at h; cases h)
    refine ⟨_, _, pre7 _ ?_, hrun, hended, _, _, rfl, ?_, ⟨_, rfl⟩, hW, hsame.mono (by decide) (by decide)⟩
    · show Steps p.tables e below (T3.setTop (mkF m 124 #[.val (.long q0), .second, .val (.long q1), .second, .val (.int p2), .val (.long n), .second, .val (.long q0), .second, .val (.long got), .second, .val (.long (q0 + n)), .second, .val (.long ex), .second, .val (.int (if got = ex then (1 : Int32) else 0)), .val (.int (if got < q0 then (0 : Int32) else 1)), .unset] [(.int cov)])) _
      refine XS.istore X3.here hx rfl (hb hby at_124) rfl (l' := #[.val (.long q0), .second, .val (.long q1), .second, .val (.int p2), .val (.long n), .second, .val (.long q0), .second, .val (.long got), .second, .val (.long (q0 + n)), .second, .val (.long ex), .second, .val (.int (if got = ex then (1 : Int32) else 0)), .val (.int (if got < q0 then (0 : Int32) else 1)), .val (.int cov)]) rfl ?_
      show Steps p.tables e below (T3.setTop (mkF m 126 #[.val (.long q0), .second, .val (.long q1), .second, .val (.int p2), .val (.long n), .second, .val (.long q0), .second, .val (.long got), .second, .val (.long (q0 + n)), .second, .val (.long ex), .second, .val (.int (if got = ex then (1 : Int32) else 0)), .val (.int (if got < q0 then (0 : Int32) else 1)), .val (.int cov)] [])) _
      refine XS.iload X3.here hx rfl (hb hby at_126) rfl ?_
      show Steps p.tables e below (T3.setTop (mkF m 128 #[.val (.long q0), .second, .val (.long q1), .second, .val (.int p2), .val (.long n), .second, .val (.long q0), .second, .val (.long got), .second, .val (.long (q0 + n)), .second, .val (.long ex), .second, .val (.int (if got = ex then (1 : Int32) else 0)), .val (.int (if got < q0 then (0 : Int32) else 1)), .val (.int cov)] [(.int (if got = ex then (1 : Int32) else 0))])) _
      refine XS.ifNo X3.here hx rfl (hb hby at_128) rfl ((if0 _ _).trans (feq (own_b10n hc128_8)).1) ?_
      show Steps p.tables e below (T3.setTop (mkF m 131 #[.val (.long q0), .second, .val (.long q1), .second, .val (.int p2), .val (.long n), .second, .val (.long q0), .second, .val (.long got), .second, .val (.long (q0 + n)), .second, .val (.long ex), .second, .val (.int (if got = ex then (1 : Int32) else 0)), .val (.int (if got < q0 then (0 : Int32) else 1)), .val (.int cov)] [])) _
      refine XS.iload X3.here hx rfl (hb hby at_131) rfl ?_
      show Steps p.tables e below (T3.setTop (mkF m 133 #[.val (.long q0), .second, .val (.long q1), .second, .val (.int p2), .val (.long n), .second, .val (.long q0), .second, .val (.long got), .second, .val (.long (q0 + n)), .second, .val (.long ex), .second, .val (.int (if got = ex then (1 : Int32) else 0)), .val (.int (if got < q0 then (0 : Int32) else 1)), .val (.int cov)] [(.int (if got < q0 then (0 : Int32) else 1))])) _
      refine XS.ifNo X3.here hx rfl (hb hby at_133) rfl ((if0 _ _).trans (feq (own_b01n hc133_9)).1) ?_
      show Steps p.tables e below (T3.setTop (mkF m 136 #[.val (.long q0), .second, .val (.long q1), .second, .val (.int p2), .val (.long n), .second, .val (.long q0), .second, .val (.long got), .second, .val (.long (q0 + n)), .second, .val (.long ex), .second, .val (.int (if got = ex then (1 : Int32) else 0)), .val (.int (if got < q0 then (0 : Int32) else 1)), .val (.int cov)] [])) _
      refine XS.iload X3.here hx rfl (hb hby at_136) rfl ?_
      show Steps p.tables e below (T3.setTop (mkF m 138 #[.val (.long q0), .second, .val (.long q1), .second, .val (.int p2), .val (.long n), .second, .val (.long q0), .second, .val (.long got), .second, .val (.long (q0 + n)), .second, .val (.long ex), .second, .val (.int (if got = ex then (1 : Int32) else 0)), .val (.int (if got < q0 then (0 : Int32) else 1)), .val (.int cov)] [(.int cov)])) _
      refine XS.ifNo X3.here hx rfl (hb hby at_138) rfl ((if0 _ _).trans (feq hc138_10).1) ?_
      show Steps p.tables e below (T3.setTop (mkF m 141 #[.val (.long q0), .second, .val (.long q1), .second, .val (.int p2), .val (.long n), .second, .val (.long q0), .second, .val (.long got), .second, .val (.long (q0 + n)), .second, .val (.long ex), .second, .val (.int (if got = ex then (1 : Int32) else 0)), .val (.int (if got < q0 then (0 : Int32) else 1)), .val (.int cov)] [])) _
      refine XS.iconst X3.here hx rfl (hb hby at_141) ?_
      show Steps p.tables e below (T3.setTop (mkF m 142 #[.val (.long q0), .second, .val (.long q1), .second, .val (.int p2), .val (.long n), .second, .val (.long q0), .second, .val (.long got), .second, .val (.long (q0 + n)), .second, .val (.long ex), .second, .val (.int (if got = ex then (1 : Int32) else 0)), .val (.int (if got < q0 then (0 : Int32) else 1)), .val (.int cov)] [(.int (1 : Int32))])) _
      refine XS.goto X3.here hx rfl (pc0 := 142) (pc' := 146) rfl (hb hby at_142) (by decide) (by decide) ?_
      show Steps p.tables e below (T3.setTop (mkF m 146 #[.val (.long q0), .second, .val (.long q1), .second, .val (.int p2), .val (.long n), .second, .val (.long q0), .second, .val (.long got), .second, .val (.long (q0 + n)), .second, .val (.long ex), .second, .val (.int (if got = ex then (1 : Int32) else 0)), .val (.int (if got < q0 then (0 : Int32) else 1)), .val (.int cov)] [(.int (1 : Int32))])) _
      exact retN X3 hx (t := .boolean) Bd.returns (by simp) (hb hby at_146) hr
    · show Q0 Z q0 q1 p2 h0 n0 _ T3.heap _
      exact ⟨rfl, N3⟩
  · skip
    obtain ⟨mi, e_mi⟩ : ∃ z : Int64, z = (((9223372036854775807 : Int64) - n) + (((p2 >>> ((2 : Int32) &&& 31)) - ((p2 >>> ((2 : Int32) &&& 31)) / (3 : Int32)) * (3 : Int32)).toInt64)) := ⟨_, rfl⟩
    -- pc 44: Micros.cappedSum by rm1
    obtain ⟨_, _, ⟨T11, L11, k11, n11⟩, -, X11, ⟨Lc11, hQ11, l11, y11, z11'⟩, st11⟩ := Jvm.LawKit.callS X0 hx (y := (⟨"com/example/taut_limiter/tautlimiter/Micros", "cappedSum", "(JJ)J"⟩ : MethodName)) hown (mvT hZ (hw _ (List.mem_of_getElem? (i := 1) rfl))) (mvT hZ (hw _ (List.mem_of_getElem? (i := 2) rfl))) (mvT hZ (hw _ (List.mem_of_getElem? (i := 3) rfl))) (mvT hZ (hw _ (List.mem_of_getElem? (i := 4) rfl))) (by decide) (backOf (W := 0) (rm1 l Z a0 hw [] mi n h0 n0 Z0 ) hZ (hw _ (List.mem_of_getElem? (i := 4) rfl)) (hw _ (List.mem_of_getElem? (i := 3) rfl)) (by decide) (by decide)) (g := (mkF m 44 #[.val (.long q0), .second, .val (.long q1), .second, .val (.int p2), .val (.long n), .second, .val (.long mi), .second, .val (.long (((p2 >>> ((2 : Int32) &&& 31)) - ((p2 >>> ((2 : Int32) &&& 31)) / (3 : Int32)) * (3 : Int32)).toInt64)), .second, .unset, .unset, .unset, .unset, .unset, .unset, .unset] [(.long n), (.long mi)])) rfl (by rw [hml]; rfl) (argsL := [(.long mi), (.long n)]) (rest := []) (lenOf pd_0 rfl) rfl (by show 2 * 0 + _ ≤ _; exact Nat.le_of_eq rfl) (hb hby at_44) (fun _ _ => ⟨rfl, e0, (by decide : 0 + 0 ≤ _), (by decide : 0 + 0 ≤ _)⟩)
    dsimp only [Pt.U, Pt.locs, Pt.cells, Pt.slots] at X11 l11 y11 z11' st11 hQ11
    subst l11 y11 z11'
    obtain ⟨rfl, N11q, K11⟩ := hQ11
    have N11 := Fr.app N0 N11q
    have J11 : Keep h0 T11.heap [] := (Keep.refl h0 []).trans K11 all0
    obtain ⟨got, e_got⟩ : ∃ z : Int64, z = (if ((9223372036854775807 : Int64) - n) < mi then (9223372036854775807 : Int64) else (mi + n)) := ⟨_, rfl⟩
    obtain ⟨ex, e_ex⟩ : ∃ z : Int64, z = (if (mi + n) < mi then (9223372036854775807 : Int64) else (mi + n)) := ⟨_, rfl⟩
    have pre13 : ∀ t, Steps p.tables e below (T11.setTop (mkF m 72 #[.val (.long q0), .second, .val (.long q1), .second, .val (.int p2), .val (.long n), .second, .val (.long mi), .second, .val (.long got), .second, .val (.long (mi + n)), .second, .unset, .unset, .unset, .unset, .unset] [(.long ex)])) t → Steps p.tables e below (s₁.setTop (entryFrame m #[(.long q0), (.long q1), (.int p2)] maxLocals)) t := by
      intro t kt
      refine pre1 _ ?_
      show Steps p.tables e below (s₁.setTop (mkF m 11 #[.val (.long q0), .second, .val (.long q1), .second, .val (.int p2), .val (.long n), .second, .unset, .unset, .unset, .unset, .unset, .unset, .unset, .unset, .unset, .unset, .unset] [(.int (p2 &&& (3 : Int32)))])) _
      refine XS.ifYes X0.here hx rfl (pc0 := 11) (pc' := 20) rfl (hb hby at_11) rfl ((if0 _ _).trans (feq hc11_2).2) (by decide) (by decide) ?_
      show Steps p.tables e below (s₁.setTop (mkF m 20 #[.val (.long q0), .second, .val (.long q1), .second, .val (.int p2), .val (.long n), .second, .unset, .unset, .unset, .unset, .unset, .unset, .unset, .unset, .unset, .unset, .unset] [])) _
      refine XS.iload X0.here hx rfl (hb hby at_20) rfl ?_
      show Steps p.tables e below (s₁.setTop (mkF m 22 #[.val (.long q0), .second, .val (.long q1), .second, .val (.int p2), .val (.long n), .second, .unset, .unset, .unset, .unset, .unset, .unset, .unset, .unset, .unset, .unset, .unset] [(.int p2)])) _
      refine XS.iconst X0.here hx rfl (hb hby at_22) ?_
      show Steps p.tables e below (s₁.setTop (mkF m 23 #[.val (.long q0), .second, .val (.long q1), .second, .val (.int p2), .val (.long n), .second, .unset, .unset, .unset, .unset, .unset, .unset, .unset, .unset, .unset, .unset, .unset] [(.int (2 : Int32)), (.int p2)])) _
      refine XS.ishr X0.here hx rfl (hb hby at_23) rfl ?_
      show Steps p.tables e below (s₁.setTop (mkF m 24 #[.val (.long q0), .second, .val (.long q1), .second, .val (.int p2), .val (.long n), .second, .unset, .unset, .unset, .unset, .unset, .unset, .unset, .unset, .unset, .unset, .unset] [(.int (p2 >>> ((2 : Int32) &&& 31)))])) _
      refine XS.iconst X0.here hx rfl (hb hby at_24) ?_
      show Steps p.tables e below (s₁.setTop (mkF m 25 #[.val (.long q0), .second, .val (.long q1), .second, .val (.int p2), .val (.long n), .second, .unset, .unset, .unset, .unset, .unset, .unset, .unset, .unset, .unset, .unset, .unset] [(.int (3 : Int32)), (.int (p2 >>> ((2 : Int32) &&& 31)))])) _
      refine XS.irem X0.here hx rfl (hb hby at_25) rfl (by decide) ?_
      show Steps p.tables e below (s₁.setTop (mkF m 26 #[.val (.long q0), .second, .val (.long q1), .second, .val (.int p2), .val (.long n), .second, .unset, .unset, .unset, .unset, .unset, .unset, .unset, .unset, .unset, .unset, .unset] [(.int ((p2 >>> ((2 : Int32) &&& 31)) - ((p2 >>> ((2 : Int32) &&& 31)) / (3 : Int32)) * (3 : Int32)))])) _
      refine XS.i2l X0.here hx rfl (hb hby at_26) rfl ?_
      show Steps p.tables e below (s₁.setTop (mkF m 27 #[.val (.long q0), .second, .val (.long q1), .second, .val (.int p2), .val (.long n), .second, .unset, .unset, .unset, .unset, .unset, .unset, .unset, .unset, .unset, .unset, .unset] [(.long (((p2 >>> ((2 : Int32) &&& 31)) - ((p2 >>> ((2 : Int32) &&& 31)) / (3 : Int32)) * (3 : Int32)).toInt64))])) _
      refine XS.lstore X0.here hx rfl (hb hby at_27) rfl (l' := #[.val (.long q0), .second, .val (.long q1), .second, .val (.int p2), .val (.long n), .second, .unset, .unset, .val (.long (((p2 >>> ((2 : Int32) &&& 31)) - ((p2 >>> ((2 : Int32) &&& 31)) / (3 : Int32)) * (3 : Int32)).toInt64)), .second, .unset, .unset, .unset, .unset, .unset, .unset, .unset]) rfl ?_
      show Steps p.tables e below (s₁.setTop (mkF m 29 #[.val (.long q0), .second, .val (.long q1), .second, .val (.int p2), .val (.long n), .second, .unset, .unset, .val (.long (((p2 >>> ((2 : Int32) &&& 31)) - ((p2 >>> ((2 : Int32) &&& 31)) / (3 : Int32)) * (3 : Int32)).toInt64)), .second, .unset, .unset, .unset, .unset, .unset, .unset, .unset] [])) _
      refine X0.ldc2Long hx hown (mvT hZ (hw _ (List.mem_of_getElem? (i := 0) rfl))) (g := (mkF m 29 #[.val (.long q0), .second, .val (.long q1), .second, .val (.int p2), .val (.long n), .second, .unset, .unset, .val (.long (((p2 >>> ((2 : Int32) &&& 31)) - ((p2 >>> ((2 : Int32) &&& 31)) / (3 : Int32)) * (3 : Int32)).toInt64)), .second, .unset, .unset, .unset, .unset, .unset, .unset, .unset] [])) rfl (hb hby at_29) _ ?_
      show Steps p.tables e below (s₁.setTop (mkF m 32 #[.val (.long q0), .second, .val (.long q1), .second, .val (.int p2), .val (.long n), .second, .unset, .unset, .val (.long (((p2 >>> ((2 : Int32) &&& 31)) - ((p2 >>> ((2 : Int32) &&& 31)) / (3 : Int32)) * (3 : Int32)).toInt64)), .second, .unset, .unset, .unset, .unset, .unset, .unset, .unset] [(.long (9223372036854775807 : Int64))])) _
      refine XS.lload X0.here hx rfl (hb hby at_32) rfl ?_
      show Steps p.tables e below (s₁.setTop (mkF m 34 #[.val (.long q0), .second, .val (.long q1), .second, .val (.int p2), .val (.long n), .second, .unset, .unset, .val (.long (((p2 >>> ((2 : Int32) &&& 31)) - ((p2 >>> ((2 : Int32) &&& 31)) / (3 : Int32)) * (3 : Int32)).toInt64)), .second, .unset, .unset, .unset, .unset, .unset, .unset, .unset] [(.long n), (.long (9223372036854775807 : Int64))])) _
      refine XS.lsub X0.here hx rfl (hb hby at_34) rfl ?_
      show Steps p.tables e below (s₁.setTop (mkF m 35 #[.val (.long q0), .second, .val (.long q1), .second, .val (.int p2), .val (.long n), .second, .unset, .unset, .val (.long (((p2 >>> ((2 : Int32) &&& 31)) - ((p2 >>> ((2 : Int32) &&& 31)) / (3 : Int32)) * (3 : Int32)).toInt64)), .second, .unset, .unset, .unset, .unset, .unset, .unset, .unset] [(.long ((9223372036854775807 : Int64) - n))])) _
      refine XS.lload X0.here hx rfl (hb hby at_35) rfl ?_
      show Steps p.tables e below (s₁.setTop (mkF m 37 #[.val (.long q0), .second, .val (.long q1), .second, .val (.int p2), .val (.long n), .second, .unset, .unset, .val (.long (((p2 >>> ((2 : Int32) &&& 31)) - ((p2 >>> ((2 : Int32) &&& 31)) / (3 : Int32)) * (3 : Int32)).toInt64)), .second, .unset, .unset, .unset, .unset, .unset, .unset, .unset] [(.long (((p2 >>> ((2 : Int32) &&& 31)) - ((p2 >>> ((2 : Int32) &&& 31)) / (3 : Int32)) * (3 : Int32)).toInt64)), (.long ((9223372036854775807 : Int64) - n))])) _
      refine XS.ladd X0.here hx rfl (hb hby at_37) rfl ?_
      show Steps p.tables e below (s₁.setTop (mkF m 38 #[.val (.long q0), .second, .val (.long q1), .second, .val (.int p2), .val (.long n), .second, .unset, .unset, .val (.long (((p2 >>> ((2 : Int32) &&& 31)) - ((p2 >>> ((2 : Int32) &&& 31)) / (3 : Int32)) * (3 : Int32)).toInt64)), .second, .unset, .unset, .unset, .unset, .unset, .unset, .unset] [(.long (((9223372036854775807 : Int64) - n) + (((p2 >>> ((2 : Int32) &&& 31)) - ((p2 >>> ((2 : Int32) &&& 31)) / (3 : Int32)) * (3 : Int32)).toInt64)))])) _
      rw [← e_mi]
      show Steps p.tables e below (s₁.setTop (mkF m 38 #[.val (.long q0), .second, .val (.long q1), .second, .val (.int p2), .val (.long n), .second, .unset, .unset, .val (.long (((p2 >>> ((2 : Int32) &&& 31)) - ((p2 >>> ((2 : Int32) &&& 31)) / (3 : Int32)) * (3 : Int32)).toInt64)), .second, .unset, .unset, .unset, .unset, .unset, .unset, .unset] [(.long mi)])) _
      refine XS.lstore X0.here hx rfl (hb hby at_38) rfl (l' := #[.val (.long q0), .second, .val (.long q1), .second, .val (.int p2), .val (.long n), .second, .val (.long mi), .second, .val (.long (((p2 >>> ((2 : Int32) &&& 31)) - ((p2 >>> ((2 : Int32) &&& 31)) / (3 : Int32)) * (3 : Int32)).toInt64)), .second, .unset, .unset, .unset, .unset, .unset, .unset, .unset]) rfl ?_
      show Steps p.tables e below (s₁.setTop (mkF m 40 #[.val (.long q0), .second, .val (.long q1), .second, .val (.int p2), .val (.long n), .second, .val (.long mi), .second, .val (.long (((p2 >>> ((2 : Int32) &&& 31)) - ((p2 >>> ((2 : Int32) &&& 31)) / (3 : Int32)) * (3 : Int32)).toInt64)), .second, .unset, .unset, .unset, .unset, .unset, .unset, .unset] [])) _
      refine XS.lload X0.here hx rfl (hb hby at_40) rfl ?_
      show Steps p.tables e below (s₁.setTop (mkF m 42 #[.val (.long q0), .second, .val (.long q1), .second, .val (.int p2), .val (.long n), .second, .val (.long mi), .second, .val (.long (((p2 >>> ((2 : Int32) &&& 31)) - ((p2 >>> ((2 : Int32) &&& 31)) / (3 : Int32)) * (3 : Int32)).toInt64)), .second, .unset, .unset, .unset, .unset, .unset, .unset, .unset] [(.long mi)])) _
      refine XS.lload X0.here hx rfl (hb hby at_42) rfl ?_
      show Steps p.tables e below (s₁.setTop (mkF m 44 #[.val (.long q0), .second, .val (.long q1), .second, .val (.int p2), .val (.long n), .second, .val (.long mi), .second, .val (.long (((p2 >>> ((2 : Int32) &&& 31)) - ((p2 >>> ((2 : Int32) &&& 31)) / (3 : Int32)) * (3 : Int32)).toInt64)), .second, .unset, .unset, .unset, .unset, .unset, .unset, .unset] [(.long n), (.long mi)])) _
      refine st11 _ ?_
      show Steps p.tables e below (T11.setTop (mkF m 47 #[.val (.long q0), .second, .val (.long q1), .second, .val (.int p2), .val (.long n), .second, .val (.long mi), .second, .val (.long (((p2 >>> ((2 : Int32) &&& 31)) - ((p2 >>> ((2 : Int32) &&& 31)) / (3 : Int32)) * (3 : Int32)).toInt64)), .second, .unset, .unset, .unset, .unset, .unset, .unset, .unset] [(.long (if ((9223372036854775807 : Int64) - n) < mi then (9223372036854775807 : Int64) else (mi + n)))])) _
      rw [← e_got]
      show Steps p.tables e below (T11.setTop (mkF m 47 #[.val (.long q0), .second, .val (.long q1), .second, .val (.int p2), .val (.long n), .second, .val (.long mi), .second, .val (.long (((p2 >>> ((2 : Int32) &&& 31)) - ((p2 >>> ((2 : Int32) &&& 31)) / (3 : Int32)) * (3 : Int32)).toInt64)), .second, .unset, .unset, .unset, .unset, .unset, .unset, .unset] [(.long got)])) _
      refine XS.lstore X11.here hx rfl (hb hby at_47) rfl (l' := #[.val (.long q0), .second, .val (.long q1), .second, .val (.int p2), .val (.long n), .second, .val (.long mi), .second, .val (.long got), .second, .unset, .unset, .unset, .unset, .unset, .unset, .unset]) rfl ?_
      show Steps p.tables e below (T11.setTop (mkF m 49 #[.val (.long q0), .second, .val (.long q1), .second, .val (.int p2), .val (.long n), .second, .val (.long mi), .second, .val (.long got), .second, .unset, .unset, .unset, .unset, .unset, .unset, .unset] [])) _
      refine XS.lload X11.here hx rfl (hb hby at_49) rfl ?_
      show Steps p.tables e below (T11.setTop (mkF m 51 #[.val (.long q0), .second, .val (.long q1), .second, .val (.int p2), .val (.long n), .second, .val (.long mi), .second, .val (.long got), .second, .unset, .unset, .unset, .unset, .unset, .unset, .unset] [(.long mi)])) _
      refine XS.lload X11.here hx rfl (hb hby at_51) rfl ?_
      show Steps p.tables e below (T11.setTop (mkF m 53 #[.val (.long q0), .second, .val (.long q1), .second, .val (.int p2), .val (.long n), .second, .val (.long mi), .second, .val (.long got), .second, .unset, .unset, .unset, .unset, .unset, .unset, .unset] [(.long n), (.long mi)])) _
      refine XS.ladd X11.here hx rfl (hb hby at_53) rfl ?_
      show Steps p.tables e below (T11.setTop (mkF m 54 #[.val (.long q0), .second, .val (.long q1), .second, .val (.int p2), .val (.long n), .second, .val (.long mi), .second, .val (.long got), .second, .unset, .unset, .unset, .unset, .unset, .unset, .unset] [(.long (mi + n))])) _
      refine XS.lstore X11.here hx rfl (hb hby at_54) rfl (l' := #[.val (.long q0), .second, .val (.long q1), .second, .val (.int p2), .val (.long n), .second, .val (.long mi), .second, .val (.long got), .second, .val (.long (mi + n)), .second, .unset, .unset, .unset, .unset, .unset]) rfl ?_
      show Steps p.tables e below (T11.setTop (mkF m 56 #[.val (.long q0), .second, .val (.long q1), .second, .val (.int p2), .val (.long n), .second, .val (.long mi), .second, .val (.long got), .second, .val (.long (mi + n)), .second, .unset, .unset, .unset, .unset, .unset] [])) _
      refine XS.lload X11.here hx rfl (hb hby at_56) rfl ?_
      show Steps p.tables e below (T11.setTop (mkF m 58 #[.val (.long q0), .second, .val (.long q1), .second, .val (.int p2), .val (.long n), .second, .val (.long mi), .second, .val (.long got), .second, .val (.long (mi + n)), .second, .unset, .unset, .unset, .unset, .unset] [(.long (mi + n))])) _
      refine XS.lload X11.here hx rfl (hb hby at_58) rfl ?_
      show Steps p.tables e below (T11.setTop (mkF m 60 #[.val (.long q0), .second, .val (.long q1), .second, .val (.int p2), .val (.long n), .second, .val (.long mi), .second, .val (.long got), .second, .val (.long (mi + n)), .second, .unset, .unset, .unset, .unset, .unset] [(.long mi), (.long (mi + n))])) _
      refine XS.lcmp X11.here hx rfl (hb hby at_60) rfl ?_
      by_cases hc61_12 : (mi + n) < mi
      · rw [if_pos hc61_12] at e_ex
        show Steps p.tables e below (T11.setTop (mkF m 61 #[.val (.long q0), .second, .val (.long q1), .second, .val (.int p2), .val (.long n), .second, .val (.long mi), .second, .val (.long got), .second, .val (.long (mi + n)), .second, .unset, .unset, .unset, .unset, .unset] [(.int (lcmpW (mi + n) mi))])) _
        refine XS.ifNo X11.here hx rfl (hb hby at_61) rfl ((if0 _ _).trans (tlt ((lw_lt _ _).mpr hc61_12)).2.1) ?_
        show Steps p.tables e below (T11.setTop (mkF m 64 #[.val (.long q0), .second, .val (.long q1), .second, .val (.int p2), .val (.long n), .second, .val (.long mi), .second, .val (.long got), .second, .val (.long (mi + n)), .second, .unset, .unset, .unset, .unset, .unset] [])) _
        refine X11.ldc2Long hx hown (mvT hZ (hw _ (List.mem_of_getElem? (i := 0) rfl))) (g := (mkF m 64 #[.val (.long q0), .second, .val (.long q1), .second, .val (.int p2), .val (.long n), .second, .val (.long mi), .second, .val (.long got), .second, .val (.long (mi + n)), .second, .unset, .unset, .unset, .unset, .unset] [])) rfl (hb hby at_64) _ ?_
        show Steps p.tables e below (T11.setTop (mkF m 67 #[.val (.long q0), .second, .val (.long q1), .second, .val (.int p2), .val (.long n), .second, .val (.long mi), .second, .val (.long got), .second, .val (.long (mi + n)), .second, .unset, .unset, .unset, .unset, .unset] [(.long (9223372036854775807 : Int64))])) _
        refine XS.goto X11.here hx rfl (pc0 := 67) (pc' := 72) rfl (hb hby at_67) (by decide) (by decide) ?_
        subst e_ex
        exact kt
      · rw [if_neg hc61_12] at e_ex
        show Steps p.tables e below (T11.setTop (mkF m 61 #[.val (.long q0), .second, .val (.long q1), .second, .val (.int p2), .val (.long n), .second, .val (.long mi), .second, .val (.long got), .second, .val (.long (mi + n)), .second, .unset, .unset, .unset, .unset, .unset] [(.int (lcmpW (mi + n) mi))])) _
        refine XS.ifYes X11.here hx rfl (pc0 := 61) (pc' := 70) rfl (hb hby at_61) rfl ((if0 _ _).trans (flt (mt (lw_lt _ _).mp hc61_12)).2.1) (by decide) (by decide) ?_
        show Steps p.tables e below (T11.setTop (mkF m 70 #[.val (.long q0), .second, .val (.long q1), .second, .val (.int p2), .val (.long n), .second, .val (.long mi), .second, .val (.long got), .second, .val (.long (mi + n)), .second, .unset, .unset, .unset, .unset, .unset] [])) _
        refine XS.lload X11.here hx rfl (hb hby at_70) rfl ?_
        subst e_ex
        exact kt
    obtain ⟨cov, e_cov⟩ : ∃ z : Int32, z = (if mi < (0 : Int64) then (1 : Int32) else (if got < n then (0 : Int32) else 1)) := ⟨_, rfl⟩
    have pre15 : ∀ t, Steps p.tables e below (T11.setTop (mkF m 124 #[.val (.long q0), .second, .val (.long q1), .second, .val (.int p2), .val (.long n), .second, .val (.long mi), .second, .val (.long got), .second, .val (.long (mi + n)), .second, .val (.long ex), .second, .val (.int (if got = ex then (1 : Int32) else 0)), .val (.int (if got < mi then (0 : Int32) else 1)), .unset] [(.int cov)])) t → Steps p.tables e below (s₁.setTop (entryFrame m #[(.long q0), (.long q1), (.int p2)] maxLocals)) t := by
      intro t kt
      refine pre13 _ ?_
      show Steps p.tables e below (T11.setTop (mkF m 72 #[.val (.long q0), .second, .val (.long q1), .second, .val (.int p2), .val (.long n), .second, .val (.long mi), .second, .val (.long got), .second, .val (.long (mi + n)), .second, .unset, .unset, .unset, .unset, .unset] [(.long ex)])) _
      refine XS.lstore X11.here hx rfl (hb hby at_72) rfl (l' := #[.val (.long q0), .second, .val (.long q1), .second, .val (.int p2), .val (.long n), .second, .val (.long mi), .second, .val (.long got), .second, .val (.long (mi + n)), .second, .val (.long ex), .second, .unset, .unset, .unset]) rfl ?_
      show Steps p.tables e below (T11.setTop (mkF m 74 #[.val (.long q0), .second, .val (.long q1), .second, .val (.int p2), .val (.long n), .second, .val (.long mi), .second, .val (.long got), .second, .val (.long (mi + n)), .second, .val (.long ex), .second, .unset, .unset, .unset] [])) _
      refine XS.lload X11.here hx rfl (hb hby at_74) rfl ?_
      show Steps p.tables e below (T11.setTop (mkF m 76 #[.val (.long q0), .second, .val (.long q1), .second, .val (.int p2), .val (.long n), .second, .val (.long mi), .second, .val (.long got), .second, .val (.long (mi + n)), .second, .val (.long ex), .second, .unset, .unset, .unset] [(.long got)])) _
      refine XS.lload X11.here hx rfl (hb hby at_76) rfl ?_
      show Steps p.tables e below (T11.setTop (mkF m 78 #[.val (.long q0), .second, .val (.long q1), .second, .val (.int p2), .val (.long n), .second, .val (.long mi), .second, .val (.long got), .second, .val (.long (mi + n)), .second, .val (.long ex), .second, .unset, .unset, .unset] [(.long ex), (.long got)])) _
      refine XS.lcmp X11.here hx rfl (hb hby at_78) rfl ?_
      show Steps p.tables e below (T11.setTop (mkF m 79 #[.val (.long q0), .second, .val (.long q1), .second, .val (.int p2), .val (.long n), .second, .val (.long mi), .second, .val (.long got), .second, .val (.long (mi + n)), .second, .val (.long ex), .second, .unset, .unset, .unset] [(.int (lcmpW got ex))])) _
      refine own_diaF X11.here hx rfl (pc0 := 79) rfl (hb hby at_79) (hb hby at_82) (hb hby at_83) (hb hby at_86) rfl (fun hq => ((if0 _ _).trans (teq ((lw_eq _ _).mpr hq)).2)) (fun hq => ((if0 _ _).trans (feq (mt (lw_eq _ _).mp hq)).2)) ?_
      show Steps p.tables e below (T11.setTop (mkF m 87 #[.val (.long q0), .second, .val (.long q1), .second, .val (.int p2), .val (.long n), .second, .val (.long mi), .second, .val (.long got), .second, .val (.long (mi + n)), .second, .val (.long ex), .second, .unset, .unset, .unset] [(.int (if got = ex then (1 : Int32) else 0))])) _
      refine XS.istore X11.here hx rfl (hb hby at_87) rfl (l' := #[.val (.long q0), .second, .val (.long q1), .second, .val (.int p2), .val (.long n), .second, .val (.long mi), .second, .val (.long got), .second, .val (.long (mi + n)), .second, .val (.long ex), .second, .val (.int (if got = ex then (1 : Int32) else 0)), .unset, .unset]) rfl ?_
      show Steps p.tables e below (T11.setTop (mkF m 89 #[.val (.long q0), .second, .val (.long q1), .second, .val (.int p2), .val (.long n), .second, .val (.long mi), .second, .val (.long got), .second, .val (.long (mi + n)), .second, .val (.long ex), .second, .val (.int (if got = ex then (1 : Int32) else 0)), .unset, .unset] [])) _
      refine XS.lload X11.here hx rfl (hb hby at_89) rfl ?_
      show Steps p.tables e below (T11.setTop (mkF m 91 #[.val (.long q0), .second, .val (.long q1), .second, .val (.int p2), .val (.long n), .second, .val (.long mi), .second, .val (.long got), .second, .val (.long (mi + n)), .second, .val (.long ex), .second, .val (.int (if got = ex then (1 : Int32) else 0)), .unset, .unset] [(.long got)])) _
      refine XS.lload X11.here hx rfl (hb hby at_91) rfl ?_
      show Steps p.tables e below (T11.setTop (mkF m 93 #[.val (.long q0), .second, .val (.long q1), .second, .val (.int p2), .val (.long n), .second, .val (.long mi), .second, .val (.long got), .second, .val (.long (mi + n)), .second, .val (.long ex), .second, .val (.int (if got = ex then (1 : Int32) else 0)), .unset, .unset] [(.long mi), (.long got)])) _
      refine XS.lcmp X11.here hx rfl (hb hby at_93) rfl ?_
      show Steps p.tables e below (T11.setTop (mkF m 94 #[.val (.long q0), .second, .val (.long q1), .second, .val (.int p2), .val (.long n), .second, .val (.long mi), .second, .val (.long got), .second, .val (.long (mi + n)), .second, .val (.long ex), .second, .val (.int (if got = ex then (1 : Int32) else 0)), .unset, .unset] [(.int (lcmpW got mi))])) _
      refine own_diaT X11.here hx rfl (pc0 := 94) rfl (hb hby at_94) (hb hby at_97) (hb hby at_98) (hb hby at_101) rfl (fun hq => ((if0 _ _).trans (tlt ((lw_lt _ _).mpr hq)).1)) (fun hq => ((if0 _ _).trans (flt (mt (lw_lt _ _).mp hq)).1)) ?_
      show Steps p.tables e below (T11.setTop (mkF m 102 #[.val (.long q0), .second, .val (.long q1), .second, .val (.int p2), .val (.long n), .second, .val (.long mi), .second, .val (.long got), .second, .val (.long (mi + n)), .second, .val (.long ex), .second, .val (.int (if got = ex then (1 : Int32) else 0)), .unset, .unset] [(.int (if got < mi then (0 : Int32) else 1))])) _
      refine XS.istore X11.here hx rfl (hb hby at_102) rfl (l' := #[.val (.long q0), .second, .val (.long q1), .second, .val (.int p2), .val (.long n), .second, .val (.long mi), .second, .val (.long got), .second, .val (.long (mi + n)), .second, .val (.long ex), .second, .val (.int (if got = ex then (1 : Int32) else 0)), .val (.int (if got < mi then (0 : Int32) else 1)), .unset]) rfl ?_
      show Steps p.tables e below (T11.setTop (mkF m 104 #[.val (.long q0), .second, .val (.long q1), .second, .val (.int p2), .val (.long n), .second, .val (.long mi), .second, .val (.long got), .second, .val (.long (mi + n)), .second, .val (.long ex), .second, .val (.int (if got = ex then (1 : Int32) else 0)), .val (.int (if got < mi then (0 : Int32) else 1)), .unset] [])) _
      refine XS.lload X11.here hx rfl (hb hby at_104) rfl ?_
      show Steps p.tables e below (T11.setTop (mkF m 106 #[.val (.long q0), .second, .val (.long q1), .second, .val (.int p2), .val (.long n), .second, .val (.long mi), .second, .val (.long got), .second, .val (.long (mi + n)), .second, .val (.long ex), .second, .val (.int (if got = ex then (1 : Int32) else 0)), .val (.int (if got < mi then (0 : Int32) else 1)), .unset] [(.long mi)])) _
      refine XS.lconst X11.here hx rfl (hb hby at_106) ?_
      show Steps p.tables e below (T11.setTop (mkF m 107 #[.val (.long q0), .second, .val (.long q1), .second, .val (.int p2), .val (.long n), .second, .val (.long mi), .second, .val (.long got), .second, .val (.long (mi + n)), .second, .val (.long ex), .second, .val (.int (if got = ex then (1 : Int32) else 0)), .val (.int (if got < mi then (0 : Int32) else 1)), .unset] [(.long (0 : Int64)), (.long mi)])) _
      refine XS.lcmp X11.here hx rfl (hb hby at_107) rfl ?_
      by_cases hc108_14 : mi < (0 : Int64)
      · rw [if_pos hc108_14] at e_cov
        show Steps p.tables e below (T11.setTop (mkF m 108 #[.val (.long q0), .second, .val (.long q1), .second, .val (.int p2), .val (.long n), .second, .val (.long mi), .second, .val (.long got), .second, .val (.long (mi + n)), .second, .val (.long ex), .second, .val (.int (if got = ex then (1 : Int32) else 0)), .val (.int (if got < mi then (0 : Int32) else 1)), .unset] [(.int (lcmpW mi (0 : Int64)))])) _
        refine XS.ifYes X11.here hx rfl (pc0 := 108) (pc' := 119) rfl (hb hby at_108) rfl ((if0 _ _).trans (tlt ((lw_lt _ _).mpr hc108_14)).1) (by decide) (by decide) ?_
        show Steps p.tables e below (T11.setTop (mkF m 119 #[.val (.long q0), .second, .val (.long q1), .second, .val (.int p2), .val (.long n), .second, .val (.long mi), .second, .val (.long got), .second, .val (.long (mi + n)), .second, .val (.long ex), .second, .val (.int (if got = ex then (1 : Int32) else 0)), .val (.int (if got < mi then (0 : Int32) else 1)), .unset] [])) _
        refine XS.iconst X11.here hx rfl (hb hby at_119) ?_
        show Steps p.tables e below (T11.setTop (mkF m 120 #[.val (.long q0), .second, .val (.long q1), .second, .val (.int p2), .val (.long n), .second, .val (.long mi), .second, .val (.long got), .second, .val (.long (mi + n)), .second, .val (.long ex), .second, .val (.int (if got = ex then (1 : Int32) else 0)), .val (.int (if got < mi then (0 : Int32) else 1)), .unset] [(.int (1 : Int32))])) _
        refine XS.goto X11.here hx rfl (pc0 := 120) (pc' := 124) rfl (hb hby at_120) (by decide) (by decide) ?_
        subst e_cov
        exact kt
      · rw [if_neg hc108_14] at e_cov
        show Steps p.tables e below (T11.setTop (mkF m 108 #[.val (.long q0), .second, .val (.long q1), .second, .val (.int p2), .val (.long n), .second, .val (.long mi), .second, .val (.long got), .second, .val (.long (mi + n)), .second, .val (.long ex), .second, .val (.int (if got = ex then (1 : Int32) else 0)), .val (.int (if got < mi then (0 : Int32) else 1)), .unset] [(.int (lcmpW mi (0 : Int64)))])) _
        refine XS.ifNo X11.here hx rfl (hb hby at_108) rfl ((if0 _ _).trans (flt (mt (lw_lt _ _).mp hc108_14)).1) ?_
        show Steps p.tables e below (T11.setTop (mkF m 111 #[.val (.long q0), .second, .val (.long q1), .second, .val (.int p2), .val (.long n), .second, .val (.long mi), .second, .val (.long got), .second, .val (.long (mi + n)), .second, .val (.long ex), .second, .val (.int (if got = ex then (1 : Int32) else 0)), .val (.int (if got < mi then (0 : Int32) else 1)), .unset] [])) _
        refine XS.lload X11.here hx rfl (hb hby at_111) rfl ?_
        show Steps p.tables e below (T11.setTop (mkF m 113 #[.val (.long q0), .second, .val (.long q1), .second, .val (.int p2), .val (.long n), .second, .val (.long mi), .second, .val (.long got), .second, .val (.long (mi + n)), .second, .val (.long ex), .second, .val (.int (if got = ex then (1 : Int32) else 0)), .val (.int (if got < mi then (0 : Int32) else 1)), .unset] [(.long got)])) _
        refine XS.lload X11.here hx rfl (hb hby at_113) rfl ?_
        show Steps p.tables e below (T11.setTop (mkF m 115 #[.val (.long q0), .second, .val (.long q1), .second, .val (.int p2), .val (.long n), .second, .val (.long mi), .second, .val (.long got), .second, .val (.long (mi + n)), .second, .val (.long ex), .second, .val (.int (if got = ex then (1 : Int32) else 0)), .val (.int (if got < mi then (0 : Int32) else 1)), .unset] [(.long n), (.long got)])) _
        refine XS.lcmp X11.here hx rfl (hb hby at_115) rfl ?_
        show Steps p.tables e below (T11.setTop (mkF m 116 #[.val (.long q0), .second, .val (.long q1), .second, .val (.int p2), .val (.long n), .second, .val (.long mi), .second, .val (.long got), .second, .val (.long (mi + n)), .second, .val (.long ex), .second, .val (.int (if got = ex then (1 : Int32) else 0)), .val (.int (if got < mi then (0 : Int32) else 1)), .unset] [(.int (lcmpW got n))])) _
        refine own_diaT X11.here hx rfl (pc0 := 116) rfl (hb hby at_116) (hb hby at_119) (hb hby at_120) (hb hby at_123) rfl (fun hq => ((if0 _ _).trans (tlt ((lw_lt _ _).mpr hq)).1)) (fun hq => ((if0 _ _).trans (flt (mt (lw_lt _ _).mp hq)).1)) ?_
        subst e_cov
        exact kt
    have hc128_16 : got = ex := e_got.trans ((own_ee hn).trans e_ex.symm)
    have hc133_17 : ¬ (got < mi) := by rw [e_got]; exact own_e3 hn
    have hc138_18 : ¬ (cov = (0 : Int32)) := by rw [e_cov]; exact own_cv hn e_got
    obtain ⟨fs, hr, hrun, hended, hW, hsame⟩ := X11.leave (v := some (.int (1 : Int32))) (fun h => by rw [Bd.returns] at h; cases h)
    refine ⟨_, _, pre15 _ ?_, hrun, hended, _, _, rfl, ?_, ⟨_, rfl⟩, hW, hsame.mono (by decide) (by decide)⟩
    · show Steps p.tables e below (T11.setTop (mkF m 124 #[.val (.long q0), .second, .val (.long q1), .second, .val (.int p2), .val (.long n), .second, .val (.long mi), .second, .val (.long got), .second, .val (.long (mi + n)), .second, .val (.long ex), .second, .val (.int (if got = ex then (1 : Int32) else 0)), .val (.int (if got < mi then (0 : Int32) else 1)), .unset] [(.int cov)])) _
      refine XS.istore X11.here hx rfl (hb hby at_124) rfl (l' := #[.val (.long q0), .second, .val (.long q1), .second, .val (.int p2), .val (.long n), .second, .val (.long mi), .second, .val (.long got), .second, .val (.long (mi + n)), .second, .val (.long ex), .second, .val (.int (if got = ex then (1 : Int32) else 0)), .val (.int (if got < mi then (0 : Int32) else 1)), .val (.int cov)]) rfl ?_
      show Steps p.tables e below (T11.setTop (mkF m 126 #[.val (.long q0), .second, .val (.long q1), .second, .val (.int p2), .val (.long n), .second, .val (.long mi), .second, .val (.long got), .second, .val (.long (mi + n)), .second, .val (.long ex), .second, .val (.int (if got = ex then (1 : Int32) else 0)), .val (.int (if got < mi then (0 : Int32) else 1)), .val (.int cov)] [])) _
      refine XS.iload X11.here hx rfl (hb hby at_126) rfl ?_
      show Steps p.tables e below (T11.setTop (mkF m 128 #[.val (.long q0), .second, .val (.long q1), .second, .val (.int p2), .val (.long n), .second, .val (.long mi), .second, .val (.long got), .second, .val (.long (mi + n)), .second, .val (.long ex), .second, .val (.int (if got = ex then (1 : Int32) else 0)), .val (.int (if got < mi then (0 : Int32) else 1)), .val (.int cov)] [(.int (if got = ex then (1 : Int32) else 0))])) _
      refine XS.ifNo X11.here hx rfl (hb hby at_128) rfl ((if0 _ _).trans (feq (own_b10n hc128_16)).1) ?_
      show Steps p.tables e below (T11.setTop (mkF m 131 #[.val (.long q0), .second, .val (.long q1), .second, .val (.int p2), .val (.long n), .second, .val (.long mi), .second, .val (.long got), .second, .val (.long (mi + n)), .second, .val (.long ex), .second, .val (.int (if got = ex then (1 : Int32) else 0)), .val (.int (if got < mi then (0 : Int32) else 1)), .val (.int cov)] [])) _
      refine XS.iload X11.here hx rfl (hb hby at_131) rfl ?_
      show Steps p.tables e below (T11.setTop (mkF m 133 #[.val (.long q0), .second, .val (.long q1), .second, .val (.int p2), .val (.long n), .second, .val (.long mi), .second, .val (.long got), .second, .val (.long (mi + n)), .second, .val (.long ex), .second, .val (.int (if got = ex then (1 : Int32) else 0)), .val (.int (if got < mi then (0 : Int32) else 1)), .val (.int cov)] [(.int (if got < mi then (0 : Int32) else 1))])) _
      refine XS.ifNo X11.here hx rfl (hb hby at_133) rfl ((if0 _ _).trans (feq (own_b01n hc133_17)).1) ?_
      show Steps p.tables e below (T11.setTop (mkF m 136 #[.val (.long q0), .second, .val (.long q1), .second, .val (.int p2), .val (.long n), .second, .val (.long mi), .second, .val (.long got), .second, .val (.long (mi + n)), .second, .val (.long ex), .second, .val (.int (if got = ex then (1 : Int32) else 0)), .val (.int (if got < mi then (0 : Int32) else 1)), .val (.int cov)] [])) _
      refine XS.iload X11.here hx rfl (hb hby at_136) rfl ?_
      show Steps p.tables e below (T11.setTop (mkF m 138 #[.val (.long q0), .second, .val (.long q1), .second, .val (.int p2), .val (.long n), .second, .val (.long mi), .second, .val (.long got), .second, .val (.long (mi + n)), .second, .val (.long ex), .second, .val (.int (if got = ex then (1 : Int32) else 0)), .val (.int (if got < mi then (0 : Int32) else 1)), .val (.int cov)] [(.int cov)])) _
      refine XS.ifNo X11.here hx rfl (hb hby at_138) rfl ((if0 _ _).trans (feq hc138_18).1) ?_
      show Steps p.tables e below (T11.setTop (mkF m 141 #[.val (.long q0), .second, .val (.long q1), .second, .val (.int p2), .val (.long n), .second, .val (.long mi), .second, .val (.long got), .second, .val (.long (mi + n)), .second, .val (.long ex), .second, .val (.int (if got = ex then (1 : Int32) else 0)), .val (.int (if got < mi then (0 : Int32) else 1)), .val (.int cov)] [])) _
      refine XS.iconst X11.here hx rfl (hb hby at_141) ?_
      show Steps p.tables e below (T11.setTop (mkF m 142 #[.val (.long q0), .second, .val (.long q1), .second, .val (.int p2), .val (.long n), .second, .val (.long mi), .second, .val (.long got), .second, .val (.long (mi + n)), .second, .val (.long ex), .second, .val (.int (if got = ex then (1 : Int32) else 0)), .val (.int (if got < mi then (0 : Int32) else 1)), .val (.int cov)] [(.int (1 : Int32))])) _
      refine XS.goto X11.here hx rfl (pc0 := 142) (pc' := 146) rfl (hb hby at_142) (by decide) (by decide) ?_
      show Steps p.tables e below (T11.setTop (mkF m 146 #[.val (.long q0), .second, .val (.long q1), .second, .val (.int p2), .val (.long n), .second, .val (.long mi), .second, .val (.long got), .second, .val (.long (mi + n)), .second, .val (.long ex), .second, .val (.int (if got = ex then (1 : Int32) else 0)), .val (.int (if got < mi then (0 : Int32) else 1)), .val (.int cov)] [(.int (1 : Int32))])) _
      exact retN X11 hx (t := .boolean) Bd.returns (by simp) (hb hby at_146) hr
    · show Q0 Z q0 q1 p2 h0 n0 _ T11.heap _
      exact ⟨rfl, N11⟩
set_option maxRecDepth 65536 in
set_option maxHeartbeats 40000000 in
theorem comes_1 {Post : Tables → Env → Array Value → State → Outcome → State → Prop} (hpost : ∀ tb e args s v u, (limb_1_1.after args s (.returned v) u = true ∧ limb_1_2.after args s (.returned v) u = true ∧ True) → FrameEnd s (.returned v) u (Jvm.fieldLocs frame_1_writes args s ++ Jvm.arrayLocs frame_1_arrays args s ++ Jvm.staticLocs frame_1_statics s) 0 0 → Post tb e args s (.returned v) u) :
    ArmFor flags0 classFile x code maxLocals ret World_1 tables_1 room_1 Calls_1 rest_1 Pre_1 Post := by
  intro l hfl _ _ p e ha hc hk s m args below hf hA hF happ hP
  obtain ⟨hcalls, hrest, hpre⟩ := hP
  obtain ⟨-, -, -, hnamed, -, -, -, hat⟩ := (Spec.applies_iff hf).mp happ
  obtain ⟨hg, hn⟩ := and_e (Cond.before_iff.mp (show (Jvm.Cond.and given_1 narrow_1).before args s = true from hpre))
  obtain ⟨g1, g2⟩ := and_e hg
  obtain ⟨g3, g4⟩ := and_e g2
  obtain ⟨g5, g6⟩ := and_e g4
  obtain ⟨w0, w1, w2, rfl⟩ : ∃ w0 w1 w2 : Value, args = #[w0, w1, w2] := by
    have hs : args.size = 3 := by simpa [Cond.value, given_1] using g1
    obtain ⟨L⟩ := args
    match L, hs with
    | [w0, w1, w2], _ => exact ⟨w0, w1, w2, rfl⟩
  have hw := fun d (hd : d ∈ tables_1) => atoms_spec (ws := Jvm.Cond.code x code maxLocals ret :: tables_1) hat d (List.mem_cons_of_mem _ hd)
  have hfit : Fit s := fun {y c} hc i hi => by
    obtain ⟨ha, rfl⟩ := Array.getElem?_eq_some_iff.mp hc
    have q := List.all_eq_true.mp ((Array.all_eq_true_iff_forall_mem.mp hF) _ (Array.getElem_mem ha)) i (List.mem_range.mpr hi)
    simpa [Array.getElem?_eq_getElem hi] using q
  obtain ⟨i0, ei0⟩ := isL_v g3
  obtain rfl : w0 = (.long i0) := Option.some.inj ei0
  obtain ⟨i1, ei1⟩ := isL_v g5
  obtain rfl : w1 = (.long i1) := Option.some.inj ei1
  obtain ⟨i2, ei2⟩ := is_v g6
  obtain rfl : w2 = (.int i2) := Option.some.inj ei2
  obtain ⟨n, o, h1, h2, h3, _, L, rfl, ⟨rfl, N⟩, hq⟩ := rm0 l s _ hw tables_1 i0 i1 i2 s.heap s.heap.size (Nat.le_refl _) p e ha hc hk s m _ below hf ((Spec.applies_iff_loose hf).mp happ).1 ⟨rfl, State.Warmed39.refl s, rfl⟩ trivial
  refine ⟨n, _, h1, h2, h3, hpost _ _ _ _ _ _ ⟨Cond.after_iff.mpr rfl, Cond.after_iff.mpr (eq_i res_at (Term.int_eval (1)) rfl), trivial⟩ ⟨hq.1, hq.2.1, (hq.2.2.sift fun y hy => Or.inr (N y hy)).mono (by decide) (by decide)⟩⟩
theorem main_1_1 : Claimed_1_1 := comes_1 fun _ _ _ _ _ _ h hF => ⟨h.1, hF⟩
theorem main_1_2 : Claimed_1_2 := comes_1 fun _ _ _ _ _ _ h hF => ⟨h.2.1, hF⟩
end Jvm.Pilot.@@N@@
namespace Jvm.Pilot.@@N@@
open Jvm Jvm.ClassFile Sem Op Lib Jvm.Free Jvm.Stand Jvm.Pilot.@@N@@.Jvm.D
/-! MADE BY PROGRAM (witnessworld.py) out of the Statement's table words and the real class files: 9 classes; the members and pool entries that the words name. The judged class is class 1, her method 1. -/
namespace start1
open Jvm.ClassFile
def u (s : String) : CpInfo := .utf8 (stringToUtf16 s)
/-- a pool by its gaps: so many unusable entries, then the entry; so many at the end -/
def gap : Nat → List CpInfo → List CpInfo
  | 0, r => r
  | n + 1, r => .unusable :: gap n r
def poolList (es : List (Nat × CpInfo)) (last : Nat) : List CpInfo := es.foldr (fun e r => gap e.1 (e.2 :: r)) (gap last [])
def pool (es : List (Nat × CpInfo)) (last : Nat) : Array CpInfo := ⟨poolList es last⟩
def fileOf (pool : Array CpInfo) (this : Nat) (attrs : Array Attribute := #[]) (ms : Array MethodInfo := #[]) (fl : Nat := 33) (sup : Nat := 0) (ifs : Array Nat := #[]) (fds : Array FieldInfo := #[]) : ClassFile where
  minorVersion := 0
  majorVersion := 65
  constantPool := pool
  accessFlags := fl
  thisClass := this
  superClass := sup
  interfaces := ifs
  fields := fds
  methods := ms
  attributes := attrs
def plain (name : String) (sup : Option ClassId) : Class where
  name := name
  kind := .ordinary
  loader := none
  accessFlags := 33
  super := sup
  interfaces := #[]
  cf := none
  fields := #[]
  methods := #[]
  instanceTypes := #[]
  staticTypes := #[]
  resolved := #[]
  callSites := []
  init := .initialized
  statics := none
  mirror := none

def pool0 : Array CpInfo := pool [(5, u "<init>"), (0, u "()V"), (1, .class_ 10), (1, u "java/lang/Object")] 113

def k0m0 : Method := { name := "<init>", desc := "()V", sig := { parameters := [], returnType := none }, accessFlags := 1, code := none }
/-- java/lang/Object -/
def k0 : Class := { plain "java/lang/Object" none with
  accessFlags := 33
  interfaces := #[]
  cf := some (fileOf pool0 8 #[] #[{ accessFlags := 1, nameIndex := 5, descriptorIndex := 6, attributes := #[] }] 33 0 #[] #[])
  fields := #[]
  methods := #[k0m0]
  instanceTypes := #[]
  staticTypes := #[]
  resolved := Array.replicate 124 none
  statics := none }

def pool1 : Array CpInfo := pool [(2, .class_ 4), (1, u "java/lang/Object"), (0, u "<init>"), (0, u "()V"), (2, .long 9223372036854775807), (1, .methodref 12 13), (0, .class_ 14), (0, .nameAndType 15 16), (0, u "com/example/taut_limiter/tautlimiter/Micros"), (0, u "cappedSum"), (0, u "(JJ)J"), (0, .class_ 18), (0, u "com/example/taut_limiter/tautlimiter/MicrosCappedSumPinLaw"), (2, u "law"), (0, u "(JJI)Z")] 3

def k1m0 : Method := { name := "<init>", desc := "()V", sig := { parameters := [], returnType := none }, accessFlags := 2, code := none }
def k1c1 : Code := { maxStack := 4, maxLocals := 18, code := code, exceptionTable := #[], attributes := #[] }
def k1m1 : Method := { name := "law", desc := "(JJI)Z", sig := { parameters := [.long, .long, .int], returnType := some .boolean }, accessFlags := 9, code := some k1c1 }
/-- com/example/taut_limiter/tautlimiter/MicrosCappedSumPinLaw -/
def k1 : Class := { plain "com/example/taut_limiter/tautlimiter/MicrosCappedSumPinLaw" (some 0) with
  accessFlags := 49
  interfaces := #[]
  cf := some (fileOf pool1 17 #[] #[{ accessFlags := 2, nameIndex := 5, descriptorIndex := 6, attributes := #[] }, { accessFlags := 9, nameIndex := 21, descriptorIndex := 22, attributes := #[] }] 49 2 #[] #[])
  fields := #[]
  methods := #[k1m0, k1m1]
  instanceTypes := #[]
  staticTypes := #[]
  resolved := Array.replicate 26 none
  statics := none }

def pool2 : Array CpInfo := pool [(2, .class_ 4), (1, u "java/lang/Object"), (0, u "<init>"), (0, u "()V"), (6, .class_ 14), (0, u "com/example/taut_limiter/tautlimiter/Micros"), (26, u "(JJ)J"), (49, .long 9223372036854775807), (4, u "PER_SECOND"), (0, u "J"), (1, u "NANOS_PER_MICRO"), (0, u "I"), (11, u "cappedSum")] 23

def k2m0 : Method := { name := "<init>", desc := "()V", sig := { parameters := [], returnType := none }, accessFlags := 2, code := none }
def k2c1 : Code := { maxStack := 6, maxLocals := 4, code := prog_11_method_8_code, exceptionTable := #[], attributes := #[] }
def k2m1 : Method := { name := "cappedSum", desc := "(JJ)J", sig := { parameters := [.long, .long], returnType := some .long }, accessFlags := 8, code := some k2c1 }
/-- com/example/taut_limiter/tautlimiter/Micros -/
def k2 : Class := { plain "com/example/taut_limiter/tautlimiter/Micros" (some 0) with
  accessFlags := 32
  interfaces := #[]
  cf := some (fileOf pool2 13 #[] #[{ accessFlags := 2, nameIndex := 5, descriptorIndex := 6, attributes := #[] }, { accessFlags := 8, nameIndex := 112, descriptorIndex := 41, attributes := #[] }] 32 2 #[] #[{ accessFlags := 26, nameIndex := 96, descriptorIndex := 97, attributes := #[] }, { accessFlags := 26, nameIndex := 99, descriptorIndex := 100, attributes := #[] }])
  fields := #[{ name := "PER_SECOND", type := .long, accessFlags := 26, slot := 0, constantValue := 0 }, { name := "NANOS_PER_MICRO", type := .int, accessFlags := 26, slot := 1, constantValue := 0 }]
  methods := #[k2m0, k2m1]
  instanceTypes := #[]
  staticTypes := #[.long, .int]
  resolved := Array.replicate 136 none
  statics := none }

def pool3 : Array CpInfo := pool [(1, u "java/lang/Cloneable"), (0, .class_ 1), (0, u "java/lang/Object"), (0, .class_ 3)] 3

/-- java/lang/Cloneable -/
def k3 : Class := { plain "java/lang/Cloneable" (some 0) with
  accessFlags := 1537
  interfaces := #[]
  cf := some (fileOf pool3 2 #[] #[] 1537 4 #[] #[])
  fields := #[]
  methods := #[]
  instanceTypes := #[]
  staticTypes := #[]
  resolved := Array.replicate 8 none
  statics := none }

def pool4 : Array CpInfo := pool [(1, u "java/io/Serializable"), (0, .class_ 1), (0, u "java/lang/Object"), (0, .class_ 3)] 3

/-- java/io/Serializable -/
def k4 : Class := { plain "java/io/Serializable" (some 0) with
  accessFlags := 1537
  interfaces := #[]
  cf := some (fileOf pool4 2 #[] #[] 1537 4 #[] #[])
  fields := #[]
  methods := #[]
  instanceTypes := #[]
  staticTypes := #[]
  resolved := Array.replicate 8 none
  statics := none }

/-- the primitive byte -/
def k5 : Class := { plain "byte" none with kind := .primitive 'B', accessFlags := 0x411 }
/-- [B -/
def k6 : Class := { plain "[B" (some 0) with kind := .array 5 .byte, interfaces := #[3, 4], accessFlags := 1041 }

/-- the primitive int -/
def k7 : Class := { plain "int" none with kind := .primitive 'I', accessFlags := 0x411 }
/-- [I -/
def k8 : Class := { plain "[I" (some 0) with kind := .array 7 .int, interfaces := #[3, 4], accessFlags := 1041 }

def heap : Heap := #[]
def classes : Array Class := #[k0, k1, k2, k3, k4, k5, k6, k7, k8]
def interned : List (Array UInt16 × Addr) := []
def slotsUsed : Nat := 0
def theMethod : MethodId := ⟨1, 1⟩
def args0 : Array Value := #[.long 5, .long 7, .int 4]
def aboutOver (below : List Frame) : State where
  vm := { classes := classes, interned := interned.toArray }
  heap := heap
  slotsUsed := slotsUsed
  threads := #[{ frames := .invoking theMethod args0 :: below }]
def below0 : List Frame := [.native { method := ⟨0, 0⟩, args := #[] }]
def about1 : State := aboutOver below0
def p0 : Program := .bare "" "" ""
def e0 : Env := launch0.env 0 0 0
theorem w_frames : about1.frames = Frame.invoking theMethod args0 :: below0 := rfl
set_option maxRecDepth 65536 in
theorem w_args : argsFit about1.vm theMethod args0 = true := by decide +kernel
set_option maxRecDepth 65536 in
theorem w_heap : heapFits about1 = true := by decide +kernel
set_option maxRecDepth 65536 in
theorem w_runnable : about1.curStatus? = some .runnable := by decide +kernel
set_option maxRecDepth 65536 in
theorem w_alone : about1.alone = true := by decide +kernel
set_option maxRecDepth 65536 in
theorem w_named : about1.methodNamed? x = some theMethod := by decide +kernel
set_option maxRecDepth 65536 in
theorem w_hears : about1.hears theMethod below0 = true := by decide +kernel
set_option maxRecDepth 65536 in
theorem w_ripe : about1.ripe theMethod args0 below0 = true := by decide +kernel
theorem w_running : about1.status = .running := rfl
set_option maxRecDepth 65536 in
theorem w_room : about1.hasRoom e0.platform room_1 = true :=
  launch0.hasRoom_least _ room_1 (by decide +kernel) (by decide +kernel) (by decide +kernel) (by decide +kernel) (by decide +kernel) (by decide +kernel)
theorem allAtoms_all (ts : List Jvm.Cond) (a : Array Jvm.Value) (st : Jvm.State) : (allAtoms ts).before a st = ts.all (fun c => c.before a st) := by
  induction ts with
  | nil => rfl
  | cons c t ih =>
    show (Jvm.Cond.and c (allAtoms t)).before a st = _
    rw [Jvm.Cond.before_and, ih, List.all_cons]
def words1 : List Jvm.Cond := Jvm.Cond.code x code maxLocals ret :: tables_1
/-- a 'code' word, met by the world's own term for the bytes: nothing is compared byte by byte -/
theorem code_word {y : MethodName} {bytes : ByteArray} {mx : Nat} {rt : Option FieldType} {a : Array Value} {s : State} {m : MethodId} {meth : Method} {c : Code} (h1 : s.methodNamed? y = some m) (h2 : s.vm.method? m = some meth) (h3 : meth.code = some c) (h4 : c.code = bytes)
    (h5 : (c.maxLocals == mx && c.exceptionTable.isEmpty && decide (c.maxStack ≤ mostOperands) && decide (meth.sig.returnType = rt) && !meth.locks && decide (parseMethodDescriptor y.desc = some meth.sig)) = true) : (Jvm.Cond.code y bytes mx rt).before a s = true := by
  simp only [Bool.and_eq_true, beq_iff_eq, Bool.not_eq_true', decide_eq_true_eq] at h5
  obtain ⟨⟨⟨⟨⟨g1, g2⟩, g3⟩, g4⟩, g5⟩, g6⟩ := h5
  simp [Cond.before, Cond.holds, Cond.value, h1, h2, h3, h4, g1, g2, g3, g4, g5, g6]
def isCode : Jvm.Cond → Bool
  | .code _ _ _ _ => true
  | _ => false
theorem all_split {L : List Jvm.Cond} {P : Jvm.Cond → Bool} (h1 : L.all (fun c => isCode c || P c) = true) (h2 : ∀ c ∈ L.filter isCode, P c = true) : L.all P = true := by
  refine List.all_eq_true.mpr fun c hc => ?_
  have h := List.all_eq_true.mp h1 c hc
  rcases Bool.eq_false_or_eq_true (isCode c) with hi | hi
  · exact h2 c (List.mem_filter.mpr ⟨hc, hi⟩)
  · simpa [hi] using h
set_option maxRecDepth 65536 in
theorem w_c0 : (Jvm.Cond.code x code maxLocals ret).before args0 about1 = true := code_word (m := ⟨1, 1⟩) (meth := k1m1) (c := k1c1) (by decide +kernel) rfl rfl rfl (by decide +kernel)
set_option maxRecDepth 65536 in
theorem w_c1 : (Jvm.Cond.code ({ cls := "com/example/taut_limiter/tautlimiter/Micros", name := "cappedSum", desc := "(JJ)J" } : Jvm.MethodName) prog_11_method_8_code (4 : Nat) (Option.some Jvm.ClassFile.FieldType.long)).before args0 about1 = true := code_word (m := ⟨2, 1⟩) (meth := k2m1) (c := k2c1) (by decide +kernel) rfl rfl rfl (by decide +kernel)
def codes1 : List Jvm.Cond := [Jvm.Cond.code x code maxLocals ret, Jvm.Cond.code ({ cls := "com/example/taut_limiter/tautlimiter/Micros", name := "cappedSum", desc := "(JJ)J" } : Jvm.MethodName) prog_11_method_8_code (4 : Nat) (Option.some Jvm.ClassFile.FieldType.long)]
set_option maxRecDepth 65536 in
theorem codes_eq : words1.filter isCode = codes1 := rfl
theorem w_codes : ∀ c ∈ words1.filter isCode, c.before args0 about1 = true := by
  rw [codes_eq]
  intro c hc
  simp only [codes1, List.mem_cons, List.not_mem_nil, or_false] at hc
  rcases hc with rfl | rfl
  · exact w_c0
  · exact w_c1
set_option maxRecDepth 65536 in
theorem w_t1 : words1.all (fun c => isCode c || c.before args0 about1) = true := by decide +kernel
theorem w_tables : (allAtoms (Jvm.Cond.code x code maxLocals ret :: tables_1)).before args0 about1 = true := by
  rw [allAtoms_all]
  show words1.all (fun c => c.before args0 about1) = true
  refine all_split ?_ w_codes
  rw [w_t1]
set_option maxRecDepth 65536 in
theorem w_case : (Jvm.Cond.and given_1 narrow_1).before args0 about1 = true := by decide +kernel
theorem w_applies : (headSpec (Jvm.Cond.code x code maxLocals ret :: tables_1) room_1).applies x e0.platform about1 = true :=
  (Spec.applies_iff w_frames).mpr ⟨w_running, w_runnable, w_alone, w_named, w_hears, w_ripe, w_room, w_tables⟩
theorem atStart : AtStart classFile x code maxLocals ret World_1 tables_1 room_1 Calls_1 rest_1 Pre_1 launch0 p0 e0 about1 theMethod args0 below0 :=
  ⟨lists_1, trivial, launch0.admits_env _ _ _, launch0.least_env, fairChoices_fair.cas, fairChoices_fair.clock, w_frames, w_args, w_heap, w_applies, trivial, trivial, w_case⟩
end start1
theorem witness_1 : WitnessClaimed_1 := ⟨start1.p0, start1.e0, start1.about1, start1.theMethod, start1.args0, start1.below0, start1.atStart⟩
end Jvm.Pilot.@@N@@
