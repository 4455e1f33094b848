import JvmDerived
import JvmDerived.Pilot.@@N@@Statement
import JvmDerived.Pilot.@@N@@Code
set_option linter.unusedVariables false
set_option linter.unusedSimpArgs false
namespace Jvm.RoadKit
open Sem ClassFile Op Lib Jvm.Stand Jvm.Free Jvm.LawKit
section New
variable {p : Program} {l : Launch} {e : Env} {R : Room} {s : State} {m : MethodId} {args : Array Value} {below : List Frame} {meth : Method} {c : Code} {T : State} {locs : List Loc} {cells slots : Nat}
theorem retI (X : Stand p l e R s m args below meth c T locs cells slots) (hx : p.tables.exec = Jvm.exec) {pc : Nat} {Ls : Array Slot} {z : Int32} {rest : List Value} (hret : meth.sig.returnType = some .int) (hd : decode c.code pc = .ok (.ireturn, 1)) {fs : List Frame}
    (hl : ∀ (f : JFrame) (acts : List Action), f.method = m → f.locked = none → f.entered = [] → (doReturn e (T.setTop f) acts (some (.int z))).1 = T.setFrames fs) : Steps p.tables e below (T.setTop (mkF m pc Ls (.int z :: rest))) (T.setFrames fs) := by
  have hm' : T.vm.method? m = some meth := X.method'
  have hn : narrow .int (.int z) = .int z := rfl
  show Steps p.tables e below (T.setTop { method := m, pc := pc, locals := Ls, stack := _ :: rest, locked := none }) _
  jvm_step X.here [X.here.top, hx, hd, hm', hret, hn]
  first | (intro acts; rw [hl _ acts rfl rfl rfl]) | rw [hl _ _ rfl rfl rfl]
  exact Steps.refl _
end New
end Jvm.RoadKit
namespace Jvm.Pilot.@@N@@
open Jvm Jvm.ClassFile Sem Op Lib Jvm.Free Jvm.Stand Jvm.LawKit Jvm.RoadKit Bundle Jvm.Pilot.@@N@@.Jvm.D
theorem own_b10n {P : Prop} [Decidable P] (h : P) : ¬ (if P then (1 : Int32) else 0) = 0 := by rw [if_pos h]; decide
theorem own_b10z {P : Prop} [Decidable P] (h : ¬ P) : (if P then (1 : Int32) else 0) = 0 := if_neg h
theorem own_b01z {P : Prop} [Decidable P] (h : P) : (if P then (0 : Int32) else 1) = 0 := if_pos h
theorem own_b01n {P : Prop} [Decidable P] (h : ¬ P) : ¬ (if P then (0 : Int32) else 1) = 0 := by rw [if_neg h]; decide
theorem own_nb10 {P : Prop} [Decidable P] : nar .boolean (if P then (1 : Int32) else 0) = (if P then (1 : Int32) else 0) := by by_cases h : P <;> simp [h, nar]
theorem own_nb01 {P : Prop} [Decidable P] : nar .boolean (if P then (0 : Int32) else 1) = (if P then (0 : Int32) else 1) := by by_cases h : P <;> simp [h, nar]
theorem own_selP {Z s : State} {a0 args : Array Value} {y : MethodName} {n : Nat} (hZ : Z.Warmed39 s.vm) (wi : (Jvm.Cond.instantiable y.cls n).before a0 Z = true) (wp : (Jvm.Cond.privateMethod y).before a0 Z = true) (wm : (Jvm.Cond.instanceMethod y).before a0 Z = true)
    (hy : y.cls ≠ "java/lang/invoke/MethodHandle" ∧ y.cls ≠ "java/lang/invoke/VarHandle") : (Jvm.Cond.selects y.cls y y).before args s = true := by
  obtain ⟨c, k, hc, hk, -, hf, -⟩ := Cond.instantiable_spec (mv hZ wi (args := args))
  have hi : k.isInterface = false := by
    cases q : k.isInterface
    · rfl
    · simp [q] at hf
  exact Jvm.Stand.selects_self_of_private hc hk hi (Cond.privateMethod_at (mvP hZ wp (args := args))) (mv hZ wm) hy
theorem own_one (i : Nat) : Int32.ofNat i + (1 : Int32) = Int32.ofNat (i + 1) := (Int32.ofNat_add i 1).symm
def own_list (g : Nat → Value) (i : Nat) : List Value := (List.range i).map g
theorem own_len (g : Nat → Value) (i : Nat) : (own_list g i).length = i := by simp [own_list]
theorem own_at (g : Nat → Value) {i j : Nat} (h : j < i) (d : Value) : (own_list g i).getD j d = g j := by simp [own_list, List.getD_eq_getElem?_getD, h]
theorem own_setl (g : Nat → Value) (i : Nat) (x : Value) : (own_list g i ++ [x]).set i (g i) = own_list g (i + 1) := by
  have h := own_len g i
  have e : (own_list g i ++ [x]).set (own_list g i).length (g i) = own_list g i ++ [g i] := by simp
  rw [h] at e
  rw [e]; simp [own_list, List.range_succ]
theorem own_il {i : Nat} (h : i < 2147483648) : (Int32.ofNat i).toInt = i := Int32.toInt_ofNat_of_lt h
theorem own_in {i : Nat} (h : i < 2147483648) : ¬ Int32.ofNat i < 0 := by
  rw [Int32.lt_iff_toInt_lt, own_il h, show (0 : Int32).toInt = 0 from rfl]; omega
theorem own_ic {i : Nat} (h : i < 2147483648) : (Int32.ofNat i).toNatClampNeg = i := by
  rw [Int32.toNatClampNeg, own_il h]; rfl
section OwnDia
variable {tb : Tables} [Ours tb] {e : Env} {below : List Frame} {T target : State} {m : MethodId} {c : Code} {g : JFrame}
/-- a boolean written out: if .. goto the 0; 1; goto behind; 0 -/
theorem own_dia (h : At T m c below) (hx : tb.exec = Jvm.exec) (hg : g.method = m) {pc0 : Nat} {P : Prop} [Decidable P] {u w : Int32} {rest : List Value} (huw : u = 0 ∧ w = 1 ∨ u = 1 ∧ w = 0)
    (hd1 : decode c.code (pc0 + 3) = .ok (.iconst 1, 1)) (hd2 : decode c.code (pc0 + 4) = .ok (.goto 4, 3)) (hd3 : decode c.code (pc0 + 7) = .ok (.iconst 0, 1))
    (s1 : ∀ t, (P ∧ u = 0 ∨ ¬ P ∧ w = 0) → Steps tb e below (T.setTop { g with pc := pc0 + 7, stack := rest }) t → Steps tb e below (T.setTop g) t)
    (s2 : ∀ t, (P ∧ u = 1 ∨ ¬ P ∧ w = 1) → Steps tb e below (T.setTop { g with pc := pc0 + 3, stack := rest }) t → Steps tb e below (T.setTop g) t)
    (hr : Steps tb e below (T.setTop { g with pc := pc0 + 8, stack := .int (if P then u else w) :: rest }) target) : Steps tb e below (T.setTop g) target := by
  have z : (if P then u else w) = 0 → (P ∧ u = 0 ∨ ¬ P ∧ w = 0) := fun q => by
    by_cases hp : P
    · rw [if_pos hp] at q; exact Or.inl ⟨hp, q⟩
    · rw [if_neg hp] at q; exact Or.inr ⟨hp, q⟩
  have o : (if P then u else w) = 1 → (P ∧ u = 1 ∨ ¬ P ∧ w = 1) := fun q => by
    by_cases hp : P
    · rw [if_pos hp] at q; exact Or.inl ⟨hp, q⟩
    · rw [if_neg hp] at q; exact Or.inr ⟨hp, q⟩
  have b : (if P then u else w) = 0 ∨ (if P then u else w) = 1 := by
    rcases huw with ⟨rfl, rfl⟩ | ⟨rfl, rfl⟩ <;> by_cases hp : P <;> simp [hp]
  rcases b with q | q
  · refine s1 _ (z q) ?_
    refine Free.XS.iconst h hx hg hd3 ?_
    rw [q] at hr
    exact hr
  · refine s2 _ (o q) ?_
    refine Free.XS.iconst h hx hg hd1 ?_
    refine Free.XS.goto h hx hg (pc0 := pc0 + 4) (pc' := pc0 + 8) rfl hd2 (by omega) (by omega) ?_
    rw [q] at hr
    exact hr
theorem own_diaT (h : At T m c below) (hx : tb.exec = Jvm.exec) (hg : g.method = m) {pc0 : Nat} (hpc : g.pc = pc0) {P : Prop} [Decidable P] {cd : ClassFile.Cond} {x : Int32} {rest : List Value}
    (hd0 : decode c.code pc0 = .ok (.ifCond cd 7, 3)) (hd1 : decode c.code (pc0 + 3) = .ok (.iconst 1, 1)) (hd2 : decode c.code (pc0 + 4) = .ok (.goto 4, 3)) (hd3 : decode c.code (pc0 + 7) = .ok (.iconst 0, 1))
    (hs : g.stack = .int x :: rest) (hy : P → ifCond.holds cd x = true) (hn : ¬ P → ifCond.holds cd x = false)
    (hr : Steps tb e below (T.setTop { g with pc := pc0 + 8, stack := .int (if P then (0 : Int32) else 1) :: rest }) target) : Steps tb e below (T.setTop g) target := by
  subst hpc
  refine own_dia h hx hg (P := P) (u := 0) (w := 1) (rest := rest) (Or.inl ⟨rfl, rfl⟩) hd1 hd2 hd3 (fun t q k => ?_) (fun t q k => ?_) hr
  · have hp : P := q.elim (·.1) fun z => absurd z.2 (by decide)
    exact Free.XS.ifYes h hx hg (pc' := g.pc + 7) rfl hd0 hs (hy hp) (by omega) (by omega) k
  · have hp : ¬ P := q.elim (fun z => absurd z.2 (by decide)) (·.1)
    exact Free.XS.ifNo h hx hg hd0 hs (hn hp) k
theorem own_diaF (h : At T m c below) (hx : tb.exec = Jvm.exec) (hg : g.method = m) {pc0 : Nat} (hpc : g.pc = pc0) {P : Prop} [Decidable P] {cd : ClassFile.Cond} {x : Int32} {rest : List Value}
    (hd0 : decode c.code pc0 = .ok (.ifCond cd 7, 3)) (hd1 : decode c.code (pc0 + 3) = .ok (.iconst 1, 1)) (hd2 : decode c.code (pc0 + 4) = .ok (.goto 4, 3)) (hd3 : decode c.code (pc0 + 7) = .ok (.iconst 0, 1))
    (hs : g.stack = .int x :: rest) (hy : P → ifCond.holds cd x = false) (hn : ¬ P → ifCond.holds cd x = true)
    (hr : Steps tb e below (T.setTop { g with pc := pc0 + 8, stack := .int (if P then (1 : Int32) else 0) :: rest }) target) : Steps tb e below (T.setTop g) target := by
  subst hpc
  refine own_dia h hx hg (P := P) (u := 1) (w := 0) (rest := rest) (Or.inr ⟨rfl, rfl⟩) hd1 hd2 hd3 (fun t q k => ?_) (fun t q k => ?_) hr
  · have hp : ¬ P := q.elim (fun z => absurd z.2 (by decide)) (·.1)
    exact Free.XS.ifYes h hx hg (pc' := g.pc + 7) rfl hd0 hs (hn hp) (by omega) (by omega) k
  · have hp : P := q.elim (·.1) fun z => absurd z.2 (by decide)
    exact Free.XS.ifNo h hx hg hd0 hs (hy hp) k
theorem own_diaT2 (h : At T m c below) (hx : tb.exec = Jvm.exec) (hg : g.method = m) {pc0 : Nat} (hpc : g.pc = pc0) {P : Prop} [Decidable P] {cd : ClassFile.Cond} {x y : Int32} {rest : List Value}
    (hd0 : decode c.code pc0 = .ok (.if_icmp cd 7, 3)) (hd1 : decode c.code (pc0 + 3) = .ok (.iconst 1, 1)) (hd2 : decode c.code (pc0 + 4) = .ok (.goto 4, 3)) (hd3 : decode c.code (pc0 + 7) = .ok (.iconst 0, 1))
    (hs : g.stack = .int y :: .int x :: rest) (hy : P → if_icmp.holds cd x y = true) (hn : ¬ P → if_icmp.holds cd x y = false)
    (hr : Steps tb e below (T.setTop { g with pc := pc0 + 8, stack := .int (if P then (0 : Int32) else 1) :: rest }) target) : Steps tb e below (T.setTop g) target := by
  subst hpc
  refine own_dia h hx hg (P := P) (u := 0) (w := 1) (rest := rest) (Or.inl ⟨rfl, rfl⟩) hd1 hd2 hd3 (fun t q k => ?_) (fun t q k => ?_) hr
  · have hp : P := q.elim (·.1) fun z => absurd z.2 (by decide)
    exact Free.XS.icmpYes h hx hg (pc' := g.pc + 7) rfl hd0 hs (hy hp) (by omega) (by omega) k
  · have hp : ¬ P := q.elim (fun z => absurd z.2 (by decide)) (·.1)
    exact Free.XS.icmpNo h hx hg hd0 hs (hn hp) k
theorem own_diaF2 (h : At T m c below) (hx : tb.exec = Jvm.exec) (hg : g.method = m) {pc0 : Nat} (hpc : g.pc = pc0) {P : Prop} [Decidable P] {cd : ClassFile.Cond} {x y : Int32} {rest : List Value}
    (hd0 : decode c.code pc0 = .ok (.if_icmp cd 7, 3)) (hd1 : decode c.code (pc0 + 3) = .ok (.iconst 1, 1)) (hd2 : decode c.code (pc0 + 4) = .ok (.goto 4, 3)) (hd3 : decode c.code (pc0 + 7) = .ok (.iconst 0, 1))
    (hs : g.stack = .int y :: .int x :: rest) (hy : P → if_icmp.holds cd x y = false) (hn : ¬ P → if_icmp.holds cd x y = true)
    (hr : Steps tb e below (T.setTop { g with pc := pc0 + 8, stack := .int (if P then (1 : Int32) else 0) :: rest }) target) : Steps tb e below (T.setTop g) target := by
  subst hpc
  refine own_dia h hx hg (P := P) (u := 1) (w := 0) (rest := rest) (Or.inr ⟨rfl, rfl⟩) hd1 hd2 hd3 (fun t q k => ?_) (fun t q k => ?_) hr
  · have hp : ¬ P := q.elim (fun z => absurd z.2 (by decide)) (·.1)
    exact Free.XS.icmpYes h hx hg (pc' := g.pc + 7) rfl hd0 hs (hn hp) (by omega) (by omega) k
  · have hp : P := q.elim (·.1) fun z => absurd z.2 (by decide)
    exact Free.XS.icmpNo h hx hg hd0 hs (hy hp) k
end OwnDia

theorem own_f1 (c : Int64) : (if (0 : Int64) < c then (1 : Int32) else 0) = (if c < (1 : Int64) then (0 : Int32) else 1) := by
  by_cases h : (0 : Int64) < c
  · rw [if_pos h, if_neg]; simp only [Int64.lt_iff_toInt_lt] at *; simp at *; omega
  · rw [if_neg h, if_pos]; simp only [Int64.lt_iff_toInt_lt] at *; simp at *; omega
theorem own_cnt (c : Int64) (hm : ¬ c = (-9223372036854775808 : Int64)) : (((if (0 : Int64) < c then (1 : Int32) else 0) + (if (0 : Int64) < (-c) then (1 : Int32) else 0)) + (if c = (0 : Int64) then (1 : Int32) else 0)) = (1 : Int32) := by
  have e1 := c_lneg c
  have e2 := rng64 c
  have e3 := rng64 (-c)
  have hz : (0 : Int64).toInt = 0 := rfl
  have hm' : c.toInt ≠ -9223372036854775808 := fun q => hm (Int64.toInt_inj.mp q)
  have h0 : c = 0 ↔ c.toInt = 0 := ⟨fun q => by rw [q]; rfl, fun q => Int64.toInt_inj.mp q⟩
  have hn : (-c).toInt = - c.toInt := by omega
  simp only [h0, Int64.lt_iff_toInt_lt, hz, hn]
  by_cases a : 0 < c.toInt
  · rw [if_pos a, if_neg (by omega), if_neg (by omega)]; rfl
  · by_cases b : c.toInt = 0
    · rw [if_neg a, if_neg (by omega), if_pos b]; rfl
    · rw [if_neg a, if_pos (by omega), if_neg b]; rfl
theorem own_up {c d : Int64} (h : ¬ d < c) (hc : (0 : Int64) < c) : (0 : Int64) < d := by
  simp only [Int64.lt_iff_toInt_lt] at *; omega
theorem d2_0 : decode jdk_30_method_1_code 0 = .ok (.aload_n 0, 1) := by decide +kernel
theorem d2_1 : decode jdk_30_method_1_code 1 = .ok (.invokespecial 1, 3) := by decide +kernel
theorem d2_4 : decode jdk_30_method_1_code 4 = .ok (.return_, 1) := by decide +kernel
theorem pn_java_lang_Record : plainName "java/lang/Record" = true := by first | (simp [plainName, overriddenIn]; done) | decide +kernel
theorem ef_2 (m : MethodId) (o0 : Addr) : entryFrame m #[(.ref o0)] 1 = mkF m 0 #[.val (.ref o0)] [] := by first | (simp [entryFrame, mkF, argsToLocals, Value.category]; done) | rfl
def Q2 (Z : State) (o0 : Addr) (h0 : Heap) (n0 : Nat) (v : Option Value) (h : Heap) (L : List Loc) : Prop := v = none ∧ Fr n0 L ∧ Keep h0 h []
set_option maxRecDepth 65536 in
set_option maxHeartbeats 40000000 in
theorem rm2 (l : Launch) (Z : State) (a0 : Array Value) (hw : ∀ d ∈ tables_1, d.before a0 Z = true) (ws : List Jvm.Cond) (o0 : Addr) (h0 : Heap) (n0 : Nat) (Z0 : n0 ≤ h0.size) :
    MetFree l (⟨"java/lang/Record", "<init>", "()V"⟩ : MethodName) (head1 (Jvm.Cond.code (⟨"java/lang/Record", "<init>", "()V"⟩ : MethodName) jdk_30_method_1_code 1 none :: ws) ({ frames := 1, cells := 0, slots := 0, locals := 12 } : Room)) (fun a U => a = #[(.ref o0)] ∧ Z.Warmed39 U.vm ∧ U.heap = h0) (fun _ _ _ _ _ => True) (fun _ U o U' => ∃ v L, o = .returned v ∧ Q2 Z o0 h0 n0 v U'.heap L ∧ FrameEnd U o U' L ({ frames := 1, cells := 0, slots := 0, locals := 12 } : Room).cells ({ frames := 1, cells := 0, slots := 0, locals := 12 } : Room).slots) := by
  refine MetFree.of_bodySF (plainFor_of_name pn_java_lang_Record) hisR ?_
  intro p e s m args below meth c s₁ Bd hml0 hP hK
  obtain ⟨rfl, hZ, hh⟩ := hP
  have hx := Bd.exec
  have hby := Bd.bytes
  have hml : c.maxLocals = 1 := hml0
  have hown : s.vm.findClass "java/lang/Record" = some m.cls := findClass_of_methodNamed Bd.named
  have hnm := (name_of_methodNamed Bd.named Bd.method).1
  have X0 : Stand p l e ({ frames := 1, cells := 0, slots := 0, locals := 12 } : Room) s m #[(.ref o0)] below meth c s₁ [] 0 0 := Stand.of_body Bd
  have e0 : s₁.heap = h0 := by rw [← hh, Bd.state]; rfl
  have N0 := Fr.nil n0
  have pre0 : ∀ t, Steps p.tables e below (s₁.setTop (mkF m 0 #[.val (.ref o0)] [])) t → Steps p.tables e below (s₁.setTop (entryFrame m #[(.ref o0)] 1)) t := fun t k => castTop (ef_2 m o0) k
  obtain ⟨T1, X1, e1, st1⟩ := initO X0 hx hZ hown (hw _ (List.mem_of_getElem? (i := 11) rfl)) (hw _ (List.mem_of_getElem? (i := 12) rfl)) (hw _ (List.mem_of_getElem? (i := 13) rfl)) e0 (g := (mkF m 1 #[.val (.ref o0)] [(.ref o0)])) rfl (by rw [hml]; rfl) rfl (hb hby d2_1) (by decide) (W := 0) (by show 2 * 0 + _ ≤ _; exact Nat.le_of_eq rfl) (by decide)
  obtain ⟨fs, hr, hrun, hended, hW, hsame⟩ := X1.leave (v := none) (fun _ => rfl)
  refine ⟨_, _, pre0 _ ?_, hrun, hended, _, _, rfl, ?_, ⟨_, rfl⟩, hW, hsame.mono (by decide) (by decide)⟩
  · show Steps p.tables e below (s₁.setTop (mkF m 0 #[.val (.ref o0)] [])) _
    refine XS.aloadN X0.here hx rfl (hb hby d2_0) rfl rfl ?_
    show Steps p.tables e below (s₁.setTop (mkF m 1 #[.val (.ref o0)] [(.ref o0)])) _
    refine st1 _ ?_
    show Steps p.tables e below (T1.setTop (mkF m 4 #[.val (.ref o0)] [])) _
    exact X1.returnOut hx Bd.returns (hb hby d2_4) hr
  · show Q2 Z o0 h0 n0 _ T1.heap _
    rw [e1]
    exact ⟨rfl, N0, (Keep.refl h0 [])⟩
theorem d1_0 : decode prog_9_method_1_code 0 = .ok (.aload_n 0, 1) := by decide +kernel
theorem d1_1 : decode prog_9_method_1_code 1 = .ok (.invokespecial 1, 3) := by decide +kernel
theorem d1_4 : decode prog_9_method_1_code 4 = .ok (.aload_n 0, 1) := by decide +kernel
theorem d1_5 : decode prog_9_method_1_code 5 = .ok (.lload_n 1, 1) := by decide +kernel
theorem d1_6 : decode prog_9_method_1_code 6 = .ok (.putfield 7, 3) := by decide +kernel
theorem d1_9 : decode prog_9_method_1_code 9 = .ok (.return_, 1) := by decide +kernel
theorem pn_com_example_scratchdraw_scratchdraw_figures_Money : plainName "com/example/scratchdraw/scratchdraw/figures/Money" = true := by first | (simp [plainName, overriddenIn]; done) | decide +kernel
theorem pd_0 : parseMethodDescriptor "()V" = some ⟨[], none⟩ := by decide +kernel
theorem ef_1 (m : MethodId) (o0 : Addr) (q1 : Int64) : entryFrame m #[(.ref o0), (.long q1)] 3 = mkF m 0 #[.val (.ref o0), .val (.long q1), .second] [] := by first | (simp [entryFrame, mkF, argsToLocals, Value.category]; done) | rfl
def Q1 (Z : State) (o0 : Addr) (q1 : Int64) (h0 : Heap) (n0 : Nat) (v : Option Value) (h : Heap) (L : List Loc) : Prop := v = none ∧ Fr n0 L ∧ Keep h0 h [o0] ∧ Fld Z h o0 "com/example/scratchdraw/scratchdraw/figures/Money" "cents" "J" (.long q1)
set_option maxRecDepth 65536 in
set_option maxHeartbeats 40000000 in
theorem rm1 (l : Launch) (Z : State) (a0 : Array Value) (hw : ∀ d ∈ tables_1, d.before a0 Z = true) (ws : List Jvm.Cond) (o0 : Addr) (q1 : Int64) (h0 : Heap) (n0 : Nat) (Z0 : n0 ≤ h0.size) (E_o0 : Exa Z h0 o0 "com/example/scratchdraw/scratchdraw/figures/Money") (F_cents_o0 : Fld Z h0 o0 "com/example/scratchdraw/scratchdraw/figures/Money" "cents" "J" (.long (0 : Int64))) (g_o0 : n0 ≤ o0) :
    MetFree l (⟨"com/example/scratchdraw/scratchdraw/figures/Money", "<init>", "(J)V"⟩ : MethodName) (head1 (Jvm.Cond.code (⟨"com/example/scratchdraw/scratchdraw/figures/Money", "<init>", "(J)V"⟩ : MethodName) prog_9_method_1_code 3 none :: ws) ({ frames := 2, cells := 0, slots := 0, locals := 24 } : Room)) (fun a U => a = #[(.ref o0), (.long q1)] ∧ Z.Warmed39 U.vm ∧ U.heap = h0) (fun _ _ _ _ _ => True) (fun _ U o U' => ∃ v L, o = .returned v ∧ Q1 Z o0 q1 h0 n0 v U'.heap L ∧ FrameEnd U o U' L ({ frames := 2, cells := 0, slots := 0, locals := 24 } : Room).cells ({ frames := 2, cells := 0, slots := 0, locals := 24 } : Room).slots) := by
  refine MetFree.of_bodySF (plainFor_of_name pn_com_example_scratchdraw_scratchdraw_figures_Money) hisR ?_
  intro p e s m args below meth c s₁ Bd hml0 hP hK
  obtain ⟨rfl, hZ, hh⟩ := hP
  have hx := Bd.exec
  have hby := Bd.bytes
  have hml : c.maxLocals = 3 := hml0
  have hown : s.vm.findClass "com/example/scratchdraw/scratchdraw/figures/Money" = some m.cls := findClass_of_methodNamed Bd.named
  have hnm := (name_of_methodNamed Bd.named Bd.method).1
  have X0 : Stand p l e ({ frames := 2, cells := 0, slots := 0, locals := 24 } : Room) s m #[(.ref o0), (.long q1)] below meth c s₁ [] 0 0 := Stand.of_body Bd
  have e0 : s₁.heap = h0 := by rw [← hh, Bd.state]; rfl
  have N0 := Fr.nil n0
  have pre0 : ∀ t, Steps p.tables e below (s₁.setTop (mkF m 0 #[.val (.ref o0), .val (.long q1), .second] [])) t → Steps p.tables e below (s₁.setTop (entryFrame m #[(.ref o0), (.long q1)] 3)) t := fun t k => castTop (ef_1 m o0 q1) k
  -- pc 1: Record.<init> by rm2
  obtain ⟨_, _, ⟨T1, L1, k1, n1⟩, -, X1, ⟨Lc1, hQ1, l1, y1, z1'⟩, st1⟩ := X0.specialBack hx (y := (⟨"java/lang/Record", "<init>", "()V"⟩ : MethodName)) rfl hown (mvT hZ (hw _ (List.mem_of_getElem? (i := 6) rfl))) (mvT hZ (hw _ (List.mem_of_getElem? (i := 7) rfl))) (mvT hZ (hw _ (List.mem_of_getElem? (i := 10) rfl))) (by decide) (backOf (W := 0) (rm2 l Z a0 hw [] o0 h0 n0 Z0 ) hZ (hw _ (List.mem_of_getElem? (i := 10) rfl)) (hw _ (List.mem_of_getElem? (i := 9) rfl)) (by decide) (by decide)) (g := (mkF m 1 #[.val (.ref o0), .val (.long q1), .second] [(.ref o0)])) rfl (by rw [hml]; rfl) (Steps.refl _) (a := o0) (argsL := []) (rest := []) (lenOf pd_0 rfl) rfl (by show 2 * 0 + _ ≤ _; exact Nat.le_of_eq rfl) (hb hby d1_1) (fun _ _ => ⟨rfl, e0, (by decide : 0 + 0 ≤ _), (by decide : 0 + 0 ≤ _)⟩)
  dsimp only [Pt.U, Pt.locs, Pt.cells, Pt.slots] at X1 l1 y1 z1' st1 hQ1
  subst l1 y1 z1'
  obtain ⟨rfl, N1q, K1⟩ := hQ1
  have N1 := Fr.app N0 N1q
  have J1 : Keep h0 T1.heap [o0] := (Keep.refl h0 [o0]).trans K1 all0
  have c2 : Fld Z T1.heap o0 "com/example/scratchdraw/scratchdraw/figures/Money" "cents" "J" (.long (0 : Int64)) := (F_cents_o0.keep K1 nin0)
  have c3 : Exa Z T1.heap o0 "com/example/scratchdraw/scratchdraw/figures/Money" := (E_o0.keep K1)
  obtain ⟨T4, h4, X4, e4, W4, st4⟩ := putF X1 hx hZ hown (host := "") (Or.inl (hw _ (List.mem_of_getElem? (i := 14) rfl))) Via.refl rfl c2 c3 (Or.inr ⟨(hw _ (List.mem_of_getElem? (i := 15) rfl)), rfl, hnm⟩) (hw _ (List.mem_of_getElem? (i := 1) rfl)) (ty := .long) (by decide) rfl rfl (g := (mkF m 6 #[.val (.ref o0), .val (.long q1), .second] [(.long q1), (.ref o0)])) rfl rfl (hb hby d1_6)
  have Fw4 : Fld Z h4 o0 "com/example/scratchdraw/scratchdraw/figures/Money" "cents" "J" (.long q1) := c2.same W4
  have J4 : Keep h0 h4 [o0] := J1.wr W4 (Or.inl (List.mem_of_getElem? (i := 0) rfl))
  have N4 := Fr.snoc X4 N1 g_o0
  obtain ⟨fs, hr, hrun, hended, hW, hsame⟩ := X4.leave (v := none) (fun _ => rfl)
  refine ⟨_, _, pre0 _ ?_, hrun, hended, _, _, rfl, ?_, ⟨_, rfl⟩, hW, hsame.mono (by decide) (by decide)⟩
  · show Steps p.tables e below (s₁.setTop (mkF m 0 #[.val (.ref o0), .val (.long q1), .second] [])) _
    refine XS.aloadN X0.here hx rfl (hb hby d1_0) rfl rfl ?_
    show Steps p.tables e below (s₁.setTop (mkF m 1 #[.val (.ref o0), .val (.long q1), .second] [(.ref o0)])) _
    refine st1.trans ?_
    show Steps p.tables e below (T1.setTop (mkF m 4 #[.val (.ref o0), .val (.long q1), .second] [])) _
    refine XS.aloadN X1.here hx rfl (hb hby d1_4) rfl rfl ?_
    show Steps p.tables e below (T1.setTop (mkF m 5 #[.val (.ref o0), .val (.long q1), .second] [(.ref o0)])) _
    refine XS.lloadN X1.here hx rfl (hb hby d1_5) rfl ?_
    show Steps p.tables e below (T1.setTop (mkF m 6 #[.val (.ref o0), .val (.long q1), .second] [(.long q1), (.ref o0)])) _
    refine st4 _ ?_
    show Steps p.tables e below (T4.setTop (mkF m 9 #[.val (.ref o0), .val (.long q1), .second] [])) _
    exact X4.returnOut hx Bd.returns (hb hby d1_9) hr
  · show Q1 Z o0 q1 h0 n0 _ T4.heap _
    rw [e4]
    exact ⟨rfl, N4, J4, Fw4⟩
theorem d4_0 : decode prog_9_method_3_code 0 = .ok (.aload_n 0, 1) := by decide +kernel
theorem d4_1 : decode prog_9_method_3_code 1 = .ok (.getfield 7, 3) := by decide +kernel
theorem d4_4 : decode prog_9_method_3_code 4 = .ok (.lconst 0, 1) := by decide +kernel
theorem d4_5 : decode prog_9_method_3_code 5 = .ok (.lcmp, 1) := by decide +kernel
theorem d4_6 : decode prog_9_method_3_code 6 = .ok (.ifCond .le 7, 3) := by decide +kernel
theorem d4_9 : decode prog_9_method_3_code 9 = .ok (.iconst 1, 1) := by decide +kernel
theorem d4_10 : decode prog_9_method_3_code 10 = .ok (.goto 4, 3) := by decide +kernel
theorem d4_13 : decode prog_9_method_3_code 13 = .ok (.iconst 0, 1) := by decide +kernel
theorem d4_14 : decode prog_9_method_3_code 14 = .ok (.ireturn, 1) := by decide +kernel
theorem ef_4 (m : MethodId) (o0 : Addr) : entryFrame m #[(.ref o0)] 1 = mkF m 0 #[.val (.ref o0)] [] := by first | (simp [entryFrame, mkF, argsToLocals, Value.category]; done) | rfl
def Q4 (Z : State) (o0 : Addr) (w : Int64) (h0 : Heap) (n0 : Nat) (v : Option Value) (h : Heap) (L : List Loc) : Prop := v = some (.int (if (0 : Int64) < w then (1 : Int32) else 0)) ∧ Fr n0 L ∧ Keep h0 h []
set_option maxRecDepth 65536 in
set_option maxHeartbeats 40000000 in
theorem rm4 (l : Launch) (Z : State) (a0 : Array Value) (hw : ∀ d ∈ tables_1, d.before a0 Z = true) (ws : List Jvm.Cond) (o0 : Addr) (w : Int64) (h0 : Heap) (n0 : Nat) (Z0 : n0 ≤ h0.size) (F_cents_o0 : Fld Z h0 o0 "com/example/scratchdraw/scratchdraw/figures/Money" "cents" "J" (.long w)) :
    MetFree l (⟨"com/example/scratchdraw/scratchdraw/figures/Money", "isPositive", "()Z"⟩ : MethodName) (head1 (Jvm.Cond.code (⟨"com/example/scratchdraw/scratchdraw/figures/Money", "isPositive", "()Z"⟩ : MethodName) prog_9_method_3_code 1 (some .boolean) :: ws) ({ frames := 0, cells := 0, slots := 0, locals := 0 } : Room)) (fun a U => a = #[(.ref o0)] ∧ Z.Warmed39 U.vm ∧ U.heap = h0) (fun _ _ _ _ _ => True) (fun _ U o U' => ∃ v L, o = .returned v ∧ Q4 Z o0 w h0 n0 v U'.heap L ∧ FrameEnd U o U' L ({ frames := 0, cells := 0, slots := 0, locals := 0 } : Room).cells ({ frames := 0, cells := 0, slots := 0, locals := 0 } : Room).slots) := by
  refine MetFree.of_bodySF (plainFor_of_name pn_com_example_scratchdraw_scratchdraw_figures_Money) hisR ?_
  intro p e s m args below meth c s₁ Bd hml0 hP hK
  obtain ⟨rfl, hZ, hh⟩ := hP
  have hx := Bd.exec
  have hby := Bd.bytes
  have hml : c.maxLocals = 1 := hml0
  have hown : s.vm.findClass "com/example/scratchdraw/scratchdraw/figures/Money" = some m.cls := findClass_of_methodNamed Bd.named
  have hnm := (name_of_methodNamed Bd.named Bd.method).1
  have X0 : Stand p l e ({ frames := 0, cells := 0, slots := 0, locals := 0 } : Room) s m #[(.ref o0)] below meth c s₁ [] 0 0 := Stand.of_body Bd
  have e0 : s₁.heap = h0 := by rw [← hh, Bd.state]; rfl
  have N0 := Fr.nil n0
  have pre0 : ∀ t, Steps p.tables e below (s₁.setTop (mkF m 0 #[.val (.ref o0)] [])) t → Steps p.tables e below (s₁.setTop (entryFrame m #[(.ref o0)] 1)) t := fun t k => castTop (ef_4 m o0) k
  obtain ⟨T1, X1, e1, st1⟩ := getF X0 hx hZ hown (host := "") (Or.inl (hw _ (List.mem_of_getElem? (i := 14) rfl))) Via.refl e0 F_cents_o0 (g := (mkF m 1 #[.val (.ref o0)] [(.ref o0)])) rfl rfl (hb hby d4_1)
  obtain ⟨fs, hr, hrun, hended, hW, hsame⟩ := X1.leave (v := some (.int (nar .boolean (if (0 : Int64) < w then (1 : Int32) else 0)))) (fun h => by rw [Bd.returns] at h; cases h)
  refine ⟨_, _, pre0 _ ?_, hrun, hended, _, _, rfl, ?_, ⟨_, rfl⟩, hW, hsame.mono (by decide) (by decide)⟩
  · show Steps p.tables e below (s₁.setTop (mkF m 0 #[.val (.ref o0)] [])) _
    refine XS.aloadN X0.here hx rfl (hb hby d4_0) rfl rfl ?_
    show Steps p.tables e below (s₁.setTop (mkF m 1 #[.val (.ref o0)] [(.ref o0)])) _
    refine st1 _ ?_
    show Steps p.tables e below (T1.setTop (mkF m 4 #[.val (.ref o0)] [(.long w)])) _
    refine XS.lconst X1.here hx rfl (hb hby d4_4) ?_
    show Steps p.tables e below (T1.setTop (mkF m 5 #[.val (.ref o0)] [(.long (0 : Int64)), (.long w)])) _
    refine XS.lcmp X1.here hx rfl (hb hby d4_5) rfl ?_
    show Steps p.tables e below (T1.setTop (mkF m 6 #[.val (.ref o0)] [(.int (lcmpW w (0 : Int64)))])) _
    refine own_diaF X1.here hx rfl (pc0 := 6) rfl (hb hby d4_6) (hb hby d4_9) (hb hby d4_10) (hb hby d4_13) rfl (fun hq => ((if0 _ _).trans (tlt ((lw_gt _ _).mpr hq)).2.2.2)) (fun hq => ((if0 _ _).trans (flt (mt (lw_gt _ _).mp hq)).2.2.2)) ?_
    show Steps p.tables e below (T1.setTop (mkF m 14 #[.val (.ref o0)] [(.int (if (0 : Int64) < w then (1 : Int32) else 0))])) _
    exact retN X1 hx (t := .boolean) Bd.returns (by simp) (hb hby d4_14) hr
  · show Q4 Z o0 w h0 n0 _ T1.heap _
    rw [e1]
    exact ⟨by rw [own_nb10], N0, (Keep.refl h0 [])⟩
theorem pn_com_example_scratchdraw_scratchdraw_figures_MoneyIsPositivePinLaw : plainName "com/example/scratchdraw/scratchdraw/figures/MoneyIsPositivePinLaw" = true := by first | (simp [plainName, overriddenIn]; done) | decide +kernel
theorem pd_1 : parseMethodDescriptor "(J)V" = some ⟨[.long], none⟩ := by decide +kernel
theorem pd_2 : parseMethodDescriptor "()Z" = some ⟨[], some .boolean⟩ := by decide +kernel
theorem ef_0 (m : MethodId) (q0 : Int64) (q1 : Int64) : entryFrame m #[(.long q0), (.long q1)] maxLocals = mkF m 0 #[.val (.long q0), .second, .val (.long q1), .second, .unset, .unset, .unset, .unset, .unset, .unset, .unset, .unset] [] := by first | (simp [entryFrame, mkF, argsToLocals, Value.category, maxLocals]; done) | rfl
def Q0 (Z : State) (q0 : Int64) (q1 : Int64) (h0 : Heap) (n0 : Nat) (v : Option Value) (h : Heap) (L : List Loc) : Prop := v = some (.int (1 : Int32)) ∧ Fr n0 L
set_option maxRecDepth 65536 in
set_option maxHeartbeats 40000000 in
theorem rm0 (l : Launch) (Z : State) (a0 : Array Value) (hw : ∀ d ∈ tables_1, d.before a0 Z = true) (ws : List Jvm.Cond) (q0 : Int64) (q1 : Int64) (h0 : Heap) (n0 : Nat) (Z0 : n0 ≤ h0.size) :
    MetFree l x (head1 (Jvm.Cond.code x code maxLocals ret :: ws) room_1) (fun a U => a = #[(.long q0), (.long q1)] ∧ Z.Warmed39 U.vm ∧ U.heap = h0) (fun _ _ _ _ _ => True) (fun _ U o U' => ∃ v L, o = .returned v ∧ Q0 Z q0 q1 h0 n0 v U'.heap L ∧ FrameEnd U o U' L room_1.cells room_1.slots) := by
  refine MetFree.of_bodySF (plainFor_of_name pn_com_example_scratchdraw_scratchdraw_figures_MoneyIsPositivePinLaw) hisR ?_
  intro p e s m args below meth c s₁ Bd hml0 hP hK
  obtain ⟨rfl, hZ, hh⟩ := hP
  have hx := Bd.exec
  have hby := Bd.bytes
  have hml : c.maxLocals = 12 := hml0
  have hown : s.vm.findClass "com/example/scratchdraw/scratchdraw/figures/MoneyIsPositivePinLaw" = some m.cls := findClass_of_methodNamed Bd.named
  have hnm := (name_of_methodNamed Bd.named Bd.method).1
  have X0 : Stand p l e room_1 s m #[(.long q0), (.long q1)] below meth c s₁ [] 0 0 := Stand.of_body Bd
  have e0 : s₁.heap = h0 := by rw [← hh, Bd.state]; rfl
  have N0 := Fr.nil n0
  have pre0 : ∀ t, Steps p.tables e below (s₁.setTop (mkF m 0 #[.val (.long q0), .second, .val (.long q1), .second, .unset, .unset, .unset, .unset, .unset, .unset, .unset, .unset] [])) t → Steps p.tables e below (s₁.setTop (entryFrame m #[(.long q0), (.long q1)] maxLocals)) t := fun t k => castTop (ef_0 m q0 q1) k
  obtain ⟨T1, h1, X1, e1, E1, A1, D1, U1, st1⟩ := newO X0 hx hZ hown (hw _ (List.mem_of_getElem? (i := 0) rfl)) (hw _ (List.mem_of_getElem? (i := 1) rfl)) (hw _ (List.mem_of_getElem? (i := 2) rfl)) e0 (g := (mkF m 0 #[.val (.long q0), .second, .val (.long q1), .second, .unset, .unset, .unset, .unset, .unset, .unset, .unset, .unset] [])) rfl (hb hby at_0) (by decide) (by decide)
  obtain ⟨b1, g1⟩ : ∃ z, z = h0.size := ⟨_, rfl⟩
  rw [← g1] at A1 D1 U1 st1
  have g_b1 : n0 ≤ b1 := Nat.le_trans Z0 (Nat.le_of_eq g1.symm)
  have sz_b1 : h0.size ≤ b1 := Nat.le_trans (Keep.refl h0 []).1 (Nat.le_of_eq g1.symm)
  have F_cents_b1 : Fld Z h1 b1 "com/example/scratchdraw/scratchdraw/figures/Money" "cents" "J" (.long (0 : Int64)) := D1 (Or.inr (hw _ (List.mem_of_getElem? (i := 15) rfl))) (ty := .long) (by decide)
  have J1 : Keep h0 h1 [] := (Keep.refl h0 []).ext E1
  have z2 : n0 ≤ h1.size := (Nat.le_trans Z0 E1.1)
  -- pc 5: Money.<init> by rm1
  obtain ⟨_, _, ⟨T3, L3, k3, n3⟩, -, X3, ⟨Lc3, hQ3, l3, y3, z3'⟩, st3⟩ := X1.specialBack hx (y := (⟨"com/example/scratchdraw/scratchdraw/figures/Money", "<init>", "(J)V"⟩ : MethodName)) rfl hown (mvT hZ (hw _ (List.mem_of_getElem? (i := 3) rfl))) (mvT hZ (hw _ (List.mem_of_getElem? (i := 4) rfl))) (mvT hZ (hw _ (List.mem_of_getElem? (i := 5) rfl))) (by decide) (backOf (W := 1) (rm1 l Z a0 hw [] b1 q0 h1 n0 z2 A1 F_cents_b1 g_b1) hZ (hw _ (List.mem_of_getElem? (i := 5) rfl)) (hw _ (List.mem_of_getElem? (i := 2) rfl)) (by decide) (by decide)) (g := (mkF m 5 #[.val (.long q0), .second, .val (.long q1), .second, .unset, .unset, .unset, .unset, .unset, .unset, .unset, .unset] [(.long q0), (.ref b1), (.ref b1)])) rfl (by rw [hml]; rfl) (Steps.refl _) (a := b1) (argsL := [(.long q0)]) (rest := [(.ref b1)]) (lenOf pd_1 rfl) rfl (by show 2 * 0 + _ ≤ _; exact Nat.le_of_eq rfl) (hb hby at_5) (fun _ _ => ⟨rfl, e1, (by decide : 1 + 0 ≤ _), (by decide : 1 + 0 ≤ _)⟩)
  dsimp only [Pt.U, Pt.locs, Pt.cells, Pt.slots] at X3 l3 y3 z3' st3 hQ3
  subst l3 y3 z3'
  obtain ⟨rfl, N3q, K3, r0_3⟩ := hQ3
  have N3 := Fr.app N0 N3q
  have J3 : Keep h0 T3.heap [] := J1.trans K3 (allS (Or.inr sz_b1) all0)
  have z4 : n0 ≤ T3.heap.size := (Nat.le_trans z2 K3.1)
  have c5 : Exa Z T3.heap b1 "com/example/scratchdraw/scratchdraw/figures/Money" := (A1.keep K3)
  obtain ⟨T6, h6, X6, e6, E6, A6, D6, U6, st6⟩ := newO X3 hx hZ hown (hw _ (List.mem_of_getElem? (i := 0) rfl)) (hw _ (List.mem_of_getElem? (i := 1) rfl)) (hw _ (List.mem_of_getElem? (i := 2) rfl)) rfl (g := (mkF m 10 #[.val (.long q0), .second, .val (.long q1), .second, .val (.ref b1), .unset, .unset, .unset, .unset, .unset, .unset, .unset] [])) rfl (hb hby at_10) (by decide) (by decide)
  obtain ⟨b6, g6⟩ : ∃ z, z = T3.heap.size := ⟨_, rfl⟩
  rw [← g6] at A6 D6 U6 st6
  have g_b6 : n0 ≤ b6 := Nat.le_trans z4 (Nat.le_of_eq g6.symm)
  have sz_b6 : h0.size ≤ b6 := Nat.le_trans J3.1 (Nat.le_of_eq g6.symm)
  have ne7 : b1 ≠ b6 := Nat.ne_of_lt (Nat.lt_of_lt_of_le c5.lt (Nat.le_of_eq g6.symm))
  have F_cents_b6 : Fld Z h6 b6 "com/example/scratchdraw/scratchdraw/figures/Money" "cents" "J" (.long (0 : Int64)) := D6 (Or.inr (hw _ (List.mem_of_getElem? (i := 15) rfl))) (ty := .long) (by decide)
  have J6 : Keep h0 h6 [] := J3.ext E6
  have z8 : n0 ≤ h6.size := (Nat.le_trans z4 E6.1)
  -- pc 16: Money.<init> by rm1
  obtain ⟨_, _, ⟨T9, L9, k9, n9⟩, -, X9, ⟨Lc9, hQ9, l9, y9, z9'⟩, st9⟩ := X6.specialBack hx (y := (⟨"com/example/scratchdraw/scratchdraw/figures/Money", "<init>", "(J)V"⟩ : MethodName)) rfl hown (mvT hZ (hw _ (List.mem_of_getElem? (i := 3) rfl))) (mvT hZ (hw _ (List.mem_of_getElem? (i := 4) rfl))) (mvT hZ (hw _ (List.mem_of_getElem? (i := 5) rfl))) (by decide) (backOf (W := 1) (rm1 l Z a0 hw [] b6 (-q0) h6 n0 z8 A6 F_cents_b6 g_b6) hZ (hw _ (List.mem_of_getElem? (i := 5) rfl)) (hw _ (List.mem_of_getElem? (i := 2) rfl)) (by decide) (by decide)) (g := (mkF m 16 #[.val (.long q0), .second, .val (.long q1), .second, .val (.ref b1), .unset, .unset, .unset, .unset, .unset, .unset, .unset] [(.long (-q0)), (.ref b6), (.ref b6)])) rfl (by rw [hml]; rfl) (Steps.refl _) (a := b6) (argsL := [(.long (-q0))]) (rest := [(.ref b6)]) (lenOf pd_1 rfl) rfl (by show 2 * 0 + _ ≤ _; exact Nat.le_of_eq rfl) (hb hby at_16) (fun _ _ => ⟨rfl, e6, (by decide : 2 + 0 ≤ _), (by decide : 2 + 0 ≤ _)⟩)
  dsimp only [Pt.U, Pt.locs, Pt.cells, Pt.slots] at X9 l9 y9 z9' st9 hQ9
  subst l9 y9 z9'
  obtain ⟨rfl, N9q, K9, r0_9⟩ := hQ9
  have N9 := Fr.app N3 N9q
  have J9 : Keep h0 T9.heap [] := J6.trans K9 (allS (Or.inr sz_b6) all0)
  have z10 : n0 ≤ T9.heap.size := (Nat.le_trans z8 K9.1)
  have c11 : Exa Z T9.heap b1 "com/example/scratchdraw/scratchdraw/figures/Money" := ((c5.ext E6).keep K9)
  have c12 : Exa Z T9.heap b6 "com/example/scratchdraw/scratchdraw/figures/Money" := (A6.keep K9)
  obtain ⟨T13, h13, X13, e13, E13, A13, D13, U13, st13⟩ := newO X9 hx hZ hown (hw _ (List.mem_of_getElem? (i := 0) rfl)) (hw _ (List.mem_of_getElem? (i := 1) rfl)) (hw _ (List.mem_of_getElem? (i := 2) rfl)) rfl (g := (mkF m 21 #[.val (.long q0), .second, .val (.long q1), .second, .val (.ref b1), .val (.ref b6), .unset, .unset, .unset, .unset, .unset, .unset] [])) rfl (hb hby at_21) (by decide) (by decide)
  obtain ⟨b13, g13⟩ : ∃ z, z = T9.heap.size := ⟨_, rfl⟩
  rw [← g13] at A13 D13 U13 st13
  have g_b13 : n0 ≤ b13 := Nat.le_trans z10 (Nat.le_of_eq g13.symm)
  have sz_b13 : h0.size ≤ b13 := Nat.le_trans J9.1 (Nat.le_of_eq g13.symm)
  have ne14 : b1 ≠ b13 := Nat.ne_of_lt (Nat.lt_of_lt_of_le c11.lt (Nat.le_of_eq g13.symm))
  have ne15 : b6 ≠ b13 := Nat.ne_of_lt (Nat.lt_of_lt_of_le c12.lt (Nat.le_of_eq g13.symm))
  have F_cents_b13 : Fld Z h13 b13 "com/example/scratchdraw/scratchdraw/figures/Money" "cents" "J" (.long (0 : Int64)) := D13 (Or.inr (hw _ (List.mem_of_getElem? (i := 15) rfl))) (ty := .long) (by decide)
  have J13 : Keep h0 h13 [] := J9.ext E13
  have z16 : n0 ≤ h13.size := (Nat.le_trans z10 E13.1)
  -- pc 26: Money.<init> by rm1
  obtain ⟨_, _, ⟨T17, L17, k17, n17⟩, -, X17, ⟨Lc17, hQ17, l17, y17, z17'⟩, st17⟩ := X13.specialBack hx (y := (⟨"com/example/scratchdraw/scratchdraw/figures/Money", "<init>", "(J)V"⟩ : MethodName)) rfl hown (mvT hZ (hw _ (List.mem_of_getElem? (i := 3) rfl))) (mvT hZ (hw _ (List.mem_of_getElem? (i := 4) rfl))) (mvT hZ (hw _ (List.mem_of_getElem? (i := 5) rfl))) (by decide) (backOf (W := 1) (rm1 l Z a0 hw [] b13 q1 h13 n0 z16 A13 F_cents_b13 g_b13) hZ (hw _ (List.mem_of_getElem? (i := 5) rfl)) (hw _ (List.mem_of_getElem? (i := 2) rfl)) (by decide) (by decide)) (g := (mkF m 26 #[.val (.long q0), .second, .val (.long q1), .second, .val (.ref b1), .val (.ref b6), .unset, .unset, .unset, .unset, .unset, .unset] [(.long q1), (.ref b13), (.ref b13)])) rfl (by rw [hml]; rfl) (Steps.refl _) (a := b13) (argsL := [(.long q1)]) (rest := [(.ref b13)]) (lenOf pd_1 rfl) rfl (by show 2 * 0 + _ ≤ _; exact Nat.le_of_eq rfl) (hb hby at_26) (fun _ _ => ⟨rfl, e13, (by decide : 3 + 0 ≤ _), (by decide : 3 + 0 ≤ _)⟩)
  dsimp only [Pt.U, Pt.locs, Pt.cells, Pt.slots] at X17 l17 y17 z17' st17 hQ17
  subst l17 y17 z17'
  obtain ⟨rfl, N17q, K17, r0_17⟩ := hQ17
  have N17 := Fr.app N9 N17q
  have J17 : Keep h0 T17.heap [] := J13.trans K17 (allS (Or.inr sz_b13) all0)
  have c18 : Fld Z T17.heap b1 "com/example/scratchdraw/scratchdraw/figures/Money" "cents" "J" (.long q0) := ((((r0_3.ext E6).keep K9 (ninS ne7 nin0)).ext E13).keep K17 (ninS ne14 nin0))
  have z19 : n0 ≤ T17.heap.size := (Nat.le_trans z16 K17.1)
  have c21 : Exa Z T17.heap b1 "com/example/scratchdraw/scratchdraw/figures/Money" := ((c11.ext E13).keep K17)
  obtain ⟨cq20, kq20, q20a, q20b, q20c⟩ := isOf hZ rfl c21
  -- pc 33: Money.isPositive by rm4
  obtain ⟨_, _, ⟨T20, L20, k20, n20⟩, -, X20, ⟨Lc20, hQ20, l20, y20, z20'⟩, st20⟩ := X17.virtualBack hx (y := (⟨"com/example/scratchdraw/scratchdraw/figures/Money", "isPositive", "()Z"⟩ : MethodName)) (z := (⟨"com/example/scratchdraw/scratchdraw/figures/Money", "isPositive", "()Z"⟩ : MethodName)) hown (mvT hZ (hw _ (List.mem_of_getElem? (i := 16) rfl))) (mvT hZ (hw _ (List.mem_of_getElem? (i := 17) rfl))) (notFace_of_selects (args := #[]) (mvT hZ (hw _ (List.mem_of_getElem? (i := 19) rfl)))) (mvT hZ (hw _ (List.mem_of_getElem? (i := 19) rfl))) (mvT hZ (hw _ (List.mem_of_getElem? (i := 18) rfl))) (by decide) (backOf (W := 0) (rm4 l Z a0 hw [] b1 q0 T17.heap n0 z19 c18) hZ (hw _ (List.mem_of_getElem? (i := 20) rfl)) (hw _ (List.mem_of_getElem? (i := 2) rfl)) (by decide) (by decide)) q20a q20c (g := (mkF m 33 #[.val (.long q0), .second, .val (.long q1), .second, .val (.ref b1), .val (.ref b6), .val (.ref b13), .unset, .unset, .unset, .unset, .unset] [(.ref b1)])) rfl (by rw [hml]; rfl) (Steps.refl _) (argsL := []) (rest := []) (lenOf pd_2 rfl) rfl (by show 2 * 0 + _ ≤ _; exact Nat.le_of_eq rfl) (hb hby at_33) (fun _ _ => ⟨rfl, rfl, (by decide : 3 + 0 ≤ _), (by decide : 3 + 0 ≤ _)⟩)
  dsimp only [Pt.U, Pt.locs, Pt.cells, Pt.slots] at X20 l20 y20 z20' st20 hQ20
  subst l20 y20 z20'
  obtain ⟨rfl, N20q, K20⟩ := hQ20
  have N20 := Fr.app N17 N20q
  have J20 : Keep h0 T20.heap [] := J17.trans K20 all0
  have c22 : Fld Z T20.heap b6 "com/example/scratchdraw/scratchdraw/figures/Money" "cents" "J" (.long (-q0)) := (((r0_9.ext E13).keep K17 (ninS ne15 nin0)).keep K20 nin0)
  have z23 : n0 ≤ T20.heap.size := (Nat.le_trans z19 K20.1)
  have c25 : Exa Z T20.heap b6 "com/example/scratchdraw/scratchdraw/figures/Money" := (((c12.ext E13).keep K17).keep K20)
  obtain ⟨cq24, kq24, q24a, q24b, q24c⟩ := isOf hZ rfl c25
  -- pc 40: Money.isPositive by rm4
  obtain ⟨_, _, ⟨T24, L24, k24, n24⟩, -, X24, ⟨Lc24, hQ24, l24, y24, z24'⟩, st24⟩ := X20.virtualBack hx (y := (⟨"com/example/scratchdraw/scratchdraw/figures/Money", "isPositive", "()Z"⟩ : MethodName)) (z := (⟨"com/example/scratchdraw/scratchdraw/figures/Money", "isPositive", "()Z"⟩ : MethodName)) hown (mvT hZ (hw _ (List.mem_of_getElem? (i := 16) rfl))) (mvT hZ (hw _ (List.mem_of_getElem? (i := 17) rfl))) (notFace_of_selects (args := #[]) (mvT hZ (hw _ (List.mem_of_getElem? (i := 19) rfl)))) (mvT hZ (hw _ (List.mem_of_getElem? (i := 19) rfl))) (mvT hZ (hw _ (List.mem_of_getElem? (i := 18) rfl))) (by decide) (backOf (W := 0) (rm4 l Z a0 hw [] b6 (-q0) T20.heap n0 z23 c22) hZ (hw _ (List.mem_of_getElem? (i := 20) rfl)) (hw _ (List.mem_of_getElem? (i := 2) rfl)) (by decide) (by decide)) q24a q24c (g := (mkF m 40 #[.val (.long q0), .second, .val (.long q1), .second, .val (.ref b1), .val (.ref b6), .val (.ref b13), .val (.int (if (0 : Int64) < q0 then (1 : Int32) else 0)), .unset, .unset, .unset, .unset] [(.ref b6)])) rfl (by rw [hml]; rfl) (Steps.refl _) (argsL := []) (rest := []) (lenOf pd_2 rfl) rfl (by show 2 * 0 + _ ≤ _; exact Nat.le_of_eq rfl) (hb hby at_40) (fun _ _ => ⟨rfl, rfl, (by decide : 3 + 0 ≤ _), (by decide : 3 + 0 ≤ _)⟩)
  dsimp only [Pt.U, Pt.locs, Pt.cells, Pt.slots] at X24 l24 y24 z24' st24 hQ24
  subst l24 y24 z24'
  obtain ⟨rfl, N24q, K24⟩ := hQ24
  have N24 := Fr.app N20 N24q
  have J24 : Keep h0 T24.heap [] := J20.trans K24 all0
  have c26 : Fld Z T24.heap b13 "com/example/scratchdraw/scratchdraw/figures/Money" "cents" "J" (.long q1) := ((r0_17.keep K20 nin0).keep K24 nin0)
  have z27 : n0 ≤ T24.heap.size := (Nat.le_trans z23 K24.1)
  have c29 : Exa Z T24.heap b13 "com/example/scratchdraw/scratchdraw/figures/Money" := (((A13.keep K17).keep K20).keep K24)
  obtain ⟨cq28, kq28, q28a, q28b, q28c⟩ := isOf hZ rfl c29
  -- pc 47: Money.isPositive by rm4
  obtain ⟨_, _, ⟨T28, L28, k28, n28⟩, -, X28, ⟨Lc28, hQ28, l28, y28, z28'⟩, st28⟩ := X24.virtualBack hx (y := (⟨"com/example/scratchdraw/scratchdraw/figures/Money", "isPositive", "()Z"⟩ : MethodName)) (z := (⟨"com/example/scratchdraw/scratchdraw/figures/Money", "isPositive", "()Z"⟩ : MethodName)) hown (mvT hZ (hw _ (List.mem_of_getElem? (i := 16) rfl))) (mvT hZ (hw _ (List.mem_of_getElem? (i := 17) rfl))) (notFace_of_selects (args := #[]) (mvT hZ (hw _ (List.mem_of_getElem? (i := 19) rfl)))) (mvT hZ (hw _ (List.mem_of_getElem? (i := 19) rfl))) (mvT hZ (hw _ (List.mem_of_getElem? (i := 18) rfl))) (by decide) (backOf (W := 0) (rm4 l Z a0 hw [] b13 q1 T24.heap n0 z27 c26) hZ (hw _ (List.mem_of_getElem? (i := 20) rfl)) (hw _ (List.mem_of_getElem? (i := 2) rfl)) (by decide) (by decide)) q28a q28c (g := (mkF m 47 #[.val (.long q0), .second, .val (.long q1), .second, .val (.ref b1), .val (.ref b6), .val (.ref b13), .val (.int (if (0 : Int64) < q0 then (1 : Int32) else 0)), .val (.int (if (0 : Int64) < (-q0) then (1 : Int32) else 0)), .unset, .unset, .unset] [(.ref b13)])) rfl (by rw [hml]; rfl) (Steps.refl _) (argsL := []) (rest := []) (lenOf pd_2 rfl) rfl (by show 2 * 0 + _ ≤ _; exact Nat.le_of_eq rfl) (hb hby at_47) (fun _ _ => ⟨rfl, rfl, (by decide : 3 + 0 ≤ _), (by decide : 3 + 0 ≤ _)⟩)
  dsimp only [Pt.U, Pt.locs, Pt.cells, Pt.slots] at X28 l28 y28 z28' st28 hQ28
  subst l28 y28 z28'
  obtain ⟨rfl, N28q, K28⟩ := hQ28
  have N28 := Fr.app N24 N28q
  have J28 : Keep h0 T28.heap [] := J24.trans K28 all0
  have hc65_30 : (if (0 : Int64) < q0 then (1 : Int32) else 0) = (if q0 < (1 : Int64) then (0 : Int32) else 1) := own_f1 _
  have hc83_31 : (if (0 : Int64) < q1 then (1 : Int32) else 0) = (if q1 < (1 : Int64) then (0 : Int32) else 1) := own_f1 _
  have pre32 : ∀ t, Steps p.tables e below (T28.setTop (mkF m 93 #[.val (.long q0), .second, .val (.long q1), .second, .val (.ref b1), .val (.ref b6), .val (.ref b13), .val (.int (if (0 : Int64) < q0 then (1 : Int32) else 0)), .val (.int (if (0 : Int64) < (-q0) then (1 : Int32) else 0)), .val (.int (if (0 : Int64) < q1 then (1 : Int32) else 0)), .unset, .unset] [(.int (lcmpW q0 (-9223372036854775808 : Int64)))])) t → Steps p.tables e below (s₁.setTop (entryFrame m #[(.long q0), (.long q1)] maxLocals)) t := by
    intro t kt
    refine pre0 _ ?_
    show Steps p.tables e below (s₁.setTop (mkF m 0 #[.val (.long q0), .second, .val (.long q1), .second, .unset, .unset, .unset, .unset, .unset, .unset, .unset, .unset] [])) _
    refine st1 _ ?_
    show Steps p.tables e below (T1.setTop (mkF m 3 #[.val (.long q0), .second, .val (.long q1), .second, .unset, .unset, .unset, .unset, .unset, .unset, .unset, .unset] [(.ref b1)])) _
    refine XS.dup X1.here hx rfl (hb hby at_3) rfl rfl ?_
    show Steps p.tables e below (T1.setTop (mkF m 4 #[.val (.long q0), .second, .val (.long q1), .second, .unset, .unset, .unset, .unset, .unset, .unset, .unset, .unset] [(.ref b1), (.ref b1)])) _
    refine XS.lloadN X1.here hx rfl (hb hby at_4) rfl ?_
    show Steps p.tables e below (T1.setTop (mkF m 5 #[.val (.long q0), .second, .val (.long q1), .second, .unset, .unset, .unset, .unset, .unset, .unset, .unset, .unset] [(.long q0), (.ref b1), (.ref b1)])) _
    refine st3.trans ?_
    show Steps p.tables e below (T3.setTop (mkF m 8 #[.val (.long q0), .second, .val (.long q1), .second, .unset, .unset, .unset, .unset, .unset, .unset, .unset, .unset] [(.ref b1)])) _
    refine XS.astore X3.here hx rfl (hb hby at_8) rfl rfl (l' := #[.val (.long q0), .second, .val (.long q1), .second, .val (.ref b1), .unset, .unset, .unset, .unset, .unset, .unset, .unset]) rfl ?_
    show Steps p.tables e below (T3.setTop (mkF m 10 #[.val (.long q0), .second, .val (.long q1), .second, .val (.ref b1), .unset, .unset, .unset, .unset, .unset, .unset, .unset] [])) _
    refine st6 _ ?_
    show Steps p.tables e below (T6.setTop (mkF m 13 #[.val (.long q0), .second, .val (.long q1), .second, .val (.ref b1), .unset, .unset, .unset, .unset, .unset, .unset, .unset] [(.ref b6)])) _
    refine XS.dup X6.here hx rfl (hb hby at_13) rfl rfl ?_
    show Steps p.tables e below (T6.setTop (mkF m 14 #[.val (.long q0), .second, .val (.long q1), .second, .val (.ref b1), .unset, .unset, .unset, .unset, .unset, .unset, .unset] [(.ref b6), (.ref b6)])) _
    refine XS.lloadN X6.here hx rfl (hb hby at_14) rfl ?_
    show Steps p.tables e below (T6.setTop (mkF m 15 #[.val (.long q0), .second, .val (.long q1), .second, .val (.ref b1), .unset, .unset, .unset, .unset, .unset, .unset, .unset] [(.long q0), (.ref b6), (.ref b6)])) _
    refine XS.lneg X6.here hx rfl (hb hby at_15) rfl ?_
    show Steps p.tables e below (T6.setTop (mkF m 16 #[.val (.long q0), .second, .val (.long q1), .second, .val (.ref b1), .unset, .unset, .unset, .unset, .unset, .unset, .unset] [(.long (-q0)), (.ref b6), (.ref b6)])) _
    refine st9.trans ?_
    show Steps p.tables e below (T9.setTop (mkF m 19 #[.val (.long q0), .second, .val (.long q1), .second, .val (.ref b1), .unset, .unset, .unset, .unset, .unset, .unset, .unset] [(.ref b6)])) _
    refine XS.astore X9.here hx rfl (hb hby at_19) rfl rfl (l' := #[.val (.long q0), .second, .val (.long q1), .second, .val (.ref b1), .val (.ref b6), .unset, .unset, .unset, .unset, .unset, .unset]) rfl ?_
    show Steps p.tables e below (T9.setTop (mkF m 21 #[.val (.long q0), .second, .val (.long q1), .second, .val (.ref b1), .val (.ref b6), .unset, .unset, .unset, .unset, .unset, .unset] [])) _
    refine st13 _ ?_
    show Steps p.tables e below (T13.setTop (mkF m 24 #[.val (.long q0), .second, .val (.long q1), .second, .val (.ref b1), .val (.ref b6), .unset, .unset, .unset, .unset, .unset, .unset] [(.ref b13)])) _
    refine XS.dup X13.here hx rfl (hb hby at_24) rfl rfl ?_
    show Steps p.tables e below (T13.setTop (mkF m 25 #[.val (.long q0), .second, .val (.long q1), .second, .val (.ref b1), .val (.ref b6), .unset, .unset, .unset, .unset, .unset, .unset] [(.ref b13), (.ref b13)])) _
    refine XS.lloadN X13.here hx rfl (hb hby at_25) rfl ?_
    show Steps p.tables e below (T13.setTop (mkF m 26 #[.val (.long q0), .second, .val (.long q1), .second, .val (.ref b1), .val (.ref b6), .unset, .unset, .unset, .unset, .unset, .unset] [(.long q1), (.ref b13), (.ref b13)])) _
    refine st17.trans ?_
    show Steps p.tables e below (T17.setTop (mkF m 29 #[.val (.long q0), .second, .val (.long q1), .second, .val (.ref b1), .val (.ref b6), .unset, .unset, .unset, .unset, .unset, .unset] [(.ref b13)])) _
    refine XS.astore X17.here hx rfl (hb hby at_29) rfl rfl (l' := #[.val (.long q0), .second, .val (.long q1), .second, .val (.ref b1), .val (.ref b6), .val (.ref b13), .unset, .unset, .unset, .unset, .unset]) rfl ?_
    show Steps p.tables e below (T17.setTop (mkF m 31 #[.val (.long q0), .second, .val (.long q1), .second, .val (.ref b1), .val (.ref b6), .val (.ref b13), .unset, .unset, .unset, .unset, .unset] [])) _
    refine XS.aload X17.here hx rfl (hb hby at_31) rfl rfl ?_
    show Steps p.tables e below (T17.setTop (mkF m 33 #[.val (.long q0), .second, .val (.long q1), .second, .val (.ref b1), .val (.ref b6), .val (.ref b13), .unset, .unset, .unset, .unset, .unset] [(.ref b1)])) _
    refine st20.trans ?_
    show Steps p.tables e below (T20.setTop (mkF m 36 #[.val (.long q0), .second, .val (.long q1), .second, .val (.ref b1), .val (.ref b6), .val (.ref b13), .unset, .unset, .unset, .unset, .unset] [(.int (if (0 : Int64) < q0 then (1 : Int32) else 0))])) _
    refine XS.istore X20.here hx rfl (hb hby at_36) rfl (l' := #[.val (.long q0), .second, .val (.long q1), .second, .val (.ref b1), .val (.ref b6), .val (.ref b13), .val (.int (if (0 : Int64) < q0 then (1 : Int32) else 0)), .unset, .unset, .unset, .unset]) rfl ?_
    show Steps p.tables e below (T20.setTop (mkF m 38 #[.val (.long q0), .second, .val (.long q1), .second, .val (.ref b1), .val (.ref b6), .val (.ref b13), .val (.int (if (0 : Int64) < q0 then (1 : Int32) else 0)), .unset, .unset, .unset, .unset] [])) _
    refine XS.aload X20.here hx rfl (hb hby at_38) rfl rfl ?_
    show Steps p.tables e below (T20.setTop (mkF m 40 #[.val (.long q0), .second, .val (.long q1), .second, .val (.ref b1), .val (.ref b6), .val (.ref b13), .val (.int (if (0 : Int64) < q0 then (1 : Int32) else 0)), .unset, .unset, .unset, .unset] [(.ref b6)])) _
    refine st24.trans ?_
    show Steps p.tables e below (T24.setTop (mkF m 43 #[.val (.long q0), .second, .val (.long q1), .second, .val (.ref b1), .val (.ref b6), .val (.ref b13), .val (.int (if (0 : Int64) < q0 then (1 : Int32) else 0)), .unset, .unset, .unset, .unset] [(.int (if (0 : Int64) < (-q0) then (1 : Int32) else 0))])) _
    refine XS.istore X24.here hx rfl (hb hby at_43) rfl (l' := #[.val (.long q0), .second, .val (.long q1), .second, .val (.ref b1), .val (.ref b6), .val (.ref b13), .val (.int (if (0 : Int64) < q0 then (1 : Int32) else 0)), .val (.int (if (0 : Int64) < (-q0) then (1 : Int32) else 0)), .unset, .unset, .unset]) rfl ?_
    show Steps p.tables e below (T24.setTop (mkF m 45 #[.val (.long q0), .second, .val (.long q1), .second, .val (.ref b1), .val (.ref b6), .val (.ref b13), .val (.int (if (0 : Int64) < q0 then (1 : Int32) else 0)), .val (.int (if (0 : Int64) < (-q0) then (1 : Int32) else 0)), .unset, .unset, .unset] [])) _
    refine XS.aload X24.here hx rfl (hb hby at_45) rfl rfl ?_
    show Steps p.tables e below (T24.setTop (mkF m 47 #[.val (.long q0), .second, .val (.long q1), .second, .val (.ref b1), .val (.ref b6), .val (.ref b13), .val (.int (if (0 : Int64) < q0 then (1 : Int32) else 0)), .val (.int (if (0 : Int64) < (-q0) then (1 : Int32) else 0)), .unset, .unset, .unset] [(.ref b13)])) _
    refine st28.trans ?_
    show Steps p.tables e below (T28.setTop (mkF m 50 #[.val (.long q0), .second, .val (.long q1), .second, .val (.ref b1), .val (.ref b6), .val (.ref b13), .val (.int (if (0 : Int64) < q0 then (1 : Int32) else 0)), .val (.int (if (0 : Int64) < (-q0) then (1 : Int32) else 0)), .unset, .unset, .unset] [(.int (if (0 : Int64) < q1 then (1 : Int32) else 0))])) _
    refine XS.istore X28.here hx rfl (hb hby at_50) rfl (l' := #[.val (.long q0), .second, .val (.long q1), .second, .val (.ref b1), .val (.ref b6), .val (.ref b13), .val (.int (if (0 : Int64) < q0 then (1 : Int32) else 0)), .val (.int (if (0 : Int64) < (-q0) then (1 : Int32) else 0)), .val (.int (if (0 : Int64) < q1 then (1 : Int32) else 0)), .unset, .unset]) rfl ?_
    show Steps p.tables e below (T28.setTop (mkF m 52 #[.val (.long q0), .second, .val (.long q1), .second, .val (.ref b1), .val (.ref b6), .val (.ref b13), .val (.int (if (0 : Int64) < q0 then (1 : Int32) else 0)), .val (.int (if (0 : Int64) < (-q0) then (1 : Int32) else 0)), .val (.int (if (0 : Int64) < q1 then (1 : Int32) else 0)), .unset, .unset] [])) _
    refine XS.iload X28.here hx rfl (hb hby at_52) rfl ?_
    show Steps p.tables e below (T28.setTop (mkF m 54 #[.val (.long q0), .second, .val (.long q1), .second, .val (.ref b1), .val (.ref b6), .val (.ref b13), .val (.int (if (0 : Int64) < q0 then (1 : Int32) else 0)), .val (.int (if (0 : Int64) < (-q0) then (1 : Int32) else 0)), .val (.int (if (0 : Int64) < q1 then (1 : Int32) else 0)), .unset, .unset] [(.int (if (0 : Int64) < q0 then (1 : Int32) else 0))])) _
    refine XS.lloadN X28.here hx rfl (hb hby at_54) rfl ?_
    show Steps p.tables e below (T28.setTop (mkF m 55 #[.val (.long q0), .second, .val (.long q1), .second, .val (.ref b1), .val (.ref b6), .val (.ref b13), .val (.int (if (0 : Int64) < q0 then (1 : Int32) else 0)), .val (.int (if (0 : Int64) < (-q0) then (1 : Int32) else 0)), .val (.int (if (0 : Int64) < q1 then (1 : Int32) else 0)), .unset, .unset] [(.long q0), (.int (if (0 : Int64) < q0 then (1 : Int32) else 0))])) _
    refine XS.lconst X28.here hx rfl (hb hby at_55) ?_
    show Steps p.tables e below (T28.setTop (mkF m 56 #[.val (.long q0), .second, .val (.long q1), .second, .val (.ref b1), .val (.ref b6), .val (.ref b13), .val (.int (if (0 : Int64) < q0 then (1 : Int32) else 0)), .val (.int (if (0 : Int64) < (-q0) then (1 : Int32) else 0)), .val (.int (if (0 : Int64) < q1 then (1 : Int32) else 0)), .unset, .unset] [(.long (1 : Int64)), (.long q0), (.int (if (0 : Int64) < q0 then (1 : Int32) else 0))])) _
    refine XS.lcmp X28.here hx rfl (hb hby at_56) rfl ?_
    show Steps p.tables e below (T28.setTop (mkF m 57 #[.val (.long q0), .second, .val (.long q1), .second, .val (.ref b1), .val (.ref b6), .val (.ref b13), .val (.int (if (0 : Int64) < q0 then (1 : Int32) else 0)), .val (.int (if (0 : Int64) < (-q0) then (1 : Int32) else 0)), .val (.int (if (0 : Int64) < q1 then (1 : Int32) else 0)), .unset, .unset] [(.int (lcmpW q0 (1 : Int64))), (.int (if (0 : Int64) < q0 then (1 : Int32) else 0))])) _
    refine own_diaT X28.here hx rfl (pc0 := 57) rfl (hb hby at_57) (hb hby at_60) (hb hby at_61) (hb hby at_64) rfl (fun hq => ((if0 _ _).trans (tlt ((lw_lt _ _).mpr hq)).1)) (fun hq => ((if0 _ _).trans (flt (mt (lw_lt _ _).mp hq)).1)) ?_
    show Steps p.tables e below (T28.setTop (mkF m 65 #[.val (.long q0), .second, .val (.long q1), .second, .val (.ref b1), .val (.ref b6), .val (.ref b13), .val (.int (if (0 : Int64) < q0 then (1 : Int32) else 0)), .val (.int (if (0 : Int64) < (-q0) then (1 : Int32) else 0)), .val (.int (if (0 : Int64) < q1 then (1 : Int32) else 0)), .unset, .unset] [(.int (if q0 < (1 : Int64) then (0 : Int32) else 1)), (.int (if (0 : Int64) < q0 then (1 : Int32) else 0))])) _
    refine XS.icmpYes X28.here hx rfl (pc0 := 65) (pc' := 70) rfl (hb hby at_65) rfl (teq hc65_30).1 (by decide) (by decide) ?_
    show Steps p.tables e below (T28.setTop (mkF m 70 #[.val (.long q0), .second, .val (.long q1), .second, .val (.ref b1), .val (.ref b6), .val (.ref b13), .val (.int (if (0 : Int64) < q0 then (1 : Int32) else 0)), .val (.int (if (0 : Int64) < (-q0) then (1 : Int32) else 0)), .val (.int (if (0 : Int64) < q1 then (1 : Int32) else 0)), .unset, .unset] [])) _
    refine XS.iload X28.here hx rfl (hb hby at_70) rfl ?_
    show Steps p.tables e below (T28.setTop (mkF m 72 #[.val (.long q0), .second, .val (.long q1), .second, .val (.ref b1), .val (.ref b6), .val (.ref b13), .val (.int (if (0 : Int64) < q0 then (1 : Int32) else 0)), .val (.int (if (0 : Int64) < (-q0) then (1 : Int32) else 0)), .val (.int (if (0 : Int64) < q1 then (1 : Int32) else 0)), .unset, .unset] [(.int (if (0 : Int64) < q1 then (1 : Int32) else 0))])) _
    refine XS.lloadN X28.here hx rfl (hb hby at_72) rfl ?_
    show Steps p.tables e below (T28.setTop (mkF m 73 #[.val (.long q0), .second, .val (.long q1), .second, .val (.ref b1), .val (.ref b6), .val (.ref b13), .val (.int (if (0 : Int64) < q0 then (1 : Int32) else 0)), .val (.int (if (0 : Int64) < (-q0) then (1 : Int32) else 0)), .val (.int (if (0 : Int64) < q1 then (1 : Int32) else 0)), .unset, .unset] [(.long q1), (.int (if (0 : Int64) < q1 then (1 : Int32) else 0))])) _
    refine XS.lconst X28.here hx rfl (hb hby at_73) ?_
    show Steps p.tables e below (T28.setTop (mkF m 74 #[.val (.long q0), .second, .val (.long q1), .second, .val (.ref b1), .val (.ref b6), .val (.ref b13), .val (.int (if (0 : Int64) < q0 then (1 : Int32) else 0)), .val (.int (if (0 : Int64) < (-q0) then (1 : Int32) else 0)), .val (.int (if (0 : Int64) < q1 then (1 : Int32) else 0)), .unset, .unset] [(.long (1 : Int64)), (.long q1), (.int (if (0 : Int64) < q1 then (1 : Int32) else 0))])) _
    refine XS.lcmp X28.here hx rfl (hb hby at_74) rfl ?_
    show Steps p.tables e below (T28.setTop (mkF m 75 #[.val (.long q0), .second, .val (.long q1), .second, .val (.ref b1), .val (.ref b6), .val (.ref b13), .val (.int (if (0 : Int64) < q0 then (1 : Int32) else 0)), .val (.int (if (0 : Int64) < (-q0) then (1 : Int32) else 0)), .val (.int (if (0 : Int64) < q1 then (1 : Int32) else 0)), .unset, .unset] [(.int (lcmpW q1 (1 : Int64))), (.int (if (0 : Int64) < q1 then (1 : Int32) else 0))])) _
    refine own_diaT X28.here hx rfl (pc0 := 75) rfl (hb hby at_75) (hb hby at_78) (hb hby at_79) (hb hby at_82) rfl (fun hq => ((if0 _ _).trans (tlt ((lw_lt _ _).mpr hq)).1)) (fun hq => ((if0 _ _).trans (flt (mt (lw_lt _ _).mp hq)).1)) ?_
    show Steps p.tables e below (T28.setTop (mkF m 83 #[.val (.long q0), .second, .val (.long q1), .second, .val (.ref b1), .val (.ref b6), .val (.ref b13), .val (.int (if (0 : Int64) < q0 then (1 : Int32) else 0)), .val (.int (if (0 : Int64) < (-q0) then (1 : Int32) else 0)), .val (.int (if (0 : Int64) < q1 then (1 : Int32) else 0)), .unset, .unset] [(.int (if q1 < (1 : Int64) then (0 : Int32) else 1)), (.int (if (0 : Int64) < q1 then (1 : Int32) else 0))])) _
    refine XS.icmpYes X28.here hx rfl (pc0 := 83) (pc' := 88) rfl (hb hby at_83) rfl (teq hc83_31).1 (by decide) (by decide) ?_
    show Steps p.tables e below (T28.setTop (mkF m 88 #[.val (.long q0), .second, .val (.long q1), .second, .val (.ref b1), .val (.ref b6), .val (.ref b13), .val (.int (if (0 : Int64) < q0 then (1 : Int32) else 0)), .val (.int (if (0 : Int64) < (-q0) then (1 : Int32) else 0)), .val (.int (if (0 : Int64) < q1 then (1 : Int32) else 0)), .unset, .unset] [])) _
    refine XS.lloadN X28.here hx rfl (hb hby at_88) rfl ?_
    show Steps p.tables e below (T28.setTop (mkF m 89 #[.val (.long q0), .second, .val (.long q1), .second, .val (.ref b1), .val (.ref b6), .val (.ref b13), .val (.int (if (0 : Int64) < q0 then (1 : Int32) else 0)), .val (.int (if (0 : Int64) < (-q0) then (1 : Int32) else 0)), .val (.int (if (0 : Int64) < q1 then (1 : Int32) else 0)), .unset, .unset] [(.long q0)])) _
    refine X28.ldc2Long hx hown (mvT hZ (hw _ (List.mem_of_getElem? (i := 21) rfl))) (g := (mkF m 89 #[.val (.long q0), .second, .val (.long q1), .second, .val (.ref b1), .val (.ref b6), .val (.ref b13), .val (.int (if (0 : Int64) < q0 then (1 : Int32) else 0)), .val (.int (if (0 : Int64) < (-q0) then (1 : Int32) else 0)), .val (.int (if (0 : Int64) < q1 then (1 : Int32) else 0)), .unset, .unset] [(.long q0)])) rfl (hb hby at_89) _ ?_
    show Steps p.tables e below (T28.setTop (mkF m 92 #[.val (.long q0), .second, .val (.long q1), .second, .val (.ref b1), .val (.ref b6), .val (.ref b13), .val (.int (if (0 : Int64) < q0 then (1 : Int32) else 0)), .val (.int (if (0 : Int64) < (-q0) then (1 : Int32) else 0)), .val (.int (if (0 : Int64) < q1 then (1 : Int32) else 0)), .unset, .unset] [(.long (-9223372036854775808 : Int64)), (.long q0)])) _
    refine XS.lcmp X28.here hx rfl (hb hby at_92) rfl ?_
    exact kt
  by_cases hc93_33 : q0 = (-9223372036854775808 : Int64)
  · skip
    have pre34 : ∀ t, Steps p.tables e below (T28.setTop (mkF m 154 #[.val (.long q0), .second, .val (.long q1), .second, .val (.ref b1), .val (.ref b6), .val (.ref b13), .val (.int (if (0 : Int64) < q0 then (1 : Int32) else 0)), .val (.int (if (0 : Int64) < (-q0) then (1 : Int32) else 0)), .val (.int (if (0 : Int64) < q1 then (1 : Int32) else 0)), .unset, .unset] [(.int (lcmpW q0 q1))])) t → Steps p.tables e below (s₁.setTop (entryFrame m #[(.long q0), (.long q1)] maxLocals)) t := by
      intro t kt
      refine pre32 _ ?_
      show Steps p.tables e below (T28.setTop (mkF m 93 #[.val (.long q0), .second, .val (.long q1), .second, .val (.ref b1), .val (.ref b6), .val (.ref b13), .val (.int (if (0 : Int64) < q0 then (1 : Int32) else 0)), .val (.int (if (0 : Int64) < (-q0) then (1 : Int32) else 0)), .val (.int (if (0 : Int64) < q1 then (1 : Int32) else 0)), .unset, .unset] [(.int (lcmpW q0 (-9223372036854775808 : Int64)))])) _
      refine XS.ifYes X28.here hx rfl (pc0 := 93) (pc' := 151) rfl (hb hby at_93) rfl ((if0 _ _).trans (teq ((lw_eq _ _).mpr hc93_33)).1) (by decide) (by decide) ?_
      show Steps p.tables e below (T28.setTop (mkF m 151 #[.val (.long q0), .second, .val (.long q1), .second, .val (.ref b1), .val (.ref b6), .val (.ref b13), .val (.int (if (0 : Int64) < q0 then (1 : Int32) else 0)), .val (.int (if (0 : Int64) < (-q0) then (1 : Int32) else 0)), .val (.int (if (0 : Int64) < q1 then (1 : Int32) else 0)), .unset, .unset] [])) _
      refine XS.lloadN X28.here hx rfl (hb hby at_151) rfl ?_
      show Steps p.tables e below (T28.setTop (mkF m 152 #[.val (.long q0), .second, .val (.long q1), .second, .val (.ref b1), .val (.ref b6), .val (.ref b13), .val (.int (if (0 : Int64) < q0 then (1 : Int32) else 0)), .val (.int (if (0 : Int64) < (-q0) then (1 : Int32) else 0)), .val (.int (if (0 : Int64) < q1 then (1 : Int32) else 0)), .unset, .unset] [(.long q0)])) _
      refine XS.lloadN X28.here hx rfl (hb hby at_152) rfl ?_
      show Steps p.tables e below (T28.setTop (mkF m 153 #[.val (.long q0), .second, .val (.long q1), .second, .val (.ref b1), .val (.ref b6), .val (.ref b13), .val (.int (if (0 : Int64) < q0 then (1 : Int32) else 0)), .val (.int (if (0 : Int64) < (-q0) then (1 : Int32) else 0)), .val (.int (if (0 : Int64) < q1 then (1 : Int32) else 0)), .unset, .unset] [(.long q1), (.long q0)])) _
      refine XS.lcmp X28.here hx rfl (hb hby at_153) rfl ?_
      exact kt
    by_cases hc154_35 : q1 < q0
    · skip
      obtain ⟨fs, hr, hrun, hended, hW, hsame⟩ := X28.leave (v := some (.int (1 : Int32))) (fun h => by rw [Bd.returns] at h; cases h)
      refine ⟨_, _, pre34 _ ?_, hrun, hended, _, _, rfl, ?_, ⟨_, rfl⟩, hW, hsame.mono (by decide) (by decide)⟩
      · show Steps p.tables e below (T28.setTop (mkF m 154 #[.val (.long q0), .second, .val (.long q1), .second, .val (.ref b1), .val (.ref b6), .val (.ref b13), .val (.int (if (0 : Int64) < q0 then (1 : Int32) else 0)), .val (.int (if (0 : Int64) < (-q0) then (1 : Int32) else 0)), .val (.int (if (0 : Int64) < q1 then (1 : Int32) else 0)), .unset, .unset] [(.int (lcmpW q0 q1))])) _
        refine XS.ifYes X28.here hx rfl (pc0 := 154) (pc' := 169) rfl (hb hby at_154) rfl ((if0 _ _).trans (tlt ((lw_gt _ _).mpr hc154_35)).2.2.1) (by decide) (by decide) ?_
        show Steps p.tables e below (T28.setTop (mkF m 169 #[.val (.long q0), .second, .val (.long q1), .second, .val (.ref b1), .val (.ref b6), .val (.ref b13), .val (.int (if (0 : Int64) < q0 then (1 : Int32) else 0)), .val (.int (if (0 : Int64) < (-q0) then (1 : Int32) else 0)), .val (.int (if (0 : Int64) < q1 then (1 : Int32) else 0)), .unset, .unset] [])) _
        refine XS.iconst X28.here hx rfl (hb hby at_169) ?_
        show Steps p.tables e below (T28.setTop (mkF m 170 #[.val (.long q0), .second, .val (.long q1), .second, .val (.ref b1), .val (.ref b6), .val (.ref b13), .val (.int (if (0 : Int64) < q0 then (1 : Int32) else 0)), .val (.int (if (0 : Int64) < (-q0) then (1 : Int32) else 0)), .val (.int (if (0 : Int64) < q1 then (1 : Int32) else 0)), .unset, .unset] [(.int (1 : Int32))])) _
        exact retN X28 hx (t := .boolean) Bd.returns (by simp) (hb hby at_170) hr
      · show Q0 Z q0 q1 h0 n0 _ T28.heap _
        exact ⟨rfl, N28⟩
    · skip
      have pre36 : ∀ t, Steps p.tables e below (T28.setTop (mkF m 159 #[.val (.long q0), .second, .val (.long q1), .second, .val (.ref b1), .val (.ref b6), .val (.ref b13), .val (.int (if (0 : Int64) < q0 then (1 : Int32) else 0)), .val (.int (if (0 : Int64) < (-q0) then (1 : Int32) else 0)), .val (.int (if (0 : Int64) < q1 then (1 : Int32) else 0)), .unset, .unset] [(.int (if (0 : Int64) < q0 then (1 : Int32) else 0))])) t → Steps p.tables e below (s₁.setTop (entryFrame m #[(.long q0), (.long q1)] maxLocals)) t := by
        intro t kt
        refine pre34 _ ?_
        show Steps p.tables e below (T28.setTop (mkF m 154 #[.val (.long q0), .second, .val (.long q1), .second, .val (.ref b1), .val (.ref b6), .val (.ref b13), .val (.int (if (0 : Int64) < q0 then (1 : Int32) else 0)), .val (.int (if (0 : Int64) < (-q0) then (1 : Int32) else 0)), .val (.int (if (0 : Int64) < q1 then (1 : Int32) else 0)), .unset, .unset] [(.int (lcmpW q0 q1))])) _
        refine XS.ifNo X28.here hx rfl (hb hby at_154) rfl ((if0 _ _).trans (flt (mt (lw_gt _ _).mp hc154_35)).2.2.1) ?_
        show Steps p.tables e below (T28.setTop (mkF m 157 #[.val (.long q0), .second, .val (.long q1), .second, .val (.ref b1), .val (.ref b6), .val (.ref b13), .val (.int (if (0 : Int64) < q0 then (1 : Int32) else 0)), .val (.int (if (0 : Int64) < (-q0) then (1 : Int32) else 0)), .val (.int (if (0 : Int64) < q1 then (1 : Int32) else 0)), .unset, .unset] [])) _
        refine XS.iload X28.here hx rfl (hb hby at_157) rfl ?_
        exact kt
      by_cases hc159_37 : (0 : Int64) < q0
      · skip
        have hc164_38 : (0 : Int64) < q1 := own_up hc154_35 hc159_37
        obtain ⟨fs, hr, hrun, hended, hW, hsame⟩ := X28.leave (v := some (.int (1 : Int32))) (fun h => by rw [Bd.returns] at h; cases h)
        refine ⟨_, _, pre36 _ ?_, hrun, hended, _, _, rfl, ?_, ⟨_, rfl⟩, hW, hsame.mono (by decide) (by decide)⟩
        · show Steps p.tables e below (T28.setTop (mkF m 159 #[.val (.long q0), .second, .val (.long q1), .second, .val (.ref b1), .val (.ref b6), .val (.ref b13), .val (.int (if (0 : Int64) < q0 then (1 : Int32) else 0)), .val (.int (if (0 : Int64) < (-q0) then (1 : Int32) else 0)), .val (.int (if (0 : Int64) < q1 then (1 : Int32) else 0)), .unset, .unset] [(.int (if (0 : Int64) < q0 then (1 : Int32) else 0))])) _
          refine XS.ifNo X28.here hx rfl (hb hby at_159) rfl ((if0 _ _).trans (feq (own_b10n hc159_37)).1) ?_
          show Steps p.tables e below (T28.setTop (mkF m 162 #[.val (.long q0), .second, .val (.long q1), .second, .val (.ref b1), .val (.ref b6), .val (.ref b13), .val (.int (if (0 : Int64) < q0 then (1 : Int32) else 0)), .val (.int (if (0 : Int64) < (-q0) then (1 : Int32) else 0)), .val (.int (if (0 : Int64) < q1 then (1 : Int32) else 0)), .unset, .unset] [])) _
          refine XS.iload X28.here hx rfl (hb hby at_162) rfl ?_
          show Steps p.tables e below (T28.setTop (mkF m 164 #[.val (.long q0), .second, .val (.long q1), .second, .val (.ref b1), .val (.ref b6), .val (.ref b13), .val (.int (if (0 : Int64) < q0 then (1 : Int32) else 0)), .val (.int (if (0 : Int64) < (-q0) then (1 : Int32) else 0)), .val (.int (if (0 : Int64) < q1 then (1 : Int32) else 0)), .unset, .unset] [(.int (if (0 : Int64) < q1 then (1 : Int32) else 0))])) _
          refine XS.ifYes X28.here hx rfl (pc0 := 164) (pc' := 169) rfl (hb hby at_164) rfl ((if0 _ _).trans (feq (own_b10n hc164_38)).2) (by decide) (by decide) ?_
          show Steps p.tables e below (T28.setTop (mkF m 169 #[.val (.long q0), .second, .val (.long q1), .second, .val (.ref b1), .val (.ref b6), .val (.ref b13), .val (.int (if (0 : Int64) < q0 then (1 : Int32) else 0)), .val (.int (if (0 : Int64) < (-q0) then (1 : Int32) else 0)), .val (.int (if (0 : Int64) < q1 then (1 : Int32) else 0)), .unset, .unset] [])) _
          refine XS.iconst X28.here hx rfl (hb hby at_169) ?_
          show Steps p.tables e below (T28.setTop (mkF m 170 #[.val (.long q0), .second, .val (.long q1), .second, .val (.ref b1), .val (.ref b6), .val (.ref b13), .val (.int (if (0 : Int64) < q0 then (1 : Int32) else 0)), .val (.int (if (0 : Int64) < (-q0) then (1 : Int32) else 0)), .val (.int (if (0 : Int64) < q1 then (1 : Int32) else 0)), .unset, .unset] [(.int (1 : Int32))])) _
          exact retN X28 hx (t := .boolean) Bd.returns (by simp) (hb hby at_170) hr
        · show Q0 Z q0 q1 h0 n0 _ T28.heap _
          exact ⟨rfl, N28⟩
      · skip
        obtain ⟨fs, hr, hrun, hended, hW, hsame⟩ := X28.leave (v := some (.int (1 : Int32))) (fun h => by rw [Bd.returns] at h; cases h)
        refine ⟨_, _, pre36 _ ?_, hrun, hended, _, _, rfl, ?_, ⟨_, rfl⟩, hW, hsame.mono (by decide) (by decide)⟩
        · show Steps p.tables e below (T28.setTop (mkF m 159 #[.val (.long q0), .second, .val (.long q1), .second, .val (.ref b1), .val (.ref b6), .val (.ref b13), .val (.int (if (0 : Int64) < q0 then (1 : Int32) else 0)), .val (.int (if (0 : Int64) < (-q0) then (1 : Int32) else 0)), .val (.int (if (0 : Int64) < q1 then (1 : Int32) else 0)), .unset, .unset] [(.int (if (0 : Int64) < q0 then (1 : Int32) else 0))])) _
          refine XS.ifYes X28.here hx rfl (pc0 := 159) (pc' := 169) rfl (hb hby at_159) rfl ((if0 _ _).trans (teq (own_b10z hc159_37)).1) (by decide) (by decide) ?_
          show Steps p.tables e below (T28.setTop (mkF m 169 #[.val (.long q0), .second, .val (.long q1), .second, .val (.ref b1), .val (.ref b6), .val (.ref b13), .val (.int (if (0 : Int64) < q0 then (1 : Int32) else 0)), .val (.int (if (0 : Int64) < (-q0) then (1 : Int32) else 0)), .val (.int (if (0 : Int64) < q1 then (1 : Int32) else 0)), .unset, .unset] [])) _
          refine XS.iconst X28.here hx rfl (hb hby at_169) ?_
          show Steps p.tables e below (T28.setTop (mkF m 170 #[.val (.long q0), .second, .val (.long q1), .second, .val (.ref b1), .val (.ref b6), .val (.ref b13), .val (.int (if (0 : Int64) < q0 then (1 : Int32) else 0)), .val (.int (if (0 : Int64) < (-q0) then (1 : Int32) else 0)), .val (.int (if (0 : Int64) < q1 then (1 : Int32) else 0)), .unset, .unset] [(.int (1 : Int32))])) _
          exact retN X28 hx (t := .boolean) Bd.returns (by simp) (hb hby at_170) hr
        · show Q0 Z q0 q1 h0 n0 _ T28.heap _
          exact ⟨rfl, N28⟩
  · skip
    have hc146_39 : (((if (0 : Int64) < q0 then (1 : Int32) else 0) + (if (0 : Int64) < (-q0) then (1 : Int32) else 0)) + (if q0 = (0 : Int64) then (1 : Int32) else 0)) = (1 : Int32) := own_cnt _ hc93_33
    have pre40 : ∀ t, Steps p.tables e below (T28.setTop (mkF m 154 #[.val (.long q0), .second, .val (.long q1), .second, .val (.ref b1), .val (.ref b6), .val (.ref b13), .val (.int (if (0 : Int64) < q0 then (1 : Int32) else 0)), .val (.int (if (0 : Int64) < (-q0) then (1 : Int32) else 0)), .val (.int (if (0 : Int64) < q1 then (1 : Int32) else 0)), .val (.int (if q0 = (0 : Int64) then (1 : Int32) else 0)), .val (.int (((if (0 : Int64) < q0 then (1 : Int32) else 0) + (if (0 : Int64) < (-q0) then (1 : Int32) else 0)) + (if q0 = (0 : Int64) then (1 : Int32) else 0)))] [(.int (lcmpW q0 q1))])) t → Steps p.tables e below (s₁.setTop (entryFrame m #[(.long q0), (.long q1)] maxLocals)) t := by
      intro t kt
      refine pre32 _ ?_
      show Steps p.tables e below (T28.setTop (mkF m 93 #[.val (.long q0), .second, .val (.long q1), .second, .val (.ref b1), .val (.ref b6), .val (.ref b13), .val (.int (if (0 : Int64) < q0 then (1 : Int32) else 0)), .val (.int (if (0 : Int64) < (-q0) then (1 : Int32) else 0)), .val (.int (if (0 : Int64) < q1 then (1 : Int32) else 0)), .unset, .unset] [(.int (lcmpW q0 (-9223372036854775808 : Int64)))])) _
      refine XS.ifNo X28.here hx rfl (hb hby at_93) rfl ((if0 _ _).trans (feq (mt (lw_eq _ _).mp hc93_33)).1) ?_
      show Steps p.tables e below (T28.setTop (mkF m 96 #[.val (.long q0), .second, .val (.long q1), .second, .val (.ref b1), .val (.ref b6), .val (.ref b13), .val (.int (if (0 : Int64) < q0 then (1 : Int32) else 0)), .val (.int (if (0 : Int64) < (-q0) then (1 : Int32) else 0)), .val (.int (if (0 : Int64) < q1 then (1 : Int32) else 0)), .unset, .unset] [])) _
      refine XS.lloadN X28.here hx rfl (hb hby at_96) rfl ?_
      show Steps p.tables e below (T28.setTop (mkF m 97 #[.val (.long q0), .second, .val (.long q1), .second, .val (.ref b1), .val (.ref b6), .val (.ref b13), .val (.int (if (0 : Int64) < q0 then (1 : Int32) else 0)), .val (.int (if (0 : Int64) < (-q0) then (1 : Int32) else 0)), .val (.int (if (0 : Int64) < q1 then (1 : Int32) else 0)), .unset, .unset] [(.long q0)])) _
      refine XS.lconst X28.here hx rfl (hb hby at_97) ?_
      show Steps p.tables e below (T28.setTop (mkF m 98 #[.val (.long q0), .second, .val (.long q1), .second, .val (.ref b1), .val (.ref b6), .val (.ref b13), .val (.int (if (0 : Int64) < q0 then (1 : Int32) else 0)), .val (.int (if (0 : Int64) < (-q0) then (1 : Int32) else 0)), .val (.int (if (0 : Int64) < q1 then (1 : Int32) else 0)), .unset, .unset] [(.long (0 : Int64)), (.long q0)])) _
      refine XS.lcmp X28.here hx rfl (hb hby at_98) rfl ?_
      show Steps p.tables e below (T28.setTop (mkF m 99 #[.val (.long q0), .second, .val (.long q1), .second, .val (.ref b1), .val (.ref b6), .val (.ref b13), .val (.int (if (0 : Int64) < q0 then (1 : Int32) else 0)), .val (.int (if (0 : Int64) < (-q0) then (1 : Int32) else 0)), .val (.int (if (0 : Int64) < q1 then (1 : Int32) else 0)), .unset, .unset] [(.int (lcmpW q0 (0 : Int64)))])) _
      refine own_diaF X28.here hx rfl (pc0 := 99) rfl (hb hby at_99) (hb hby at_102) (hb hby at_103) (hb hby at_106) rfl (fun hq => ((if0 _ _).trans (teq ((lw_eq _ _).mpr hq)).2)) (fun hq => ((if0 _ _).trans (feq (mt (lw_eq _ _).mp hq)).2)) ?_
      show Steps p.tables e below (T28.setTop (mkF m 107 #[.val (.long q0), .second, .val (.long q1), .second, .val (.ref b1), .val (.ref b6), .val (.ref b13), .val (.int (if (0 : Int64) < q0 then (1 : Int32) else 0)), .val (.int (if (0 : Int64) < (-q0) then (1 : Int32) else 0)), .val (.int (if (0 : Int64) < q1 then (1 : Int32) else 0)), .unset, .unset] [(.int (if q0 = (0 : Int64) then (1 : Int32) else 0))])) _
      refine XS.istore X28.here hx rfl (hb hby at_107) rfl (l' := #[.val (.long q0), .second, .val (.long q1), .second, .val (.ref b1), .val (.ref b6), .val (.ref b13), .val (.int (if (0 : Int64) < q0 then (1 : Int32) else 0)), .val (.int (if (0 : Int64) < (-q0) then (1 : Int32) else 0)), .val (.int (if (0 : Int64) < q1 then (1 : Int32) else 0)), .val (.int (if q0 = (0 : Int64) then (1 : Int32) else 0)), .unset]) rfl ?_
      show Steps p.tables e below (T28.setTop (mkF m 109 #[.val (.long q0), .second, .val (.long q1), .second, .val (.ref b1), .val (.ref b6), .val (.ref b13), .val (.int (if (0 : Int64) < q0 then (1 : Int32) else 0)), .val (.int (if (0 : Int64) < (-q0) then (1 : Int32) else 0)), .val (.int (if (0 : Int64) < q1 then (1 : Int32) else 0)), .val (.int (if q0 = (0 : Int64) then (1 : Int32) else 0)), .unset] [])) _
      refine XS.iload X28.here hx rfl (hb hby at_109) rfl ?_
      show Steps p.tables e below (T28.setTop (mkF m 111 #[.val (.long q0), .second, .val (.long q1), .second, .val (.ref b1), .val (.ref b6), .val (.ref b13), .val (.int (if (0 : Int64) < q0 then (1 : Int32) else 0)), .val (.int (if (0 : Int64) < (-q0) then (1 : Int32) else 0)), .val (.int (if (0 : Int64) < q1 then (1 : Int32) else 0)), .val (.int (if q0 = (0 : Int64) then (1 : Int32) else 0)), .unset] [(.int (if (0 : Int64) < q0 then (1 : Int32) else 0))])) _
      refine own_diaF X28.here hx rfl (pc0 := 111) rfl (hb hby at_111) (hb hby at_114) (hb hby at_115) (hb hby at_118) rfl (fun hq => ((if0 _ _).trans (feq (own_b10n hq)).1)) (fun hq => ((if0 _ _).trans (teq (own_b10z hq)).1)) ?_
      show Steps p.tables e below (T28.setTop (mkF m 119 #[.val (.long q0), .second, .val (.long q1), .second, .val (.ref b1), .val (.ref b6), .val (.ref b13), .val (.int (if (0 : Int64) < q0 then (1 : Int32) else 0)), .val (.int (if (0 : Int64) < (-q0) then (1 : Int32) else 0)), .val (.int (if (0 : Int64) < q1 then (1 : Int32) else 0)), .val (.int (if q0 = (0 : Int64) then (1 : Int32) else 0)), .unset] [(.int (if (0 : Int64) < q0 then (1 : Int32) else 0))])) _
      refine XS.iload X28.here hx rfl (hb hby at_119) rfl ?_
      show Steps p.tables e below (T28.setTop (mkF m 121 #[.val (.long q0), .second, .val (.long q1), .second, .val (.ref b1), .val (.ref b6), .val (.ref b13), .val (.int (if (0 : Int64) < q0 then (1 : Int32) else 0)), .val (.int (if (0 : Int64) < (-q0) then (1 : Int32) else 0)), .val (.int (if (0 : Int64) < q1 then (1 : Int32) else 0)), .val (.int (if q0 = (0 : Int64) then (1 : Int32) else 0)), .unset] [(.int (if (0 : Int64) < (-q0) then (1 : Int32) else 0)), (.int (if (0 : Int64) < q0 then (1 : Int32) else 0))])) _
      refine own_diaF X28.here hx rfl (pc0 := 121) rfl (hb hby at_121) (hb hby at_124) (hb hby at_125) (hb hby at_128) rfl (fun hq => ((if0 _ _).trans (feq (own_b10n hq)).1)) (fun hq => ((if0 _ _).trans (teq (own_b10z hq)).1)) ?_
      show Steps p.tables e below (T28.setTop (mkF m 129 #[.val (.long q0), .second, .val (.long q1), .second, .val (.ref b1), .val (.ref b6), .val (.ref b13), .val (.int (if (0 : Int64) < q0 then (1 : Int32) else 0)), .val (.int (if (0 : Int64) < (-q0) then (1 : Int32) else 0)), .val (.int (if (0 : Int64) < q1 then (1 : Int32) else 0)), .val (.int (if q0 = (0 : Int64) then (1 : Int32) else 0)), .unset] [(.int (if (0 : Int64) < (-q0) then (1 : Int32) else 0)), (.int (if (0 : Int64) < q0 then (1 : Int32) else 0))])) _
      refine XS.iadd X28.here hx rfl (hb hby at_129) rfl ?_
      show Steps p.tables e below (T28.setTop (mkF m 130 #[.val (.long q0), .second, .val (.long q1), .second, .val (.ref b1), .val (.ref b6), .val (.ref b13), .val (.int (if (0 : Int64) < q0 then (1 : Int32) else 0)), .val (.int (if (0 : Int64) < (-q0) then (1 : Int32) else 0)), .val (.int (if (0 : Int64) < q1 then (1 : Int32) else 0)), .val (.int (if q0 = (0 : Int64) then (1 : Int32) else 0)), .unset] [(.int ((if (0 : Int64) < q0 then (1 : Int32) else 0) + (if (0 : Int64) < (-q0) then (1 : Int32) else 0)))])) _
      refine XS.iload X28.here hx rfl (hb hby at_130) rfl ?_
      show Steps p.tables e below (T28.setTop (mkF m 132 #[.val (.long q0), .second, .val (.long q1), .second, .val (.ref b1), .val (.ref b6), .val (.ref b13), .val (.int (if (0 : Int64) < q0 then (1 : Int32) else 0)), .val (.int (if (0 : Int64) < (-q0) then (1 : Int32) else 0)), .val (.int (if (0 : Int64) < q1 then (1 : Int32) else 0)), .val (.int (if q0 = (0 : Int64) then (1 : Int32) else 0)), .unset] [(.int (if q0 = (0 : Int64) then (1 : Int32) else 0)), (.int ((if (0 : Int64) < q0 then (1 : Int32) else 0) + (if (0 : Int64) < (-q0) then (1 : Int32) else 0)))])) _
      refine own_diaF X28.here hx rfl (pc0 := 132) rfl (hb hby at_132) (hb hby at_135) (hb hby at_136) (hb hby at_139) rfl (fun hq => ((if0 _ _).trans (feq (own_b10n hq)).1)) (fun hq => ((if0 _ _).trans (teq (own_b10z hq)).1)) ?_
      show Steps p.tables e below (T28.setTop (mkF m 140 #[.val (.long q0), .second, .val (.long q1), .second, .val (.ref b1), .val (.ref b6), .val (.ref b13), .val (.int (if (0 : Int64) < q0 then (1 : Int32) else 0)), .val (.int (if (0 : Int64) < (-q0) then (1 : Int32) else 0)), .val (.int (if (0 : Int64) < q1 then (1 : Int32) else 0)), .val (.int (if q0 = (0 : Int64) then (1 : Int32) else 0)), .unset] [(.int (if q0 = (0 : Int64) then (1 : Int32) else 0)), (.int ((if (0 : Int64) < q0 then (1 : Int32) else 0) + (if (0 : Int64) < (-q0) then (1 : Int32) else 0)))])) _
      refine XS.iadd X28.here hx rfl (hb hby at_140) rfl ?_
      show Steps p.tables e below (T28.setTop (mkF m 141 #[.val (.long q0), .second, .val (.long q1), .second, .val (.ref b1), .val (.ref b6), .val (.ref b13), .val (.int (if (0 : Int64) < q0 then (1 : Int32) else 0)), .val (.int (if (0 : Int64) < (-q0) then (1 : Int32) else 0)), .val (.int (if (0 : Int64) < q1 then (1 : Int32) else 0)), .val (.int (if q0 = (0 : Int64) then (1 : Int32) else 0)), .unset] [(.int (((if (0 : Int64) < q0 then (1 : Int32) else 0) + (if (0 : Int64) < (-q0) then (1 : Int32) else 0)) + (if q0 = (0 : Int64) then (1 : Int32) else 0)))])) _
      refine XS.istore X28.here hx rfl (hb hby at_141) rfl (l' := #[.val (.long q0), .second, .val (.long q1), .second, .val (.ref b1), .val (.ref b6), .val (.ref b13), .val (.int (if (0 : Int64) < q0 then (1 : Int32) else 0)), .val (.int (if (0 : Int64) < (-q0) then (1 : Int32) else 0)), .val (.int (if (0 : Int64) < q1 then (1 : Int32) else 0)), .val (.int (if q0 = (0 : Int64) then (1 : Int32) else 0)), .val (.int (((if (0 : Int64) < q0 then (1 : Int32) else 0) + (if (0 : Int64) < (-q0) then (1 : Int32) else 0)) + (if q0 = (0 : Int64) then (1 : Int32) else 0)))]) rfl ?_
      show Steps p.tables e below (T28.setTop (mkF m 143 #[.val (.long q0), .second, .val (.long q1), .second, .val (.ref b1), .val (.ref b6), .val (.ref b13), .val (.int (if (0 : Int64) < q0 then (1 : Int32) else 0)), .val (.int (if (0 : Int64) < (-q0) then (1 : Int32) else 0)), .val (.int (if (0 : Int64) < q1 then (1 : Int32) else 0)), .val (.int (if q0 = (0 : Int64) then (1 : Int32) else 0)), .val (.int (((if (0 : Int64) < q0 then (1 : Int32) else 0) + (if (0 : Int64) < (-q0) then (1 : Int32) else 0)) + (if q0 = (0 : Int64) then (1 : Int32) else 0)))] [])) _
      refine XS.iload X28.here hx rfl (hb hby at_143) rfl ?_
      show Steps p.tables e below (T28.setTop (mkF m 145 #[.val (.long q0), .second, .val (.long q1), .second, .val (.ref b1), .val (.ref b6), .val (.ref b13), .val (.int (if (0 : Int64) < q0 then (1 : Int32) else 0)), .val (.int (if (0 : Int64) < (-q0) then (1 : Int32) else 0)), .val (.int (if (0 : Int64) < q1 then (1 : Int32) else 0)), .val (.int (if q0 = (0 : Int64) then (1 : Int32) else 0)), .val (.int (((if (0 : Int64) < q0 then (1 : Int32) else 0) + (if (0 : Int64) < (-q0) then (1 : Int32) else 0)) + (if q0 = (0 : Int64) then (1 : Int32) else 0)))] [(.int (((if (0 : Int64) < q0 then (1 : Int32) else 0) + (if (0 : Int64) < (-q0) then (1 : Int32) else 0)) + (if q0 = (0 : Int64) then (1 : Int32) else 0)))])) _
      refine XS.iconst X28.here hx rfl (hb hby at_145) ?_
      show Steps p.tables e below (T28.setTop (mkF m 146 #[.val (.long q0), .second, .val (.long q1), .second, .val (.ref b1), .val (.ref b6), .val (.ref b13), .val (.int (if (0 : Int64) < q0 then (1 : Int32) else 0)), .val (.int (if (0 : Int64) < (-q0) then (1 : Int32) else 0)), .val (.int (if (0 : Int64) < q1 then (1 : Int32) else 0)), .val (.int (if q0 = (0 : Int64) then (1 : Int32) else 0)), .val (.int (((if (0 : Int64) < q0 then (1 : Int32) else 0) + (if (0 : Int64) < (-q0) then (1 : Int32) else 0)) + (if q0 = (0 : Int64) then (1 : Int32) else 0)))] [(.int (1 : Int32)), (.int (((if (0 : Int64) < q0 then (1 : Int32) else 0) + (if (0 : Int64) < (-q0) then (1 : Int32) else 0)) + (if q0 = (0 : Int64) then (1 : Int32) else 0)))])) _
      refine XS.icmpYes X28.here hx rfl (pc0 := 146) (pc' := 151) rfl (hb hby at_146) rfl (teq hc146_39).1 (by decide) (by decide) ?_
      show Steps p.tables e below (T28.setTop (mkF m 151 #[.val (.long q0), .second, .val (.long q1), .second, .val (.ref b1), .val (.ref b6), .val (.ref b13), .val (.int (if (0 : Int64) < q0 then (1 : Int32) else 0)), .val (.int (if (0 : Int64) < (-q0) then (1 : Int32) else 0)), .val (.int (if (0 : Int64) < q1 then (1 : Int32) else 0)), .val (.int (if q0 = (0 : Int64) then (1 : Int32) else 0)), .val (.int (((if (0 : Int64) < q0 then (1 : Int32) else 0) + (if (0 : Int64) < (-q0) then (1 : Int32) else 0)) + (if q0 = (0 : Int64) then (1 : Int32) else 0)))] [])) _
      refine XS.lloadN X28.here hx rfl (hb hby at_151) rfl ?_
      show Steps p.tables e below (T28.setTop (mkF m 152 #[.val (.long q0), .second, .val (.long q1), .second, .val (.ref b1), .val (.ref b6), .val (.ref b13), .val (.int (if (0 : Int64) < q0 then (1 : Int32) else 0)), .val (.int (if (0 : Int64) < (-q0) then (1 : Int32) else 0)), .val (.int (if (0 : Int64) < q1 then (1 : Int32) else 0)), .val (.int (if q0 = (0 : Int64) then (1 : Int32) else 0)), .val (.int (((if (0 : Int64) < q0 then (1 : Int32) else 0) + (if (0 : Int64) < (-q0) then (1 : Int32) else 0)) + (if q0 = (0 : Int64) then (1 : Int32) else 0)))] [(.long q0)])) _
      refine XS.lloadN X28.here hx rfl (hb hby at_152) rfl ?_
      show Steps p.tables e below (T28.setTop (mkF m 153 #[.val (.long q0), .second, .val (.long q1), .second, .val (.ref b1), .val (.ref b6), .val (.ref b13), .val (.int (if (0 : Int64) < q0 then (1 : Int32) else 0)), .val (.int (if (0 : Int64) < (-q0) then (1 : Int32) else 0)), .val (.int (if (0 : Int64) < q1 then (1 : Int32) else 0)), .val (.int (if q0 = (0 : Int64) then (1 : Int32) else 0)), .val (.int (((if (0 : Int64) < q0 then (1 : Int32) else 0) + (if (0 : Int64) < (-q0) then (1 : Int32) else 0)) + (if q0 = (0 : Int64) then (1 : Int32) else 0)))] [(.long q1), (.long q0)])) _
      refine XS.lcmp X28.here hx rfl (hb hby at_153) rfl ?_
      exact kt
    by_cases hc154_41 : q1 < q0
    · skip
      obtain ⟨fs, hr, hrun, hended, hW, hsame⟩ := X28.leave (v := some (.int (1 : Int32))) (fun h => by rw [Bd.returns] at h; cases h)
      refine ⟨_, _, pre40 _ ?_, hrun, hended, _, _, rfl, ?_, ⟨_, rfl⟩, hW, hsame.mono (by decide) (by decide)⟩
      · show Steps p.tables e below (T28.setTop (mkF m 154 #[.val (.long q0), .second, .val (.long q1), .second, .val (.ref b1), .val (.ref b6), .val (.ref b13), .val (.int (if (0 : Int64) < q0 then (1 : Int32) else 0)), .val (.int (if (0 : Int64) < (-q0) then (1 : Int32) else 0)), .val (.int (if (0 : Int64) < q1 then (1 : Int32) else 0)), .val (.int (if q0 = (0 : Int64) then (1 : Int32) else 0)), .val (.int (((if (0 : Int64) < q0 then (1 : Int32) else 0) + (if (0 : Int64) < (-q0) then (1 : Int32) else 0)) + (if q0 = (0 : Int64) then (1 : Int32) else 0)))] [(.int (lcmpW q0 q1))])) _
        refine XS.ifYes X28.here hx rfl (pc0 := 154) (pc' := 169) rfl (hb hby at_154) rfl ((if0 _ _).trans (tlt ((lw_gt _ _).mpr hc154_41)).2.2.1) (by decide) (by decide) ?_
        show Steps p.tables e below (T28.setTop (mkF m 169 #[.val (.long q0), .second, .val (.long q1), .second, .val (.ref b1), .val (.ref b6), .val (.ref b13), .val (.int (if (0 : Int64) < q0 then (1 : Int32) else 0)), .val (.int (if (0 : Int64) < (-q0) then (1 : Int32) else 0)), .val (.int (if (0 : Int64) < q1 then (1 : Int32) else 0)), .val (.int (if q0 = (0 : Int64) then (1 : Int32) else 0)), .val (.int (((if (0 : Int64) < q0 then (1 : Int32) else 0) + (if (0 : Int64) < (-q0) then (1 : Int32) else 0)) + (if q0 = (0 : Int64) then (1 : Int32) else 0)))] [])) _
        refine XS.iconst X28.here hx rfl (hb hby at_169) ?_
        show Steps p.tables e below (T28.setTop (mkF m 170 #[.val (.long q0), .second, .val (.long q1), .second, .val (.ref b1), .val (.ref b6), .val (.ref b13), .val (.int (if (0 : Int64) < q0 then (1 : Int32) else 0)), .val (.int (if (0 : Int64) < (-q0) then (1 : Int32) else 0)), .val (.int (if (0 : Int64) < q1 then (1 : Int32) else 0)), .val (.int (if q0 = (0 : Int64) then (1 : Int32) else 0)), .val (.int (((if (0 : Int64) < q0 then (1 : Int32) else 0) + (if (0 : Int64) < (-q0) then (1 : Int32) else 0)) + (if q0 = (0 : Int64) then (1 : Int32) else 0)))] [(.int (1 : Int32))])) _
        exact retN X28 hx (t := .boolean) Bd.returns (by simp) (hb hby at_170) hr
      · show Q0 Z q0 q1 h0 n0 _ T28.heap _
        exact ⟨rfl, N28⟩
    · skip
      have pre42 : ∀ t, Steps p.tables e below (T28.setTop (mkF m 159 #[.val (.long q0), .second, .val (.long q1), .second, .val (.ref b1), .val (.ref b6), .val (.ref b13), .val (.int (if (0 : Int64) < q0 then (1 : Int32) else 0)), .val (.int (if (0 : Int64) < (-q0) then (1 : Int32) else 0)), .val (.int (if (0 : Int64) < q1 then (1 : Int32) else 0)), .val (.int (if q0 = (0 : Int64) then (1 : Int32) else 0)), .val (.int (((if (0 : Int64) < q0 then (1 : Int32) else 0) + (if (0 : Int64) < (-q0) then (1 : Int32) else 0)) + (if q0 = (0 : Int64) then (1 : Int32) else 0)))] [(.int (if (0 : Int64) < q0 then (1 : Int32) else 0))])) t → Steps p.tables e below (s₁.setTop (entryFrame m #[(.long q0), (.long q1)] maxLocals)) t := by
        intro t kt
        refine pre40 _ ?_
        show Steps p.tables e below (T28.setTop (mkF m 154 #[.val (.long q0), .second, .val (.long q1), .second, .val (.ref b1), .val (.ref b6), .val (.ref b13), .val (.int (if (0 : Int64) < q0 then (1 : Int32) else 0)), .val (.int (if (0 : Int64) < (-q0) then (1 : Int32) else 0)), .val (.int (if (0 : Int64) < q1 then (1 : Int32) else 0)), .val (.int (if q0 = (0 : Int64) then (1 : Int32) else 0)), .val (.int (((if (0 : Int64) < q0 then (1 : Int32) else 0) + (if (0 : Int64) < (-q0) then (1 : Int32) else 0)) + (if q0 = (0 : Int64) then (1 : Int32) else 0)))] [(.int (lcmpW q0 q1))])) _
        refine XS.ifNo X28.here hx rfl (hb hby at_154) rfl ((if0 _ _).trans (flt (mt (lw_gt _ _).mp hc154_41)).2.2.1) ?_
        show Steps p.tables e below (T28.setTop (mkF m 157 #[.val (.long q0), .second, .val (.long q1), .second, .val (.ref b1), .val (.ref b6), .val (.ref b13), .val (.int (if (0 : Int64) < q0 then (1 : Int32) else 0)), .val (.int (if (0 : Int64) < (-q0) then (1 : Int32) else 0)), .val (.int (if (0 : Int64) < q1 then (1 : Int32) else 0)), .val (.int (if q0 = (0 : Int64) then (1 : Int32) else 0)), .val (.int (((if (0 : Int64) < q0 then (1 : Int32) else 0) + (if (0 : Int64) < (-q0) then (1 : Int32) else 0)) + (if q0 = (0 : Int64) then (1 : Int32) else 0)))] [])) _
        refine XS.iload X28.here hx rfl (hb hby at_157) rfl ?_
        exact kt
      by_cases hc159_43 : (0 : Int64) < q0
      · skip
        have hc164_44 : (0 : Int64) < q1 := own_up hc154_41 hc159_43
        obtain ⟨fs, hr, hrun, hended, hW, hsame⟩ := X28.leave (v := some (.int (1 : Int32))) (fun h => by rw [Bd.returns] at h; cases h)
        refine ⟨_, _, pre42 _ ?_, hrun, hended, _, _, rfl, ?_, ⟨_, rfl⟩, hW, hsame.mono (by decide) (by decide)⟩
        · show Steps p.tables e below (T28.setTop (mkF m 159 #[.val (.long q0), .second, .val (.long q1), .second, .val (.ref b1), .val (.ref b6), .val (.ref b13), .val (.int (if (0 : Int64) < q0 then (1 : Int32) else 0)), .val (.int (if (0 : Int64) < (-q0) then (1 : Int32) else 0)), .val (.int (if (0 : Int64) < q1 then (1 : Int32) else 0)), .val (.int (if q0 = (0 : Int64) then (1 : Int32) else 0)), .val (.int (((if (0 : Int64) < q0 then (1 : Int32) else 0) + (if (0 : Int64) < (-q0) then (1 : Int32) else 0)) + (if q0 = (0 : Int64) then (1 : Int32) else 0)))] [(.int (if (0 : Int64) < q0 then (1 : Int32) else 0))])) _
          refine XS.ifNo X28.here hx rfl (hb hby at_159) rfl ((if0 _ _).trans (feq (own_b10n hc159_43)).1) ?_
          show Steps p.tables e below (T28.setTop (mkF m 162 #[.val (.long q0), .second, .val (.long q1), .second, .val (.ref b1), .val (.ref b6), .val (.ref b13), .val (.int (if (0 : Int64) < q0 then (1 : Int32) else 0)), .val (.int (if (0 : Int64) < (-q0) then (1 : Int32) else 0)), .val (.int (if (0 : Int64) < q1 then (1 : Int32) else 0)), .val (.int (if q0 = (0 : Int64) then (1 : Int32) else 0)), .val (.int (((if (0 : Int64) < q0 then (1 : Int32) else 0) + (if (0 : Int64) < (-q0) then (1 : Int32) else 0)) + (if q0 = (0 : Int64) then (1 : Int32) else 0)))] [])) _
          refine XS.iload X28.here hx rfl (hb hby at_162) rfl ?_
          show Steps p.tables e below (T28.setTop (mkF m 164 #[.val (.long q0), .second, .val (.long q1), .second, .val (.ref b1), .val (.ref b6), .val (.ref b13), .val (.int (if (0 : Int64) < q0 then (1 : Int32) else 0)), .val (.int (if (0 : Int64) < (-q0) then (1 : Int32) else 0)), .val (.int (if (0 : Int64) < q1 then (1 : Int32) else 0)), .val (.int (if q0 = (0 : Int64) then (1 : Int32) else 0)), .val (.int (((if (0 : Int64) < q0 then (1 : Int32) else 0) + (if (0 : Int64) < (-q0) then (1 : Int32) else 0)) + (if q0 = (0 : Int64) then (1 : Int32) else 0)))] [(.int (if (0 : Int64) < q1 then (1 : Int32) else 0))])) _
          refine XS.ifYes X28.here hx rfl (pc0 := 164) (pc' := 169) rfl (hb hby at_164) rfl ((if0 _ _).trans (feq (own_b10n hc164_44)).2) (by decide) (by decide) ?_
          show Steps p.tables e below (T28.setTop (mkF m 169 #[.val (.long q0), .second, .val (.long q1), .second, .val (.ref b1), .val (.ref b6), .val (.ref b13), .val (.int (if (0 : Int64) < q0 then (1 : Int32) else 0)), .val (.int (if (0 : Int64) < (-q0) then (1 : Int32) else 0)), .val (.int (if (0 : Int64) < q1 then (1 : Int32) else 0)), .val (.int (if q0 = (0 : Int64) then (1 : Int32) else 0)), .val (.int (((if (0 : Int64) < q0 then (1 : Int32) else 0) + (if (0 : Int64) < (-q0) then (1 : Int32) else 0)) + (if q0 = (0 : Int64) then (1 : Int32) else 0)))] [])) _
          refine XS.iconst X28.here hx rfl (hb hby at_169) ?_
          show Steps p.tables e below (T28.setTop (mkF m 170 #[.val (.long q0), .second, .val (.long q1), .second, .val (.ref b1), .val (.ref b6), .val (.ref b13), .val (.int (if (0 : Int64) < q0 then (1 : Int32) else 0)), .val (.int (if (0 : Int64) < (-q0) then (1 : Int32) else 0)), .val (.int (if (0 : Int64) < q1 then (1 : Int32) else 0)), .val (.int (if q0 = (0 : Int64) then (1 : Int32) else 0)), .val (.int (((if (0 : Int64) < q0 then (1 : Int32) else 0) + (if (0 : Int64) < (-q0) then (1 : Int32) else 0)) + (if q0 = (0 : Int64) then (1 : Int32) else 0)))] [(.int (1 : Int32))])) _
          exact retN X28 hx (t := .boolean) Bd.returns (by simp) (hb hby at_170) hr
        · show Q0 Z q0 q1 h0 n0 _ T28.heap _
          exact ⟨rfl, N28⟩
      · skip
        obtain ⟨fs, hr, hrun, hended, hW, hsame⟩ := X28.leave (v := some (.int (1 : Int32))) (fun h => by rw [Bd.returns] at h; cases h)
        refine ⟨_, _, pre42 _ ?_, hrun, hended, _, _, rfl, ?_, ⟨_, rfl⟩, hW, hsame.mono (by decide) (by decide)⟩
        · show Steps p.tables e below (T28.setTop (mkF m 159 #[.val (.long q0), .second, .val (.long q1), .second, .val (.ref b1), .val (.ref b6), .val (.ref b13), .val (.int (if (0 : Int64) < q0 then (1 : Int32) else 0)), .val (.int (if (0 : Int64) < (-q0) then (1 : Int32) else 0)), .val (.int (if (0 : Int64) < q1 then (1 : Int32) else 0)), .val (.int (if q0 = (0 : Int64) then (1 : Int32) else 0)), .val (.int (((if (0 : Int64) < q0 then (1 : Int32) else 0) + (if (0 : Int64) < (-q0) then (1 : Int32) else 0)) + (if q0 = (0 : Int64) then (1 : Int32) else 0)))] [(.int (if (0 : Int64) < q0 then (1 : Int32) else 0))])) _
          refine XS.ifYes X28.here hx rfl (pc0 := 159) (pc' := 169) rfl (hb hby at_159) rfl ((if0 _ _).trans (teq (own_b10z hc159_43)).1) (by decide) (by decide) ?_
          show Steps p.tables e below (T28.setTop (mkF m 169 #[.val (.long q0), .second, .val (.long q1), .second, .val (.ref b1), .val (.ref b6), .val (.ref b13), .val (.int (if (0 : Int64) < q0 then (1 : Int32) else 0)), .val (.int (if (0 : Int64) < (-q0) then (1 : Int32) else 0)), .val (.int (if (0 : Int64) < q1 then (1 : Int32) else 0)), .val (.int (if q0 = (0 : Int64) then (1 : Int32) else 0)), .val (.int (((if (0 : Int64) < q0 then (1 : Int32) else 0) + (if (0 : Int64) < (-q0) then (1 : Int32) else 0)) + (if q0 = (0 : Int64) then (1 : Int32) else 0)))] [])) _
          refine XS.iconst X28.here hx rfl (hb hby at_169) ?_
          show Steps p.tables e below (T28.setTop (mkF m 170 #[.val (.long q0), .second, .val (.long q1), .second, .val (.ref b1), .val (.ref b6), .val (.ref b13), .val (.int (if (0 : Int64) < q0 then (1 : Int32) else 0)), .val (.int (if (0 : Int64) < (-q0) then (1 : Int32) else 0)), .val (.int (if (0 : Int64) < q1 then (1 : Int32) else 0)), .val (.int (if q0 = (0 : Int64) then (1 : Int32) else 0)), .val (.int (((if (0 : Int64) < q0 then (1 : Int32) else 0) + (if (0 : Int64) < (-q0) then (1 : Int32) else 0)) + (if q0 = (0 : Int64) then (1 : Int32) else 0)))] [(.int (1 : Int32))])) _
          exact retN X28 hx (t := .boolean) Bd.returns (by simp) (hb hby at_170) hr
        · show Q0 Z q0 q1 h0 n0 _ T28.heap _
          exact ⟨rfl, N28⟩
set_option maxRecDepth 65536 in
set_option maxHeartbeats 40000000 in
theorem comes_1 {Post : Tables → Env → Array Value → State → Outcome → State → Prop} (hpost : ∀ tb e args s v u, (limb_1_1.after args s (.returned v) u = true ∧ limb_1_2.after args s (.returned v) u = true ∧ True) → FrameEnd s (.returned v) u (Jvm.fieldLocs frame_1_writes args s ++ Jvm.arrayLocs frame_1_arrays args s ++ Jvm.staticLocs frame_1_statics s) 16 128 → Post tb e args s (.returned v) u) :
    ArmFor flags0 classFile x code maxLocals ret World_1 tables_1 room_1 Calls_1 rest_1 Pre_1 Post := by
  intro l hfl _ _ p e ha hc hk s m args below hf hA hF happ hP
  obtain ⟨hcalls, hrest, hpre⟩ := hP
  obtain ⟨-, -, -, hnamed, -, -, -, hat⟩ := (Spec.applies_iff hf).mp happ
  obtain ⟨hg, hn⟩ := and_e (Cond.before_iff.mp (show (Jvm.Cond.and given_1 narrow_1).before args s = true from hpre))
  obtain ⟨g1, g2⟩ := and_e hg
  obtain ⟨g3, g4⟩ := and_e g2
  obtain ⟨w0, w1, rfl⟩ : ∃ w0 w1 : Value, args = #[w0, w1] := by
    have hs : args.size = 2 := by simpa [Cond.value, given_1] using g1
    obtain ⟨L⟩ := args
    match L, hs with
    | [w0, w1], _ => exact ⟨w0, w1, rfl⟩
  have hw := fun d (hd : d ∈ tables_1) => atoms_spec (ws := Jvm.Cond.code x code maxLocals ret :: tables_1) hat d (List.mem_cons_of_mem _ hd)
  have hfit : Fit s := fun {y c} hc i hi => by
    obtain ⟨ha, rfl⟩ := Array.getElem?_eq_some_iff.mp hc
    have q := List.all_eq_true.mp ((Array.all_eq_true_iff_forall_mem.mp hF) _ (Array.getElem_mem ha)) i (List.mem_range.mpr hi)
    simpa [Array.getElem?_eq_getElem hi] using q
  obtain ⟨i0, ei0⟩ := isL_v g3
  obtain rfl : w0 = (.long i0) := Option.some.inj ei0
  obtain ⟨i1, ei1⟩ := isL_v g4
  obtain rfl : w1 = (.long i1) := Option.some.inj ei1
  obtain ⟨n, o, h1, h2, h3, _, L, rfl, ⟨rfl, N⟩, hq⟩ := rm0 l s _ hw tables_1 i0 i1 s.heap s.heap.size (Nat.le_refl _) p e ha hc hk s m _ below hf ((Spec.applies_iff_loose hf).mp happ).1 ⟨rfl, State.Warmed39.refl s, rfl⟩ trivial
  refine ⟨n, _, h1, h2, h3, hpost _ _ _ _ _ _ ⟨Cond.after_iff.mpr rfl, Cond.after_iff.mpr (eq_i res_at (Term.int_eval (1)) rfl), trivial⟩ ⟨hq.1, hq.2.1, (hq.2.2.sift fun y hy => Or.inr (N y hy)).mono (by decide) (by decide)⟩⟩
theorem main_1_1 : Claimed_1_1 := comes_1 fun _ _ _ _ _ _ h hF => ⟨h.1, hF⟩
theorem main_1_2 : Claimed_1_2 := comes_1 fun _ _ _ _ _ _ h hF => ⟨h.2.1, hF⟩
end Jvm.Pilot.@@N@@
namespace Jvm.Pilot.@@N@@
open Jvm Jvm.ClassFile Sem Op Lib Jvm.Free Jvm.Stand Jvm.Pilot.@@N@@.Jvm.D
/-! MADE BY PROGRAM (witnessworld.py) out of the Statement's table words and the real class files: 10 classes; the members and pool entries that the words name. The judged class is class 1, her method 1. -/
namespace start1
open Jvm.ClassFile
def u (s : String) : CpInfo := .utf8 (stringToUtf16 s)
/-- a pool by its gaps: so many unusable entries, then the entry; so many at the end -/
def gap : Nat → List CpInfo → List CpInfo
  | 0, r => r
  | n + 1, r => .unusable :: gap n r
def poolList (es : List (Nat × CpInfo)) (last : Nat) : List CpInfo := es.foldr (fun e r => gap e.1 (e.2 :: r)) (gap last [])
def pool (es : List (Nat × CpInfo)) (last : Nat) : Array CpInfo := ⟨poolList es last⟩
def fileOf (pool : Array CpInfo) (this : Nat) (attrs : Array Attribute := #[]) (ms : Array MethodInfo := #[]) (fl : Nat := 33) (sup : Nat := 0) (ifs : Array Nat := #[]) (fds : Array FieldInfo := #[]) : ClassFile where
  minorVersion := 0
  majorVersion := 65
  constantPool := pool
  accessFlags := fl
  thisClass := this
  superClass := sup
  interfaces := ifs
  fields := fds
  methods := ms
  attributes := attrs
def plain (name : String) (sup : Option ClassId) : Class where
  name := name
  kind := .ordinary
  loader := none
  accessFlags := 33
  super := sup
  interfaces := #[]
  cf := none
  fields := #[]
  methods := #[]
  instanceTypes := #[]
  staticTypes := #[]
  resolved := #[]
  callSites := []
  init := .initialized
  statics := none
  mirror := none

def pool0 : Array CpInfo := pool [(5, u "<init>"), (0, u "()V"), (1, .class_ 10), (1, u "java/lang/Object")] 113

def k0c0 : Code := { maxStack := 0, maxLocals := 1, code := object_method_1_code, exceptionTable := #[], attributes := #[] }
def k0m0 : Method := { name := "<init>", desc := "()V", sig := { parameters := [], returnType := none }, accessFlags := 1, code := some k0c0 }
/-- java/lang/Object -/
def k0 : Class := { plain "java/lang/Object" none with
  accessFlags := 33
  interfaces := #[]
  cf := some (fileOf pool0 8 #[] #[{ accessFlags := 1, nameIndex := 5, descriptorIndex := 6, attributes := #[] }] 33 0 #[] #[])
  fields := #[]
  methods := #[k0m0]
  instanceTypes := #[]
  staticTypes := #[]
  resolved := Array.replicate 124 none
  statics := none }

def pool1 : Array CpInfo := pool [(2, .class_ 4), (1, u "java/lang/Object"), (0, u "<init>"), (0, u "()V"), (0, .class_ 8), (0, u "com/example/scratchdraw/scratchdraw/figures/Money"), (0, .methodref 7 10), (0, .nameAndType 5 11), (0, u "(J)V"), (0, .methodref 7 13), (0, .nameAndType 14 15), (0, u "isPositive"), (0, u "()Z"), (2, .long 9223372036854775808), (1, .class_ 21), (0, u "com/example/scratchdraw/scratchdraw/figures/MoneyIsPositivePinLaw"), (2, u "law"), (0, u "(JJ)Z")] 3

def k1m0 : Method := { name := "<init>", desc := "()V", sig := { parameters := [], returnType := none }, accessFlags := 1, code := none }
def k1c1 : Code := { maxStack := 5, maxLocals := 12, code := code, exceptionTable := #[], attributes := #[] }
def k1m1 : Method := { name := "law", desc := "(JJ)Z", sig := { parameters := [.long, .long], returnType := some .boolean }, accessFlags := 9, code := some k1c1 }
/-- com/example/scratchdraw/scratchdraw/figures/MoneyIsPositivePinLaw -/
def k1 : Class := { plain "com/example/scratchdraw/scratchdraw/figures/MoneyIsPositivePinLaw" (some 0) with
  accessFlags := 49
  interfaces := #[]
  cf := some (fileOf pool1 20 #[] #[{ accessFlags := 1, nameIndex := 5, descriptorIndex := 6, attributes := #[] }, { accessFlags := 9, nameIndex := 24, descriptorIndex := 25, attributes := #[] }] 49 2 #[] #[])
  fields := #[]
  methods := #[k1m0, k1m1]
  instanceTypes := #[]
  staticTypes := #[]
  resolved := Array.replicate 29 none
  statics := none }

def pool2 : Array CpInfo := pool [(1, .methodref 2 3), (0, .class_ 4), (0, .nameAndType 5 6), (0, u "java/lang/Object"), (0, u "<init>"), (0, u "()V"), (0, .class_ 8), (0, u "java/lang/Record")] 13

def k2c0 : Code := { maxStack := 1, maxLocals := 1, code := jdk_30_method_1_code, exceptionTable := #[], attributes := #[] }
def k2m0 : Method := { name := "<init>", desc := "()V", sig := { parameters := [], returnType := none }, accessFlags := 4, code := some k2c0 }
/-- java/lang/Record -/
def k2 : Class := { plain "java/lang/Record" (some 0) with
  accessFlags := 1057
  interfaces := #[]
  cf := some (fileOf pool2 7 #[] #[{ accessFlags := 4, nameIndex := 5, descriptorIndex := 6, attributes := #[] }] 1057 2 #[] #[])
  fields := #[]
  methods := #[k2m0]
  instanceTypes := #[]
  staticTypes := #[]
  resolved := Array.replicate 22 none
  statics := none }

def pool3 : Array CpInfo := pool [(1, .methodref 2 3), (0, .class_ 4), (0, .nameAndType 5 6), (0, u "java/lang/Record"), (0, u "<init>"), (0, u "()V"), (0, .fieldref 8 9), (0, .class_ 10), (0, .nameAndType 11 12), (0, u "com/example/scratchdraw/scratchdraw/figures/Money"), (0, u "cents"), (0, u "J"), (2, u "AMOUNT"), (0, u "Ljava/util/regex/Pattern;"), (11, u "()Z"), (30, u "(J)V"), (35, u "ZERO"), (0, u "Lcom/example/scratchdraw/scratchdraw/figures/Money;"), (12, u "isPositive")] 36

def k3c0 : Code := { maxStack := 3, maxLocals := 3, code := prog_9_method_1_code, exceptionTable := #[], attributes := #[] }
def k3m0 : Method := { name := "<init>", desc := "(J)V", sig := { parameters := [.long], returnType := none }, accessFlags := 1, code := some k3c0 }
def k3c1 : Code := { maxStack := 4, maxLocals := 1, code := prog_9_method_3_code, exceptionTable := #[], attributes := #[] }
def k3m1 : Method := { name := "isPositive", desc := "()Z", sig := { parameters := [], returnType := some .boolean }, accessFlags := 1, code := some k3c1 }
/-- com/example/scratchdraw/scratchdraw/figures/Money -/
def k3 : Class := { plain "com/example/scratchdraw/scratchdraw/figures/Money" (some 2) with
  accessFlags := 49
  interfaces := #[]
  cf := some (fileOf pool3 8 #[] #[{ accessFlags := 1, nameIndex := 5, descriptorIndex := 59, attributes := #[] }, { accessFlags := 1, nameIndex := 109, descriptorIndex := 28, attributes := #[] }] 49 2 #[] #[{ accessFlags := 18, nameIndex := 11, descriptorIndex := 12, attributes := #[] }, { accessFlags := 25, nameIndex := 95, descriptorIndex := 96, attributes := #[] }, { accessFlags := 26, nameIndex := 15, descriptorIndex := 16, attributes := #[] }])
  fields := #[{ name := "cents", type := .long, accessFlags := 18, slot := 0, constantValue := 0 }, { name := "ZERO", type := (.object "com/example/scratchdraw/scratchdraw/figures/Money"), accessFlags := 25, slot := 0, constantValue := 0 }, { name := "AMOUNT", type := (.object "java/util/regex/Pattern"), accessFlags := 26, slot := 1, constantValue := 0 }]
  methods := #[k3m0, k3m1]
  instanceTypes := #[.long]
  staticTypes := #[(.object "com/example/scratchdraw/scratchdraw/figures/Money"), (.object "java/util/regex/Pattern")]
  resolved := Array.replicate 146 none
  statics := none }

def pool4 : Array CpInfo := pool [(1, u "java/lang/Cloneable"), (0, .class_ 1), (0, u "java/lang/Object"), (0, .class_ 3)] 3

/-- java/lang/Cloneable -/
def k4 : Class := { plain "java/lang/Cloneable" (some 0) with
  accessFlags := 1537
  interfaces := #[]
  cf := some (fileOf pool4 2 #[] #[] 1537 4 #[] #[])
  fields := #[]
  methods := #[]
  instanceTypes := #[]
  staticTypes := #[]
  resolved := Array.replicate 8 none
  statics := none }

def pool5 : Array CpInfo := pool [(1, u "java/io/Serializable"), (0, .class_ 1), (0, u "java/lang/Object"), (0, .class_ 3)] 3

/-- java/io/Serializable -/
def k5 : Class := { plain "java/io/Serializable" (some 0) with
  accessFlags := 1537
  interfaces := #[]
  cf := some (fileOf pool5 2 #[] #[] 1537 4 #[] #[])
  fields := #[]
  methods := #[]
  instanceTypes := #[]
  staticTypes := #[]
  resolved := Array.replicate 8 none
  statics := none }

/-- the primitive byte -/
def k6 : Class := { plain "byte" none with kind := .primitive 'B', accessFlags := 0x411 }
/-- [B -/
def k7 : Class := { plain "[B" (some 0) with kind := .array 6 .byte, interfaces := #[4, 5], accessFlags := 1041 }

/-- the primitive int -/
def k8 : Class := { plain "int" none with kind := .primitive 'I', accessFlags := 0x411 }
/-- [I -/
def k9 : Class := { plain "[I" (some 0) with kind := .array 8 .int, interfaces := #[4, 5], accessFlags := 1041 }

def heap : Heap := #[]
def classes : Array Class := #[k0, k1, k2, k3, k4, k5, k6, k7, k8, k9]
def interned : List (Array UInt16 × Addr) := []
def slotsUsed : Nat := 0
def theMethod : MethodId := ⟨1, 1⟩
def args0 : Array Value := #[.long 5, .long 7]
def aboutOver (below : List Frame) : State where
  vm := { classes := classes, interned := interned.toArray }
  heap := heap
  slotsUsed := slotsUsed
  threads := #[{ frames := .invoking theMethod args0 :: below }]
def below0 : List Frame := [.native { method := ⟨0, 0⟩, args := #[] }]
def about1 : State := aboutOver below0
def p0 : Program := .bare "" "" ""
def e0 : Env := launch0.env 0 0 0
theorem w_frames : about1.frames = Frame.invoking theMethod args0 :: below0 := rfl
set_option maxRecDepth 65536 in
theorem w_args : argsFit about1.vm theMethod args0 = true := by decide +kernel
set_option maxRecDepth 65536 in
theorem w_heap : heapFits about1 = true := by decide +kernel
set_option maxRecDepth 65536 in
theorem w_runnable : about1.curStatus? = some .runnable := by decide +kernel
set_option maxRecDepth 65536 in
theorem w_alone : about1.alone = true := by decide +kernel
set_option maxRecDepth 65536 in
theorem w_named : about1.methodNamed? x = some theMethod := by decide +kernel
set_option maxRecDepth 65536 in
theorem w_hears : about1.hears theMethod below0 = true := by decide +kernel
set_option maxRecDepth 65536 in
theorem w_ripe : about1.ripe theMethod args0 below0 = true := by decide +kernel
theorem w_running : about1.status = .running := rfl
set_option maxRecDepth 65536 in
theorem w_room : about1.hasRoom e0.platform room_1 = true :=
  launch0.hasRoom_least _ room_1 (by decide +kernel) (by decide +kernel) (by decide +kernel) (by decide +kernel) (by decide +kernel) (by decide +kernel)
theorem allAtoms_all (ts : List Jvm.Cond) (a : Array Jvm.Value) (st : Jvm.State) : (allAtoms ts).before a st = ts.all (fun c => c.before a st) := by
  induction ts with
  | nil => rfl
  | cons c t ih =>
    show (Jvm.Cond.and c (allAtoms t)).before a st = _
    rw [Jvm.Cond.before_and, ih, List.all_cons]
def words1 : List Jvm.Cond := Jvm.Cond.code x code maxLocals ret :: tables_1
/-- a 'code' word, met by the world's own term for the bytes: nothing is compared byte by byte -/
theorem code_word {y : MethodName} {bytes : ByteArray} {mx : Nat} {rt : Option FieldType} {a : Array Value} {s : State} {m : MethodId} {meth : Method} {c : Code} (h1 : s.methodNamed? y = some m) (h2 : s.vm.method? m = some meth) (h3 : meth.code = some c) (h4 : c.code = bytes)
    (h5 : (c.maxLocals == mx && c.exceptionTable.isEmpty && decide (c.maxStack ≤ mostOperands) && decide (meth.sig.returnType = rt) && !meth.locks && decide (parseMethodDescriptor y.desc = some meth.sig)) = true) : (Jvm.Cond.code y bytes mx rt).before a s = true := by
  simp only [Bool.and_eq_true, beq_iff_eq, Bool.not_eq_true', decide_eq_true_eq] at h5
  obtain ⟨⟨⟨⟨⟨g1, g2⟩, g3⟩, g4⟩, g5⟩, g6⟩ := h5
  simp [Cond.before, Cond.holds, Cond.value, h1, h2, h3, h4, g1, g2, g3, g4, g5, g6]
def isCode : Jvm.Cond → Bool
  | .code _ _ _ _ => true
  | _ => false
theorem all_split {L : List Jvm.Cond} {P : Jvm.Cond → Bool} (h1 : L.all (fun c => isCode c || P c) = true) (h2 : ∀ c ∈ L.filter isCode, P c = true) : L.all P = true := by
  refine List.all_eq_true.mpr fun c hc => ?_
  have h := List.all_eq_true.mp h1 c hc
  rcases Bool.eq_false_or_eq_true (isCode c) with hi | hi
  · exact h2 c (List.mem_filter.mpr ⟨hc, hi⟩)
  · simpa [hi] using h
set_option maxRecDepth 65536 in
theorem w_c0 : (Jvm.Cond.code x code maxLocals ret).before args0 about1 = true := code_word (m := ⟨1, 1⟩) (meth := k1m1) (c := k1c1) (by decide +kernel) rfl rfl rfl (by decide +kernel)
set_option maxRecDepth 65536 in
theorem w_c1 : (Jvm.Cond.code ({ cls := "com/example/scratchdraw/scratchdraw/figures/Money", name := "<init>", desc := "(J)V" } : Jvm.MethodName) prog_9_method_1_code (3 : Nat) (Option.none : Option Jvm.ClassFile.FieldType)).before args0 about1 = true := code_word (m := ⟨3, 0⟩) (meth := k3m0) (c := k3c0) (by decide +kernel) rfl rfl rfl (by decide +kernel)
set_option maxRecDepth 65536 in
theorem w_c2 : (Jvm.Cond.code ({ cls := "java/lang/Record", name := "<init>", desc := "()V" } : Jvm.MethodName) jdk_30_method_1_code (1 : Nat) (Option.none : Option Jvm.ClassFile.FieldType)).before args0 about1 = true := code_word (m := ⟨2, 0⟩) (meth := k2m0) (c := k2c0) (by decide +kernel) rfl rfl rfl (by decide +kernel)
set_option maxRecDepth 65536 in
theorem w_c3 : (Jvm.Cond.code ({ cls := "java/lang/Object", name := "<init>", desc := "()V" } : Jvm.MethodName) object_method_1_code (1 : Nat) (Option.none : Option Jvm.ClassFile.FieldType)).before args0 about1 = true := code_word (m := ⟨0, 0⟩) (meth := k0m0) (c := k0c0) (by decide +kernel) rfl rfl rfl (by decide +kernel)
set_option maxRecDepth 65536 in
theorem w_c4 : (Jvm.Cond.code ({ cls := "com/example/scratchdraw/scratchdraw/figures/Money", name := "isPositive", desc := "()Z" } : Jvm.MethodName) prog_9_method_3_code (1 : Nat) (Option.some Jvm.ClassFile.FieldType.boolean)).before args0 about1 = true := code_word (m := ⟨3, 1⟩) (meth := k3m1) (c := k3c1) (by decide +kernel) rfl rfl rfl (by decide +kernel)
def codes1 : List Jvm.Cond := [Jvm.Cond.code x code maxLocals ret, Jvm.Cond.code ({ cls := "com/example/scratchdraw/scratchdraw/figures/Money", name := "<init>", desc := "(J)V" } : Jvm.MethodName) prog_9_method_1_code (3 : Nat) (Option.none : Option Jvm.ClassFile.FieldType), Jvm.Cond.code ({ cls := "java/lang/Record", name := "<init>", desc := "()V" } : Jvm.MethodName) jdk_30_method_1_code (1 : Nat) (Option.none : Option Jvm.ClassFile.FieldType), Jvm.Cond.code ({ cls := "java/lang/Object", name := "<init>", desc := "()V" } : Jvm.MethodName) object_method_1_code (1 : Nat) (Option.none : Option Jvm.ClassFile.FieldType), Jvm.Cond.code ({ cls := "com/example/scratchdraw/scratchdraw/figures/Money", name := "isPositive", desc := "()Z" } : Jvm.MethodName) prog_9_method_3_code (1 : Nat) (Option.some Jvm.ClassFile.FieldType.boolean)]
set_option maxRecDepth 65536 in
theorem codes_eq : words1.filter isCode = codes1 := rfl
theorem w_codes : ∀ c ∈ words1.filter isCode, c.before args0 about1 = true := by
  rw [codes_eq]
  intro c hc
  simp only [codes1, List.mem_cons, List.not_mem_nil, or_false] at hc
  rcases hc with rfl | rfl | rfl | rfl | rfl
  · exact w_c0
  · exact w_c1
  · exact w_c2
  · exact w_c3
  · exact w_c4
set_option maxRecDepth 65536 in
theorem w_t1 : words1.all (fun c => isCode c || c.before args0 about1) = true := by decide +kernel
theorem w_tables : (allAtoms (Jvm.Cond.code x code maxLocals ret :: tables_1)).before args0 about1 = true := by
  rw [allAtoms_all]
  show words1.all (fun c => c.before args0 about1) = true
  refine all_split ?_ w_codes
  rw [w_t1]
set_option maxRecDepth 65536 in
theorem w_case : (Jvm.Cond.and given_1 narrow_1).before args0 about1 = true := by decide +kernel
theorem w_applies : (headSpec (Jvm.Cond.code x code maxLocals ret :: tables_1) room_1).applies x e0.platform about1 = true :=
  (Spec.applies_iff w_frames).mpr ⟨w_running, w_runnable, w_alone, w_named, w_hears, w_ripe, w_room, w_tables⟩
theorem atStart : AtStart classFile x code maxLocals ret World_1 tables_1 room_1 Calls_1 rest_1 Pre_1 launch0 p0 e0 about1 theMethod args0 below0 :=
  ⟨lists_1, trivial, launch0.admits_env _ _ _, launch0.least_env, fairChoices_fair.cas, fairChoices_fair.clock, w_frames, w_args, w_heap, w_applies, trivial, trivial, w_case⟩
end start1
theorem witness_1 : WitnessClaimed_1 := ⟨start1.p0, start1.e0, start1.about1, start1.theMethod, start1.args0, start1.below0, start1.atStart⟩
end Jvm.Pilot.@@N@@
