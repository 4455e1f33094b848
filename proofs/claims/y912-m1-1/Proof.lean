import JvmDerived
import JvmDerived.Pilot.@@N@@Statement
import JvmDerived.Pilot.@@N@@Code
set_option linter.unusedVariables false
set_option linter.unusedSimpArgs false
namespace Jvm.RoadKit
open Sem ClassFile Op Lib Jvm.Stand Jvm.Free Jvm.LawKit
section New
variable {p : Program} {l : Launch} {e : Env} {R : Room} {s : State} {m : MethodId} {args : Array Value} {below : List Frame} {meth : Method} {c : Code} {T : State} {locs : List Loc} {cells slots : Nat}
theorem retI (X : Stand p l e R s m args below meth c T locs cells slots) (hx : p.tables.exec = Jvm.exec) {pc : Nat} {Ls : Array Slot} {z : Int32} {rest : List Value} (hret : meth.sig.returnType = some .int) (hd : decode c.code pc = .ok (.ireturn, 1)) {fs : List Frame}
    (hl : ∀ (f : JFrame) (acts : List Action), f.method = m → f.locked = none → f.entered = [] → (doReturn e (T.setTop f) acts (some (.int z))).1 = T.setFrames fs) : Steps p.tables e below (T.setTop (mkF m pc Ls (.int z :: rest))) (T.setFrames fs) := by
  have hm' : T.vm.method? m = some meth := X.method'
  have hn : narrow .int (.int z) = .int z := rfl
  show Steps p.tables e below (T.setTop { method := m, pc := pc, locals := Ls, stack := _ :: rest, locked := none }) _
  jvm_step X.here [X.here.top, hx, hd, hm', hret, hn]
  first | (intro acts; rw [hl _ acts rfl rfl rfl]) | rw [hl _ _ rfl rfl rfl]
  exact Steps.refl _
end New
end Jvm.RoadKit
namespace Jvm.Pilot.@@N@@
open Jvm Jvm.ClassFile Sem Op Lib Jvm.Free Jvm.Stand Jvm.LawKit Jvm.RoadKit Bundle Jvm.Pilot.@@N@@.Jvm.D
theorem own_b10n {P : Prop} [Decidable P] (h : P) : ¬ (if P then (1 : Int32) else 0) = 0 := by rw [if_pos h]; decide
theorem own_b10z {P : Prop} [Decidable P] (h : ¬ P) : (if P then (1 : Int32) else 0) = 0 := if_neg h
theorem own_b01z {P : Prop} [Decidable P] (h : P) : (if P then (0 : Int32) else 1) = 0 := if_pos h
theorem own_b01n {P : Prop} [Decidable P] (h : ¬ P) : ¬ (if P then (0 : Int32) else 1) = 0 := by rw [if_neg h]; decide
theorem own_nb10 {P : Prop} [Decidable P] : nar .boolean (if P then (1 : Int32) else 0) = (if P then (1 : Int32) else 0) := by by_cases h : P <;> simp [h, nar]
theorem own_nb01 {P : Prop} [Decidable P] : nar .boolean (if P then (0 : Int32) else 1) = (if P then (0 : Int32) else 1) := by by_cases h : P <;> simp [h, nar]
theorem own_selP {Z s : State} {a0 args : Array Value} {y : MethodName} {n : Nat} (hZ : Z.Warmed39 s.vm) (wi : (Jvm.Cond.instantiable y.cls n).before a0 Z = true) (wp : (Jvm.Cond.privateMethod y).before a0 Z = true) (wm : (Jvm.Cond.instanceMethod y).before a0 Z = true)
    (hy : y.cls ≠ "java/lang/invoke/MethodHandle" ∧ y.cls ≠ "java/lang/invoke/VarHandle") : (Jvm.Cond.selects y.cls y y).before args s = true := by
  obtain ⟨c, k, hc, hk, -, hf, -⟩ := Cond.instantiable_spec (mv hZ wi (args := args))
  have hi : k.isInterface = false := by
    cases q : k.isInterface
    · rfl
    · simp [q] at hf
  exact Jvm.Stand.selects_self_of_private hc hk hi (Cond.privateMethod_at (mvP hZ wp (args := args))) (mv hZ wm) hy
theorem own_one (i : Nat) : Int32.ofNat i + (1 : Int32) = Int32.ofNat (i + 1) := (Int32.ofNat_add i 1).symm
def own_list (g : Nat → Value) (i : Nat) : List Value := (List.range i).map g
theorem own_len (g : Nat → Value) (i : Nat) : (own_list g i).length = i := by simp [own_list]
theorem own_at (g : Nat → Value) {i j : Nat} (h : j < i) (d : Value) : (own_list g i).getD j d = g j := by simp [own_list, List.getD_eq_getElem?_getD, h]
theorem own_setl (g : Nat → Value) (i : Nat) (x : Value) : (own_list g i ++ [x]).set i (g i) = own_list g (i + 1) := by
  have h := own_len g i
  have e : (own_list g i ++ [x]).set (own_list g i).length (g i) = own_list g i ++ [g i] := by simp
  rw [h] at e
  rw [e]; simp [own_list, List.range_succ]
theorem own_il {i : Nat} (h : i < 2147483648) : (Int32.ofNat i).toInt = i := Int32.toInt_ofNat_of_lt h
theorem own_in {i : Nat} (h : i < 2147483648) : ¬ Int32.ofNat i < 0 := by
  rw [Int32.lt_iff_toInt_lt, own_il h, show (0 : Int32).toInt = 0 from rfl]; omega
theorem own_ic {i : Nat} (h : i < 2147483648) : (Int32.ofNat i).toNatClampNeg = i := by
  rw [Int32.toNatClampNeg, own_il h]; rfl
section OwnDia
variable {tb : Tables} [Ours tb] {e : Env} {below : List Frame} {T target : State} {m : MethodId} {c : Code} {g : JFrame}
/-- a boolean written out: if .. goto the 0; 1; goto behind; 0 -/
theorem own_dia (h : At T m c below) (hx : tb.exec = Jvm.exec) (hg : g.method = m) {pc0 : Nat} {P : Prop} [Decidable P] {u w : Int32} {rest : List Value} (huw : u = 0 ∧ w = 1 ∨ u = 1 ∧ w = 0)
    (hd1 : decode c.code (pc0 + 3) = .ok (.iconst 1, 1)) (hd2 : decode c.code (pc0 + 4) = .ok (.goto 4, 3)) (hd3 : decode c.code (pc0 + 7) = .ok (.iconst 0, 1))
    (s1 : ∀ t, (P ∧ u = 0 ∨ ¬ P ∧ w = 0) → Steps tb e below (T.setTop { g with pc := pc0 + 7, stack := rest }) t → Steps tb e below (T.setTop g) t)
    (s2 : ∀ t, (P ∧ u = 1 ∨ ¬ P ∧ w = 1) → Steps tb e below (T.setTop { g with pc := pc0 + 3, stack := rest }) t → Steps tb e below (T.setTop g) t)
    (hr : Steps tb e below (T.setTop { g with pc := pc0 + 8, stack := .int (if P then u else w) :: rest }) target) : Steps tb e below (T.setTop g) target := by
  have z : (if P then u else w) = 0 → (P ∧ u = 0 ∨ ¬ P ∧ w = 0) := fun q => by
    by_cases hp : P
    · rw [if_pos hp] at q; exact Or.inl ⟨hp, q⟩
    · rw [if_neg hp] at q; exact Or.inr ⟨hp, q⟩
  have o : (if P then u else w) = 1 → (P ∧ u = 1 ∨ ¬ P ∧ w = 1) := fun q => by
    by_cases hp : P
    · rw [if_pos hp] at q; exact Or.inl ⟨hp, q⟩
    · rw [if_neg hp] at q; exact Or.inr ⟨hp, q⟩
  have b : (if P then u else w) = 0 ∨ (if P then u else w) = 1 := by
    rcases huw with ⟨rfl, rfl⟩ | ⟨rfl, rfl⟩ <;> by_cases hp : P <;> simp [hp]
  rcases b with q | q
  · refine s1 _ (z q) ?_
    refine Free.XS.iconst h hx hg hd3 ?_
    rw [q] at hr
    exact hr
  · refine s2 _ (o q) ?_
    refine Free.XS.iconst h hx hg hd1 ?_
    refine Free.XS.goto h hx hg (pc0 := pc0 + 4) (pc' := pc0 + 8) rfl hd2 (by omega) (by omega) ?_
    rw [q] at hr
    exact hr
theorem own_diaT (h : At T m c below) (hx : tb.exec = Jvm.exec) (hg : g.method = m) {pc0 : Nat} (hpc : g.pc = pc0) {P : Prop} [Decidable P] {cd : ClassFile.Cond} {x : Int32} {rest : List Value}
    (hd0 : decode c.code pc0 = .ok (.ifCond cd 7, 3)) (hd1 : decode c.code (pc0 + 3) = .ok (.iconst 1, 1)) (hd2 : decode c.code (pc0 + 4) = .ok (.goto 4, 3)) (hd3 : decode c.code (pc0 + 7) = .ok (.iconst 0, 1))
    (hs : g.stack = .int x :: rest) (hy : P → ifCond.holds cd x = true) (hn : ¬ P → ifCond.holds cd x = false)
    (hr : Steps tb e below (T.setTop { g with pc := pc0 + 8, stack := .int (if P then (0 : Int32) else 1) :: rest }) target) : Steps tb e below (T.setTop g) target := by
  subst hpc
  refine own_dia h hx hg (P := P) (u := 0) (w := 1) (rest := rest) (Or.inl ⟨rfl, rfl⟩) hd1 hd2 hd3 (fun t q k => ?_) (fun t q k => ?_) hr
  · have hp : P := q.elim (·.1) fun z => absurd z.2 (by decide)
    exact Free.XS.ifYes h hx hg (pc' := g.pc + 7) rfl hd0 hs (hy hp) (by omega) (by omega) k
  · have hp : ¬ P := q.elim (fun z => absurd z.2 (by decide)) (·.1)
    exact Free.XS.ifNo h hx hg hd0 hs (hn hp) k
theorem own_diaF (h : At T m c below) (hx : tb.exec = Jvm.exec) (hg : g.method = m) {pc0 : Nat} (hpc : g.pc = pc0) {P : Prop} [Decidable P] {cd : ClassFile.Cond} {x : Int32} {rest : List Value}
    (hd0 : decode c.code pc0 = .ok (.ifCond cd 7, 3)) (hd1 : decode c.code (pc0 + 3) = .ok (.iconst 1, 1)) (hd2 : decode c.code (pc0 + 4) = .ok (.goto 4, 3)) (hd3 : decode c.code (pc0 + 7) = .ok (.iconst 0, 1))
    (hs : g.stack = .int x :: rest) (hy : P → ifCond.holds cd x = false) (hn : ¬ P → ifCond.holds cd x = true)
    (hr : Steps tb e below (T.setTop { g with pc := pc0 + 8, stack := .int (if P then (1 : Int32) else 0) :: rest }) target) : Steps tb e below (T.setTop g) target := by
  subst hpc
  refine own_dia h hx hg (P := P) (u := 1) (w := 0) (rest := rest) (Or.inr ⟨rfl, rfl⟩) hd1 hd2 hd3 (fun t q k => ?_) (fun t q k => ?_) hr
  · have hp : ¬ P := q.elim (fun z => absurd z.2 (by decide)) (·.1)
    exact Free.XS.ifYes h hx hg (pc' := g.pc + 7) rfl hd0 hs (hn hp) (by omega) (by omega) k
  · have hp : P := q.elim (·.1) fun z => absurd z.2 (by decide)
    exact Free.XS.ifNo h hx hg hd0 hs (hy hp) k
theorem own_diaT2 (h : At T m c below) (hx : tb.exec = Jvm.exec) (hg : g.method = m) {pc0 : Nat} (hpc : g.pc = pc0) {P : Prop} [Decidable P] {cd : ClassFile.Cond} {x y : Int32} {rest : List Value}
    (hd0 : decode c.code pc0 = .ok (.if_icmp cd 7, 3)) (hd1 : decode c.code (pc0 + 3) = .ok (.iconst 1, 1)) (hd2 : decode c.code (pc0 + 4) = .ok (.goto 4, 3)) (hd3 : decode c.code (pc0 + 7) = .ok (.iconst 0, 1))
    (hs : g.stack = .int y :: .int x :: rest) (hy : P → if_icmp.holds cd x y = true) (hn : ¬ P → if_icmp.holds cd x y = false)
    (hr : Steps tb e below (T.setTop { g with pc := pc0 + 8, stack := .int (if P then (0 : Int32) else 1) :: rest }) target) : Steps tb e below (T.setTop g) target := by
  subst hpc
  refine own_dia h hx hg (P := P) (u := 0) (w := 1) (rest := rest) (Or.inl ⟨rfl, rfl⟩) hd1 hd2 hd3 (fun t q k => ?_) (fun t q k => ?_) hr
  · have hp : P := q.elim (·.1) fun z => absurd z.2 (by decide)
    exact Free.XS.icmpYes h hx hg (pc' := g.pc + 7) rfl hd0 hs (hy hp) (by omega) (by omega) k
  · have hp : ¬ P := q.elim (fun z => absurd z.2 (by decide)) (·.1)
    exact Free.XS.icmpNo h hx hg hd0 hs (hn hp) k
theorem own_diaF2 (h : At T m c below) (hx : tb.exec = Jvm.exec) (hg : g.method = m) {pc0 : Nat} (hpc : g.pc = pc0) {P : Prop} [Decidable P] {cd : ClassFile.Cond} {x y : Int32} {rest : List Value}
    (hd0 : decode c.code pc0 = .ok (.if_icmp cd 7, 3)) (hd1 : decode c.code (pc0 + 3) = .ok (.iconst 1, 1)) (hd2 : decode c.code (pc0 + 4) = .ok (.goto 4, 3)) (hd3 : decode c.code (pc0 + 7) = .ok (.iconst 0, 1))
    (hs : g.stack = .int y :: .int x :: rest) (hy : P → if_icmp.holds cd x y = false) (hn : ¬ P → if_icmp.holds cd x y = true)
    (hr : Steps tb e below (T.setTop { g with pc := pc0 + 8, stack := .int (if P then (1 : Int32) else 0) :: rest }) target) : Steps tb e below (T.setTop g) target := by
  subst hpc
  refine own_dia h hx hg (P := P) (u := 1) (w := 0) (rest := rest) (Or.inr ⟨rfl, rfl⟩) hd1 hd2 hd3 (fun t q k => ?_) (fun t q k => ?_) hr
  · have hp : ¬ P := q.elim (fun z => absurd z.2 (by decide)) (·.1)
    exact Free.XS.icmpYes h hx hg (pc' := g.pc + 7) rfl hd0 hs (hn hp) (by omega) (by omega) k
  · have hp : P := q.elim (·.1) fun z => absurd z.2 (by decide)
    exact Free.XS.icmpNo h hx hg hd0 hs (hy hp) k
end OwnDia

def own_st (p w : Int32) (q r t : Int64) : Int32 := if p = 0 then (if (nar .boolean w) = 0 then 1 else (if q < (r - t) then 1 else 0)) else 0
theorem own_st1 {p w : Int32} {q r t : Int64} (h : ¬ p = 0) : own_st p w q r t = 0 := if_neg h
theorem own_st2 {p w : Int32} {q r t : Int64} (h : p = 0) (h2 : (nar .boolean w) = 0) : own_st p w q r t = 1 := (if_pos h).trans (if_pos h2)
theorem own_st3 {p w : Int32} {q r t : Int64} (h : p = 0) (h2 : ¬ (nar .boolean w) = 0) : own_st p w q r t = (if q < (r - t) then (1 : Int32) else 0) := (if_pos h).trans (if_neg h2)
theorem own_nn01 {P : Prop} [Decidable P] : nar .boolean (nar .boolean (if P then (0 : Int32) else 1)) = (if P then (0 : Int32) else 1) := by rw [own_nb01, own_nb01]
theorem own_back (a d : Int64) : (a + d) - a = d := by rw [Int64.add_comm]; exact Int64.add_sub_cancel d a
theorem d2_0 : decode jdk_30_method_1_code 0 = .ok (.aload_n 0, 1) := by decide +kernel
theorem d2_1 : decode jdk_30_method_1_code 1 = .ok (.invokespecial 1, 3) := by decide +kernel
theorem d2_4 : decode jdk_30_method_1_code 4 = .ok (.return_, 1) := by decide +kernel
theorem pn_java_lang_Record : plainName "java/lang/Record" = true := by first | (simp [plainName, overriddenIn]; done) | decide +kernel
theorem ef_2 (m : MethodId) (o0 : Addr) : entryFrame m #[(.ref o0)] 1 = mkF m 0 #[.val (.ref o0)] [] := by first | (simp [entryFrame, mkF, argsToLocals, Value.category]; done) | rfl
def Q2 (Z : State) (o0 : Addr) (h0 : Heap) (n0 : Nat) (v : Option Value) (h : Heap) (L : List Loc) : Prop := v = none ∧ Fr n0 L ∧ Keep h0 h []
set_option maxRecDepth 65536 in
set_option maxHeartbeats 40000000 in
theorem rm2 (l : Launch) (Z : State) (a0 : Array Value) (hw : ∀ d ∈ tables_1, d.before a0 Z = true) (ws : List Jvm.Cond) (o0 : Addr) (h0 : Heap) (n0 : Nat) (Z0 : n0 ≤ h0.size) :
    MetFree l (⟨"java/lang/Record", "<init>", "()V"⟩ : MethodName) (head1 (Jvm.Cond.code (⟨"java/lang/Record", "<init>", "()V"⟩ : MethodName) jdk_30_method_1_code 1 none :: ws) ({ frames := 1, cells := 0, slots := 0, locals := 12 } : Room)) (fun a U => a = #[(.ref o0)] ∧ Z.Warmed39 U.vm ∧ U.heap = h0) (fun _ _ _ _ _ => True) (fun _ U o U' => ∃ v L, o = .returned v ∧ Q2 Z o0 h0 n0 v U'.heap L ∧ FrameEnd U o U' L ({ frames := 1, cells := 0, slots := 0, locals := 12 } : Room).cells ({ frames := 1, cells := 0, slots := 0, locals := 12 } : Room).slots) := by
  refine MetFree.of_bodySF (plainFor_of_name pn_java_lang_Record) hisR ?_
  intro p e s m args below meth c s₁ Bd hml0 hP hK
  obtain ⟨rfl, hZ, hh⟩ := hP
  have hx := Bd.exec
  have hby := Bd.bytes
  have hml : c.maxLocals = 1 := hml0
  have hown : s.vm.findClass "java/lang/Record" = some m.cls := findClass_of_methodNamed Bd.named
  have hnm := (name_of_methodNamed Bd.named Bd.method).1
  have X0 : Stand p l e ({ frames := 1, cells := 0, slots := 0, locals := 12 } : Room) s m #[(.ref o0)] below meth c s₁ [] 0 0 := Stand.of_body Bd
  have e0 : s₁.heap = h0 := by rw [← hh, Bd.state]; rfl
  have N0 := Fr.nil n0
  have pre0 : ∀ t, Steps p.tables e below (s₁.setTop (mkF m 0 #[.val (.ref o0)] [])) t → Steps p.tables e below (s₁.setTop (entryFrame m #[(.ref o0)] 1)) t := fun t k => castTop (ef_2 m o0) k
  obtain ⟨T1, X1, e1, st1⟩ := initO X0 hx hZ hown (hw _ (List.mem_of_getElem? (i := 11) rfl)) (hw _ (List.mem_of_getElem? (i := 12) rfl)) (hw _ (List.mem_of_getElem? (i := 13) rfl)) e0 (g := (mkF m 1 #[.val (.ref o0)] [(.ref o0)])) rfl (by rw [hml]; rfl) rfl (hb hby d2_1) (by decide) (W := 0) (by show 2 * 0 + _ ≤ _; exact Nat.le_of_eq rfl) (by decide)
  obtain ⟨fs, hr, hrun, hended, hW, hsame⟩ := X1.leave (v := none) (fun _ => rfl)
  refine ⟨_, _, pre0 _ ?_, hrun, hended, _, _, rfl, ?_, ⟨_, rfl⟩, hW, hsame.mono (by decide) (by decide)⟩
  · show Steps p.tables e below (s₁.setTop (mkF m 0 #[.val (.ref o0)] [])) _
    refine XS.aloadN X0.here hx rfl (hb hby d2_0) rfl rfl ?_
    show Steps p.tables e below (s₁.setTop (mkF m 1 #[.val (.ref o0)] [(.ref o0)])) _
    refine st1 _ ?_
    show Steps p.tables e below (T1.setTop (mkF m 4 #[.val (.ref o0)] [])) _
    exact X1.returnOut hx Bd.returns (hb hby d2_4) hr
  · show Q2 Z o0 h0 n0 _ T1.heap _
    rw [e1]
    exact ⟨rfl, N0, (Keep.refl h0 [])⟩
theorem d1_0 : decode prog_17_method_1_code 0 = .ok (.aload_n 0, 1) := by decide +kernel
theorem d1_1 : decode prog_17_method_1_code 1 = .ok (.invokespecial 1, 3) := by decide +kernel
theorem d1_4 : decode prog_17_method_1_code 4 = .ok (.aload_n 0, 1) := by decide +kernel
theorem d1_5 : decode prog_17_method_1_code 5 = .ok (.iload_n 1, 1) := by decide +kernel
theorem d1_6 : decode prog_17_method_1_code 6 = .ok (.putfield 7, 3) := by decide +kernel
theorem d1_9 : decode prog_17_method_1_code 9 = .ok (.aload_n 0, 1) := by decide +kernel
theorem d1_10 : decode prog_17_method_1_code 10 = .ok (.lload_n 2, 1) := by decide +kernel
theorem d1_11 : decode prog_17_method_1_code 11 = .ok (.putfield 13, 3) := by decide +kernel
theorem d1_14 : decode prog_17_method_1_code 14 = .ok (.return_, 1) := by decide +kernel
theorem pn_com_example_pit_crew_pitcrew_Handle_Report : plainName "com/example/pit_crew/pitcrew/Handle$Report" = true := by first | (simp [plainName, overriddenIn]; done) | decide +kernel
theorem pd_0 : parseMethodDescriptor "()V" = some ⟨[], none⟩ := by decide +kernel
theorem ef_1 (m : MethodId) (o0 : Addr) (p1 : Int32) (q2 : Int64) : entryFrame m #[(.ref o0), (.int p1), (.long q2)] 4 = mkF m 0 #[.val (.ref o0), .val (.int p1), .val (.long q2), .second] [] := by first | (simp [entryFrame, mkF, argsToLocals, Value.category]; done) | rfl
def Q1 (Z : State) (o0 : Addr) (p1 : Int32) (q2 : Int64) (h0 : Heap) (n0 : Nat) (v : Option Value) (h : Heap) (L : List Loc) : Prop := v = none ∧ Fr n0 L ∧ Keep h0 h [o0] ∧ Fld Z h o0 "com/example/pit_crew/pitcrew/Handle$Report" "healthy" "Z" (.int (nar .boolean p1)) ∧ Fld Z h o0 "com/example/pit_crew/pitcrew/Handle$Report" "at" "J" (.long q2)
set_option maxRecDepth 65536 in
set_option maxHeartbeats 40000000 in
theorem rm1 (l : Launch) (Z : State) (a0 : Array Value) (hw : ∀ d ∈ tables_1, d.before a0 Z = true) (ws : List Jvm.Cond) (o0 : Addr) (p1 : Int32) (q2 : Int64) (h0 : Heap) (n0 : Nat) (Z0 : n0 ≤ h0.size) (E_o0 : Exa Z h0 o0 "com/example/pit_crew/pitcrew/Handle$Report") (F_healthy_o0 : Fld Z h0 o0 "com/example/pit_crew/pitcrew/Handle$Report" "healthy" "Z" (.int (0 : Int32))) (F_at_o0 : Fld Z h0 o0 "com/example/pit_crew/pitcrew/Handle$Report" "at" "J" (.long (0 : Int64))) (g_o0 : n0 ≤ o0) :
    MetFree l (⟨"com/example/pit_crew/pitcrew/Handle$Report", "<init>", "(ZJ)V"⟩ : MethodName) (head1 (Jvm.Cond.code (⟨"com/example/pit_crew/pitcrew/Handle$Report", "<init>", "(ZJ)V"⟩ : MethodName) prog_17_method_1_code 4 none :: ws) ({ frames := 2, cells := 0, slots := 0, locals := 24 } : Room)) (fun a U => a = #[(.ref o0), (.int p1), (.long q2)] ∧ Z.Warmed39 U.vm ∧ U.heap = h0) (fun _ _ _ _ _ => True) (fun _ U o U' => ∃ v L, o = .returned v ∧ Q1 Z o0 p1 q2 h0 n0 v U'.heap L ∧ FrameEnd U o U' L ({ frames := 2, cells := 0, slots := 0, locals := 24 } : Room).cells ({ frames := 2, cells := 0, slots := 0, locals := 24 } : Room).slots) := by
  refine MetFree.of_bodySF (plainFor_of_name pn_com_example_pit_crew_pitcrew_Handle_Report) hisR ?_
  intro p e s m args below meth c s₁ Bd hml0 hP hK
  obtain ⟨rfl, hZ, hh⟩ := hP
  have hx := Bd.exec
  have hby := Bd.bytes
  have hml : c.maxLocals = 4 := hml0
  have hown : s.vm.findClass "com/example/pit_crew/pitcrew/Handle$Report" = some m.cls := findClass_of_methodNamed Bd.named
  have hnm := (name_of_methodNamed Bd.named Bd.method).1
  have X0 : Stand p l e ({ frames := 2, cells := 0, slots := 0, locals := 24 } : Room) s m #[(.ref o0), (.int p1), (.long q2)] below meth c s₁ [] 0 0 := Stand.of_body Bd
  have e0 : s₁.heap = h0 := by rw [← hh, Bd.state]; rfl
  have N0 := Fr.nil n0
  have pre0 : ∀ t, Steps p.tables e below (s₁.setTop (mkF m 0 #[.val (.ref o0), .val (.int p1), .val (.long q2), .second] [])) t → Steps p.tables e below (s₁.setTop (entryFrame m #[(.ref o0), (.int p1), (.long q2)] 4)) t := fun t k => castTop (ef_1 m o0 p1 q2) k
  -- pc 1: Record.<init> by rm2
  obtain ⟨_, _, ⟨T1, L1, k1, n1⟩, -, X1, ⟨Lc1, hQ1, l1, y1, z1'⟩, st1⟩ := X0.specialBack hx (y := (⟨"java/lang/Record", "<init>", "()V"⟩ : MethodName)) rfl hown (mvT hZ (hw _ (List.mem_of_getElem? (i := 6) rfl))) (mvT hZ (hw _ (List.mem_of_getElem? (i := 7) rfl))) (mvT hZ (hw _ (List.mem_of_getElem? (i := 10) rfl))) (by decide) (backOf (W := 0) (rm2 l Z a0 hw [] o0 h0 n0 Z0 ) hZ (hw _ (List.mem_of_getElem? (i := 10) rfl)) (hw _ (List.mem_of_getElem? (i := 9) rfl)) (by decide) (by decide)) (g := (mkF m 1 #[.val (.ref o0), .val (.int p1), .val (.long q2), .second] [(.ref o0)])) rfl (by rw [hml]; rfl) (Steps.refl _) (a := o0) (argsL := []) (rest := []) (lenOf pd_0 rfl) rfl (by show 2 * 0 + _ ≤ _; exact Nat.le_of_eq rfl) (hb hby d1_1) (fun _ _ => ⟨rfl, e0, (by decide : 0 + 0 ≤ _), (by decide : 0 + 0 ≤ _)⟩)
  dsimp only [Pt.U, Pt.locs, Pt.cells, Pt.slots] at X1 l1 y1 z1' st1 hQ1
  subst l1 y1 z1'
  obtain ⟨rfl, N1q, K1⟩ := hQ1
  have N1 := Fr.app N0 N1q
  have J1 : Keep h0 T1.heap [o0] := (Keep.refl h0 [o0]).trans K1 all0
  have c2 : Fld Z T1.heap o0 "com/example/pit_crew/pitcrew/Handle$Report" "healthy" "Z" (.int (0 : Int32)) := (F_healthy_o0.keep K1 nin0)
  have c3 : Exa Z T1.heap o0 "com/example/pit_crew/pitcrew/Handle$Report" := (E_o0.keep K1)
  obtain ⟨T4, h4, X4, e4, W4, st4⟩ := putFN X1 hx hZ hown (hw _ (List.mem_of_getElem? (i := 14) rfl)) Via.refl rfl c2 c3 (Or.inr ⟨(hw _ (List.mem_of_getElem? (i := 15) rfl)), rfl, hnm⟩) (hw _ (List.mem_of_getElem? (i := 1) rfl)) (ty := .boolean) (v' := (.int (nar .boolean p1))) (by decide) rfl (fits_nar_bool _) (g := (mkF m 6 #[.val (.ref o0), .val (.int p1), .val (.long q2), .second] [(.int p1), (.ref o0)])) rfl rfl (hb hby d1_6)
  have Fw4 : Fld Z h4 o0 "com/example/pit_crew/pitcrew/Handle$Report" "healthy" "Z" (.int (nar .boolean p1)) := c2.same W4
  have J4 : Keep h0 h4 [o0] := J1.wr W4 (Or.inl (List.mem_of_getElem? (i := 0) rfl))
  have N4 := Fr.snoc X4 N1 g_o0
  have c5 : Fld Z h4 o0 "com/example/pit_crew/pitcrew/Handle$Report" "at" "J" (.long (0 : Int64)) := ((F_at_o0.keep K1 nin0).other W4 (Or.inr (slot_ne (Or.inr (hw _ (List.mem_of_getElem? (i := 17) rfl))) (Or.inr (hw _ (List.mem_of_getElem? (i := 15) rfl))) (by decide) (t := .long) (t' := .boolean) (by decide) (by decide))))
  have c6 : Exa Z h4 o0 "com/example/pit_crew/pitcrew/Handle$Report" := (c3.wr W4)
  obtain ⟨T7, h7, X7, e7, W7, st7⟩ := putF X4 hx hZ hown (host := "") (Or.inl (hw _ (List.mem_of_getElem? (i := 16) rfl))) Via.refl e4 c5 c6 (Or.inr ⟨(hw _ (List.mem_of_getElem? (i := 17) rfl)), rfl, hnm⟩) (hw _ (List.mem_of_getElem? (i := 1) rfl)) (ty := .long) (by decide) rfl rfl (g := (mkF m 11 #[.val (.ref o0), .val (.int p1), .val (.long q2), .second] [(.long q2), (.ref o0)])) rfl rfl (hb hby d1_11)
  have Fw7 : Fld Z h7 o0 "com/example/pit_crew/pitcrew/Handle$Report" "at" "J" (.long q2) := c5.same W7
  have J7 : Keep h0 h7 [o0] := J4.wr W7 (Or.inl (List.mem_of_getElem? (i := 0) rfl))
  have N7 := Fr.snoc X7 N4 g_o0
  have c8 : Fld Z h7 o0 "com/example/pit_crew/pitcrew/Handle$Report" "healthy" "Z" (.int (nar .boolean p1)) := (Fw4.other W7 (Or.inr (slot_ne (Or.inr (hw _ (List.mem_of_getElem? (i := 15) rfl))) (Or.inr (hw _ (List.mem_of_getElem? (i := 17) rfl))) (by decide) (t := .boolean) (t' := .long) (by decide) (by decide))))
  obtain ⟨fs, hr, hrun, hended, hW, hsame⟩ := X7.leave (v := none) (fun _ => rfl)
  refine ⟨_, _, pre0 _ ?_, hrun, hended, _, _, rfl, ?_, ⟨_, rfl⟩, hW, hsame.mono (by decide) (by decide)⟩
  · show Steps p.tables e below (s₁.setTop (mkF m 0 #[.val (.ref o0), .val (.int p1), .val (.long q2), .second] [])) _
    refine XS.aloadN X0.here hx rfl (hb hby d1_0) rfl rfl ?_
    show Steps p.tables e below (s₁.setTop (mkF m 1 #[.val (.ref o0), .val (.int p1), .val (.long q2), .second] [(.ref o0)])) _
    refine st1.trans ?_
    show Steps p.tables e below (T1.setTop (mkF m 4 #[.val (.ref o0), .val (.int p1), .val (.long q2), .second] [])) _
    refine XS.aloadN X1.here hx rfl (hb hby d1_4) rfl rfl ?_
    show Steps p.tables e below (T1.setTop (mkF m 5 #[.val (.ref o0), .val (.int p1), .val (.long q2), .second] [(.ref o0)])) _
    refine XS.iloadN X1.here hx rfl (hb hby d1_5) rfl ?_
    show Steps p.tables e below (T1.setTop (mkF m 6 #[.val (.ref o0), .val (.int p1), .val (.long q2), .second] [(.int p1), (.ref o0)])) _
    refine st4 _ ?_
    show Steps p.tables e below (T4.setTop (mkF m 9 #[.val (.ref o0), .val (.int p1), .val (.long q2), .second] [])) _
    refine XS.aloadN X4.here hx rfl (hb hby d1_9) rfl rfl ?_
    show Steps p.tables e below (T4.setTop (mkF m 10 #[.val (.ref o0), .val (.int p1), .val (.long q2), .second] [(.ref o0)])) _
    refine XS.lloadN X4.here hx rfl (hb hby d1_10) rfl ?_
    show Steps p.tables e below (T4.setTop (mkF m 11 #[.val (.ref o0), .val (.int p1), .val (.long q2), .second] [(.long q2), (.ref o0)])) _
    refine st7 _ ?_
    show Steps p.tables e below (T7.setTop (mkF m 14 #[.val (.ref o0), .val (.int p1), .val (.long q2), .second] [])) _
    exact X7.returnOut hx Bd.returns (hb hby d1_14) hr
  · show Q1 Z o0 p1 q2 h0 n0 _ T7.heap _
    rw [e7]
    exact ⟨rfl, N7, J7, c8, Fw7⟩
theorem d5_0 : decode prog_17_method_5_code 0 = .ok (.aload_n 0, 1) := by decide +kernel
theorem d5_1 : decode prog_17_method_5_code 1 = .ok (.getfield 7, 3) := by decide +kernel
theorem d5_4 : decode prog_17_method_5_code 4 = .ok (.ireturn, 1) := by decide +kernel
theorem ef_5 (m : MethodId) (o0 : Addr) : entryFrame m #[(.ref o0)] 1 = mkF m 0 #[.val (.ref o0)] [] := by first | (simp [entryFrame, mkF, argsToLocals, Value.category]; done) | rfl
def Q5 (Z : State) (o0 : Addr) (w : Int32) (h0 : Heap) (n0 : Nat) (v : Option Value) (h : Heap) (L : List Loc) : Prop := v = some (.int (nar .boolean w)) ∧ Fr n0 L ∧ Keep h0 h []
set_option maxRecDepth 65536 in
set_option maxHeartbeats 40000000 in
theorem rm5 (l : Launch) (Z : State) (a0 : Array Value) (hw : ∀ d ∈ tables_1, d.before a0 Z = true) (ws : List Jvm.Cond) (o0 : Addr) (w : Int32) (h0 : Heap) (n0 : Nat) (Z0 : n0 ≤ h0.size) (F_healthy_o0 : Fld Z h0 o0 "com/example/pit_crew/pitcrew/Handle$Report" "healthy" "Z" (.int w)) :
    MetFree l (⟨"com/example/pit_crew/pitcrew/Handle$Report", "healthy", "()Z"⟩ : MethodName) (head1 (Jvm.Cond.code (⟨"com/example/pit_crew/pitcrew/Handle$Report", "healthy", "()Z"⟩ : MethodName) prog_17_method_5_code 1 (some .boolean) :: ws) ({ frames := 0, cells := 0, slots := 0, locals := 0 } : Room)) (fun a U => a = #[(.ref o0)] ∧ Z.Warmed39 U.vm ∧ U.heap = h0) (fun _ _ _ _ _ => True) (fun _ U o U' => ∃ v L, o = .returned v ∧ Q5 Z o0 w h0 n0 v U'.heap L ∧ FrameEnd U o U' L ({ frames := 0, cells := 0, slots := 0, locals := 0 } : Room).cells ({ frames := 0, cells := 0, slots := 0, locals := 0 } : Room).slots) := by
  refine MetFree.of_bodySF (plainFor_of_name pn_com_example_pit_crew_pitcrew_Handle_Report) hisR ?_
  intro p e s m args below meth c s₁ Bd hml0 hP hK
  obtain ⟨rfl, hZ, hh⟩ := hP
  have hx := Bd.exec
  have hby := Bd.bytes
  have hml : c.maxLocals = 1 := hml0
  have hown : s.vm.findClass "com/example/pit_crew/pitcrew/Handle$Report" = some m.cls := findClass_of_methodNamed Bd.named
  have hnm := (name_of_methodNamed Bd.named Bd.method).1
  have X0 : Stand p l e ({ frames := 0, cells := 0, slots := 0, locals := 0 } : Room) s m #[(.ref o0)] below meth c s₁ [] 0 0 := Stand.of_body Bd
  have e0 : s₁.heap = h0 := by rw [← hh, Bd.state]; rfl
  have N0 := Fr.nil n0
  have pre0 : ∀ t, Steps p.tables e below (s₁.setTop (mkF m 0 #[.val (.ref o0)] [])) t → Steps p.tables e below (s₁.setTop (entryFrame m #[(.ref o0)] 1)) t := fun t k => castTop (ef_5 m o0) k
  obtain ⟨T1, X1, e1, st1⟩ := getF X0 hx hZ hown (host := "") (Or.inl (hw _ (List.mem_of_getElem? (i := 14) rfl))) Via.refl e0 F_healthy_o0 (g := (mkF m 1 #[.val (.ref o0)] [(.ref o0)])) rfl rfl (hb hby d5_1)
  obtain ⟨fs, hr, hrun, hended, hW, hsame⟩ := X1.leave (v := some (.int (nar .boolean w))) (fun h => by rw [Bd.returns] at h; cases h)
  refine ⟨_, _, pre0 _ ?_, hrun, hended, _, _, rfl, ?_, ⟨_, rfl⟩, hW, hsame.mono (by decide) (by decide)⟩
  · show Steps p.tables e below (s₁.setTop (mkF m 0 #[.val (.ref o0)] [])) _
    refine XS.aloadN X0.here hx rfl (hb hby d5_0) rfl rfl ?_
    show Steps p.tables e below (s₁.setTop (mkF m 1 #[.val (.ref o0)] [(.ref o0)])) _
    refine st1 _ ?_
    show Steps p.tables e below (T1.setTop (mkF m 4 #[.val (.ref o0)] [(.int w)])) _
    exact retN X1 hx (t := .boolean) Bd.returns (by simp) (hb hby d5_4) hr
  · show Q5 Z o0 w h0 n0 _ T1.heap _
    rw [e1]
    exact ⟨rfl, N0, (Keep.refl h0 [])⟩
theorem d6_0 : decode prog_17_method_6_code 0 = .ok (.aload_n 0, 1) := by decide +kernel
theorem d6_1 : decode prog_17_method_6_code 1 = .ok (.getfield 13, 3) := by decide +kernel
theorem d6_4 : decode prog_17_method_6_code 4 = .ok (.lreturn, 1) := by decide +kernel
theorem ef_6 (m : MethodId) (o0 : Addr) : entryFrame m #[(.ref o0)] 1 = mkF m 0 #[.val (.ref o0)] [] := by first | (simp [entryFrame, mkF, argsToLocals, Value.category]; done) | rfl
def Q6 (Z : State) (o0 : Addr) (t : Int64) (h0 : Heap) (n0 : Nat) (v : Option Value) (h : Heap) (L : List Loc) : Prop := v = some (.long t) ∧ Fr n0 L ∧ Keep h0 h []
set_option maxRecDepth 65536 in
set_option maxHeartbeats 40000000 in
theorem rm6 (l : Launch) (Z : State) (a0 : Array Value) (hw : ∀ d ∈ tables_1, d.before a0 Z = true) (ws : List Jvm.Cond) (o0 : Addr) (t : Int64) (h0 : Heap) (n0 : Nat) (Z0 : n0 ≤ h0.size) (F_at_o0 : Fld Z h0 o0 "com/example/pit_crew/pitcrew/Handle$Report" "at" "J" (.long t)) :
    MetFree l (⟨"com/example/pit_crew/pitcrew/Handle$Report", "at", "()J"⟩ : MethodName) (head1 (Jvm.Cond.code (⟨"com/example/pit_crew/pitcrew/Handle$Report", "at", "()J"⟩ : MethodName) prog_17_method_6_code 1 (some .long) :: ws) ({ frames := 0, cells := 0, slots := 0, locals := 0 } : Room)) (fun a U => a = #[(.ref o0)] ∧ Z.Warmed39 U.vm ∧ U.heap = h0) (fun _ _ _ _ _ => True) (fun _ U o U' => ∃ v L, o = .returned v ∧ Q6 Z o0 t h0 n0 v U'.heap L ∧ FrameEnd U o U' L ({ frames := 0, cells := 0, slots := 0, locals := 0 } : Room).cells ({ frames := 0, cells := 0, slots := 0, locals := 0 } : Room).slots) := by
  refine MetFree.of_bodySF (plainFor_of_name pn_com_example_pit_crew_pitcrew_Handle_Report) hisR ?_
  intro p e s m args below meth c s₁ Bd hml0 hP hK
  obtain ⟨rfl, hZ, hh⟩ := hP
  have hx := Bd.exec
  have hby := Bd.bytes
  have hml : c.maxLocals = 1 := hml0
  have hown : s.vm.findClass "com/example/pit_crew/pitcrew/Handle$Report" = some m.cls := findClass_of_methodNamed Bd.named
  have hnm := (name_of_methodNamed Bd.named Bd.method).1
  have X0 : Stand p l e ({ frames := 0, cells := 0, slots := 0, locals := 0 } : Room) s m #[(.ref o0)] below meth c s₁ [] 0 0 := Stand.of_body Bd
  have e0 : s₁.heap = h0 := by rw [← hh, Bd.state]; rfl
  have N0 := Fr.nil n0
  have pre0 : ∀ t, Steps p.tables e below (s₁.setTop (mkF m 0 #[.val (.ref o0)] [])) t → Steps p.tables e below (s₁.setTop (entryFrame m #[(.ref o0)] 1)) t := fun t k => castTop (ef_6 m o0) k
  obtain ⟨T1, X1, e1, st1⟩ := getF X0 hx hZ hown (host := "") (Or.inl (hw _ (List.mem_of_getElem? (i := 16) rfl))) Via.refl e0 F_at_o0 (g := (mkF m 1 #[.val (.ref o0)] [(.ref o0)])) rfl rfl (hb hby d6_1)
  obtain ⟨fs, hr, hrun, hended, hW, hsame⟩ := X1.leave (v := some (.long t)) (fun h => by rw [Bd.returns] at h; cases h)
  refine ⟨_, _, pre0 _ ?_, hrun, hended, _, _, rfl, ?_, ⟨_, rfl⟩, hW, hsame.mono (by decide) (by decide)⟩
  · show Steps p.tables e below (s₁.setTop (mkF m 0 #[.val (.ref o0)] [])) _
    refine XS.aloadN X0.here hx rfl (hb hby d6_0) rfl rfl ?_
    show Steps p.tables e below (s₁.setTop (mkF m 1 #[.val (.ref o0)] [(.ref o0)])) _
    refine st1 _ ?_
    show Steps p.tables e below (T1.setTop (mkF m 4 #[.val (.ref o0)] [(.long t)])) _
    jvm_step X1.here [X1.here.top, hx, (hb hby d6_4), X1.method', Bd.returns, narrow]
    first | (intro acts; rw [hr _ acts rfl rfl rfl]) | rw [hr _ _ rfl rfl rfl]
    exact Steps.refl _
  · show Q6 Z o0 t h0 n0 _ T1.heap _
    rw [e1]
    exact ⟨rfl, N0, (Keep.refl h0 [])⟩
theorem d4_0 : decode prog_19_method_6_code 0 = .ok (.aload_n 0, 1) := by decide +kernel
theorem d4_1 : decode prog_19_method_6_code 1 = .ok (.ifnull 30, 3) := by decide +kernel
theorem d4_4 : decode prog_19_method_6_code 4 = .ok (.iload_n 1, 1) := by decide +kernel
theorem d4_5 : decode prog_19_method_6_code 5 = .ok (.ifCond .ne 26, 3) := by decide +kernel
theorem d4_8 : decode prog_19_method_6_code 8 = .ok (.aload_n 0, 1) := by decide +kernel
theorem d4_9 : decode prog_19_method_6_code 9 = .ok (.invokevirtual 154, 3) := by decide +kernel
theorem d4_12 : decode prog_19_method_6_code 12 = .ok (.ifCond .eq 15, 3) := by decide +kernel
theorem d4_15 : decode prog_19_method_6_code 15 = .ok (.lload 4, 2) := by decide +kernel
theorem d4_17 : decode prog_19_method_6_code 17 = .ok (.aload_n 0, 1) := by decide +kernel
theorem d4_18 : decode prog_19_method_6_code 18 = .ok (.invokevirtual 159, 3) := by decide +kernel
theorem d4_21 : decode prog_19_method_6_code 21 = .ok (.lsub, 1) := by decide +kernel
theorem d4_22 : decode prog_19_method_6_code 22 = .ok (.lload_n 2, 1) := by decide +kernel
theorem d4_23 : decode prog_19_method_6_code 23 = .ok (.lcmp, 1) := by decide +kernel
theorem d4_24 : decode prog_19_method_6_code 24 = .ok (.ifCond .le 7, 3) := by decide +kernel
theorem d4_27 : decode prog_19_method_6_code 27 = .ok (.iconst 1, 1) := by decide +kernel
theorem d4_28 : decode prog_19_method_6_code 28 = .ok (.goto 4, 3) := by decide +kernel
theorem d4_31 : decode prog_19_method_6_code 31 = .ok (.iconst 0, 1) := by decide +kernel
theorem d4_32 : decode prog_19_method_6_code 32 = .ok (.ireturn, 1) := by decide +kernel
theorem pn_com_example_pit_crew_pitcrew_HealthWatch : plainName "com/example/pit_crew/pitcrew/HealthWatch" = true := by first | (simp [plainName, overriddenIn]; done) | decide +kernel
theorem pd_1 : parseMethodDescriptor "()Z" = some ⟨[], some .boolean⟩ := by decide +kernel
theorem pd_2 : parseMethodDescriptor "()J" = some ⟨[], some .long⟩ := by decide +kernel
theorem ef_4 (m : MethodId) (o0 : Addr) (p1 : Int32) (q2 : Int64) (q3 : Int64) : entryFrame m #[(.ref o0), (.int p1), (.long q2), (.long q3)] 6 = mkF m 0 #[.val (.ref o0), .val (.int p1), .val (.long q2), .second, .val (.long q3), .second] [] := by first | (simp [entryFrame, mkF, argsToLocals, Value.category]; done) | rfl
def Q4 (Z : State) (o0 : Addr) (p1 : Int32) (q2 : Int64) (q3 : Int64) (w : Int32) (t : Int64) (h0 : Heap) (n0 : Nat) (v : Option Value) (h : Heap) (L : List Loc) : Prop := v = some (.int (own_st p1 w q2 q3 t)) ∧ Fr n0 L ∧ Keep h0 h []
set_option maxRecDepth 65536 in
set_option maxHeartbeats 40000000 in
theorem rm4 (l : Launch) (Z : State) (a0 : Array Value) (hw : ∀ d ∈ tables_1, d.before a0 Z = true) (ws : List Jvm.Cond) (o0 : Addr) (p1 : Int32) (q2 : Int64) (q3 : Int64) (w : Int32) (t : Int64) (h0 : Heap) (n0 : Nat) (Z0 : n0 ≤ h0.size) (E_o0 : Exa Z h0 o0 "com/example/pit_crew/pitcrew/Handle$Report") (F_healthy_o0 : Fld Z h0 o0 "com/example/pit_crew/pitcrew/Handle$Report" "healthy" "Z" (.int w)) (F_at_o0 : Fld Z h0 o0 "com/example/pit_crew/pitcrew/Handle$Report" "at" "J" (.long t)) :
    MetFree l (⟨"com/example/pit_crew/pitcrew/HealthWatch", "stalled", "(Lcom/example/pit_crew/pitcrew/Handle$Report;ZJJ)Z"⟩ : MethodName) (head1 (Jvm.Cond.code (⟨"com/example/pit_crew/pitcrew/HealthWatch", "stalled", "(Lcom/example/pit_crew/pitcrew/Handle$Report;ZJJ)Z"⟩ : MethodName) prog_19_method_6_code 6 (some .boolean) :: ws) ({ frames := 1, cells := 0, slots := 0, locals := 14 } : Room)) (fun a U => a = #[(.ref o0), (.int p1), (.long q2), (.long q3)] ∧ Z.Warmed39 U.vm ∧ U.heap = h0) (fun _ _ _ _ _ => True) (fun _ U o U' => ∃ v L, o = .returned v ∧ Q4 Z o0 p1 q2 q3 w t h0 n0 v U'.heap L ∧ FrameEnd U o U' L ({ frames := 1, cells := 0, slots := 0, locals := 14 } : Room).cells ({ frames := 1, cells := 0, slots := 0, locals := 14 } : Room).slots) := by
  refine MetFree.of_bodySF (plainFor_of_name pn_com_example_pit_crew_pitcrew_HealthWatch) hisR ?_
  intro p e s m args below meth c s₁ Bd hml0 hP hK
  obtain ⟨rfl, hZ, hh⟩ := hP
  have hx := Bd.exec
  have hby := Bd.bytes
  have hml : c.maxLocals = 6 := hml0
  have hown : s.vm.findClass "com/example/pit_crew/pitcrew/HealthWatch" = some m.cls := findClass_of_methodNamed Bd.named
  have hnm := (name_of_methodNamed Bd.named Bd.method).1
  have X0 : Stand p l e ({ frames := 1, cells := 0, slots := 0, locals := 14 } : Room) s m #[(.ref o0), (.int p1), (.long q2), (.long q3)] below meth c s₁ [] 0 0 := Stand.of_body Bd
  have e0 : s₁.heap = h0 := by rw [← hh, Bd.state]; rfl
  have N0 := Fr.nil n0
  have pre0 : ∀ t, Steps p.tables e below (s₁.setTop (mkF m 0 #[.val (.ref o0), .val (.int p1), .val (.long q2), .second, .val (.long q3), .second] [])) t → Steps p.tables e below (s₁.setTop (entryFrame m #[(.ref o0), (.int p1), (.long q2), (.long q3)] 6)) t := fun t k => castTop (ef_4 m o0 p1 q2 q3) k
  have pre1 : ∀ t, Steps p.tables e below (s₁.setTop (mkF m 5 #[.val (.ref o0), .val (.int p1), .val (.long q2), .second, .val (.long q3), .second] [(.int p1)])) t → Steps p.tables e below (s₁.setTop (entryFrame m #[(.ref o0), (.int p1), (.long q2), (.long q3)] 6)) t := by
    intro t kt
    refine pre0 _ ?_
    show Steps p.tables e below (s₁.setTop (mkF m 0 #[.val (.ref o0), .val (.int p1), .val (.long q2), .second, .val (.long q3), .second] [])) _
    refine XS.aloadN X0.here hx rfl (hb hby d4_0) rfl rfl ?_
    show Steps p.tables e below (s₁.setTop (mkF m 1 #[.val (.ref o0), .val (.int p1), .val (.long q2), .second, .val (.long q3), .second] [(.ref o0)])) _
    refine XS.ifnullNo X0.here hx rfl (hb hby d4_1) rfl ?_
    show Steps p.tables e below (s₁.setTop (mkF m 4 #[.val (.ref o0), .val (.int p1), .val (.long q2), .second, .val (.long q3), .second] [])) _
    refine XS.iloadN X0.here hx rfl (hb hby d4_4) rfl ?_
    exact kt
  by_cases hc5_2 : p1 = (0 : Int32)
  · skip
    obtain ⟨cq3, kq3, q3a, q3b, q3c⟩ := isOf hZ e0 E_o0
    -- pc 9: Handle$Report.healthy by rm5
    obtain ⟨_, _, ⟨T3, L3, k3, n3⟩, -, X3, ⟨Lc3, hQ3, l3, y3, z3'⟩, st3⟩ := X0.virtualBack hx (y := (⟨"com/example/pit_crew/pitcrew/Handle$Report", "healthy", "()Z"⟩ : MethodName)) (z := (⟨"com/example/pit_crew/pitcrew/Handle$Report", "healthy", "()Z"⟩ : MethodName)) hown (mvT hZ (hw _ (List.mem_of_getElem? (i := 22) rfl))) (mvT hZ (hw _ (List.mem_of_getElem? (i := 23) rfl))) (notFace_of_selects (args := #[]) (mvT hZ (hw _ (List.mem_of_getElem? (i := 25) rfl)))) (mvT hZ (hw _ (List.mem_of_getElem? (i := 25) rfl))) (mvT hZ (hw _ (List.mem_of_getElem? (i := 24) rfl))) (by decide) (backOf (W := 0) (rm5 l Z a0 hw [] o0 w h0 n0 Z0 F_healthy_o0) hZ (hw _ (List.mem_of_getElem? (i := 26) rfl)) (hw _ (List.mem_of_getElem? (i := 2) rfl)) (by decide) (by decide)) q3a q3c (g := (mkF m 9 #[.val (.ref o0), .val (.int p1), .val (.long q2), .second, .val (.long q3), .second] [(.ref o0)])) rfl (by rw [hml]; rfl) (Steps.refl _) (argsL := []) (rest := []) (lenOf pd_1 rfl) rfl (by show 2 * 0 + _ ≤ _; exact Nat.le_of_eq rfl) (hb hby d4_9) (fun _ _ => ⟨rfl, e0, (by decide : 0 + 0 ≤ _), (by decide : 0 + 0 ≤ _)⟩)
    dsimp only [Pt.U, Pt.locs, Pt.cells, Pt.slots] at X3 l3 y3 z3' st3 hQ3
    subst l3 y3 z3'
    obtain ⟨rfl, N3q, K3⟩ := hQ3
    have N3 := Fr.app N0 N3q
    have J3 : Keep h0 T3.heap [] := (Keep.refl h0 []).trans K3 all0
    have pre4 : ∀ t, Steps p.tables e below (T3.setTop (mkF m 12 #[.val (.ref o0), .val (.int p1), .val (.long q2), .second, .val (.long q3), .second] [(.int (nar .boolean w))])) t → Steps p.tables e below (s₁.setTop (entryFrame m #[(.ref o0), (.int p1), (.long q2), (.long q3)] 6)) t := by
      intro t kt
      refine pre1 _ ?_
      show Steps p.tables e below (s₁.setTop (mkF m 5 #[.val (.ref o0), .val (.int p1), .val (.long q2), .second, .val (.long q3), .second] [(.int p1)])) _
      refine XS.ifNo X0.here hx rfl (hb hby d4_5) rfl ((if0 _ _).trans (teq hc5_2).2) ?_
      show Steps p.tables e below (s₁.setTop (mkF m 8 #[.val (.ref o0), .val (.int p1), .val (.long q2), .second, .val (.long q3), .second] [])) _
      refine XS.aloadN X0.here hx rfl (hb hby d4_8) rfl rfl ?_
      show Steps p.tables e below (s₁.setTop (mkF m 9 #[.val (.ref o0), .val (.int p1), .val (.long q2), .second, .val (.long q3), .second] [(.ref o0)])) _
      refine st3.trans ?_
      exact kt
    by_cases hc12_5 : (nar .boolean w) = (0 : Int32)
    · skip
      obtain ⟨fs, hr, hrun, hended, hW, hsame⟩ := X3.leave (v := some (.int (1 : Int32))) (fun h => by rw [Bd.returns] at h; cases h)
      refine ⟨_, _, pre4 _ ?_, hrun, hended, _, _, rfl, ?_, ⟨_, rfl⟩, hW, hsame.mono (by decide) (by decide)⟩
      · show Steps p.tables e below (T3.setTop (mkF m 12 #[.val (.ref o0), .val (.int p1), .val (.long q2), .second, .val (.long q3), .second] [(.int (nar .boolean w))])) _
        refine XS.ifYes X3.here hx rfl (pc0 := 12) (pc' := 27) rfl (hb hby d4_12) rfl ((if0 _ _).trans (teq hc12_5).1) (by decide) (by decide) ?_
        show Steps p.tables e below (T3.setTop (mkF m 27 #[.val (.ref o0), .val (.int p1), .val (.long q2), .second, .val (.long q3), .second] [])) _
        refine XS.iconst X3.here hx rfl (hb hby d4_27) ?_
        show Steps p.tables e below (T3.setTop (mkF m 28 #[.val (.ref o0), .val (.int p1), .val (.long q2), .second, .val (.long q3), .second] [(.int (1 : Int32))])) _
        refine XS.goto X3.here hx rfl (pc0 := 28) (pc' := 32) rfl (hb hby d4_28) (by decide) (by decide) ?_
        show Steps p.tables e below (T3.setTop (mkF m 32 #[.val (.ref o0), .val (.int p1), .val (.long q2), .second, .val (.long q3), .second] [(.int (1 : Int32))])) _
        exact retN X3 hx (t := .boolean) Bd.returns (by simp) (hb hby d4_32) hr
      · show Q4 Z o0 p1 q2 q3 w t h0 n0 _ T3.heap _
        exact ⟨by rw [own_st2 hc5_2 hc12_5], N3, J3⟩
    · skip
      have c6 : Fld Z T3.heap o0 "com/example/pit_crew/pitcrew/Handle$Report" "at" "J" (.long t) := (F_at_o0.keep K3 nin0)
      have z7 : n0 ≤ T3.heap.size := (Nat.le_trans Z0 K3.1)
      have c9 : Exa Z T3.heap o0 "com/example/pit_crew/pitcrew/Handle$Report" := (E_o0.keep K3)
      obtain ⟨cq8, kq8, q8a, q8b, q8c⟩ := isOf hZ rfl c9
      -- pc 18: Handle$Report.at by rm6
      obtain ⟨_, _, ⟨T8, L8, k8, n8⟩, -, X8, ⟨Lc8, hQ8, l8, y8, z8'⟩, st8⟩ := X3.virtualBack hx (y := (⟨"com/example/pit_crew/pitcrew/Handle$Report", "at", "()J"⟩ : MethodName)) (z := (⟨"com/example/pit_crew/pitcrew/Handle$Report", "at", "()J"⟩ : MethodName)) hown (mvT hZ (hw _ (List.mem_of_getElem? (i := 28) rfl))) (mvT hZ (hw _ (List.mem_of_getElem? (i := 29) rfl))) (notFace_of_selects (args := #[]) (mvT hZ (hw _ (List.mem_of_getElem? (i := 31) rfl)))) (mvT hZ (hw _ (List.mem_of_getElem? (i := 31) rfl))) (mvT hZ (hw _ (List.mem_of_getElem? (i := 30) rfl))) (by decide) (backOf (W := 2) (rm6 l Z a0 hw [] o0 t T3.heap n0 z7 c6) hZ (hw _ (List.mem_of_getElem? (i := 32) rfl)) (hw _ (List.mem_of_getElem? (i := 2) rfl)) (by decide) (by decide)) q8a q8c (g := (mkF m 18 #[.val (.ref o0), .val (.int p1), .val (.long q2), .second, .val (.long q3), .second] [(.ref o0), (.long q3)])) rfl (by rw [hml]; rfl) (Steps.refl _) (argsL := []) (rest := [(.long q3)]) (lenOf pd_2 rfl) rfl (by show 2 * 0 + _ ≤ _; exact Nat.le_of_eq rfl) (hb hby d4_18) (fun _ _ => ⟨rfl, rfl, (by decide : 0 + 0 ≤ _), (by decide : 0 + 0 ≤ _)⟩)
      dsimp only [Pt.U, Pt.locs, Pt.cells, Pt.slots] at X8 l8 y8 z8' st8 hQ8
      subst l8 y8 z8'
      obtain ⟨rfl, N8q, K8⟩ := hQ8
      have N8 := Fr.app N3 N8q
      have J8 : Keep h0 T8.heap [] := J3.trans K8 all0
      obtain ⟨fs, hr, hrun, hended, hW, hsame⟩ := X8.leave (v := some (.int (nar .boolean (if q2 < (q3 - t) then (1 : Int32) else 0)))) (fun h => by rw [Bd.returns] at h; cases h)
      refine ⟨_, _, pre4 _ ?_, hrun, hended, _, _, rfl, ?_, ⟨_, rfl⟩, hW, hsame.mono (by decide) (by decide)⟩
      · show Steps p.tables e below (T3.setTop (mkF m 12 #[.val (.ref o0), .val (.int p1), .val (.long q2), .second, .val (.long q3), .second] [(.int (nar .boolean w))])) _
        refine XS.ifNo X3.here hx rfl (hb hby d4_12) rfl ((if0 _ _).trans (feq hc12_5).1) ?_
        show Steps p.tables e below (T3.setTop (mkF m 15 #[.val (.ref o0), .val (.int p1), .val (.long q2), .second, .val (.long q3), .second] [])) _
        refine XS.lload X3.here hx rfl (hb hby d4_15) rfl ?_
        show Steps p.tables e below (T3.setTop (mkF m 17 #[.val (.ref o0), .val (.int p1), .val (.long q2), .second, .val (.long q3), .second] [(.long q3)])) _
        refine XS.aloadN X3.here hx rfl (hb hby d4_17) rfl rfl ?_
        show Steps p.tables e below (T3.setTop (mkF m 18 #[.val (.ref o0), .val (.int p1), .val (.long q2), .second, .val (.long q3), .second] [(.ref o0), (.long q3)])) _
        refine st8.trans ?_
        show Steps p.tables e below (T8.setTop (mkF m 21 #[.val (.ref o0), .val (.int p1), .val (.long q2), .second, .val (.long q3), .second] [(.long t), (.long q3)])) _
        refine XS.lsub X8.here hx rfl (hb hby d4_21) rfl ?_
        show Steps p.tables e below (T8.setTop (mkF m 22 #[.val (.ref o0), .val (.int p1), .val (.long q2), .second, .val (.long q3), .second] [(.long (q3 - t))])) _
        refine XS.lloadN X8.here hx rfl (hb hby d4_22) rfl ?_
        show Steps p.tables e below (T8.setTop (mkF m 23 #[.val (.ref o0), .val (.int p1), .val (.long q2), .second, .val (.long q3), .second] [(.long q2), (.long (q3 - t))])) _
        refine XS.lcmp X8.here hx rfl (hb hby d4_23) rfl ?_
        show Steps p.tables e below (T8.setTop (mkF m 24 #[.val (.ref o0), .val (.int p1), .val (.long q2), .second, .val (.long q3), .second] [(.int (lcmpW (q3 - t) q2))])) _
        refine own_diaF X8.here hx rfl (pc0 := 24) rfl (hb hby d4_24) (hb hby d4_27) (hb hby d4_28) (hb hby d4_31) rfl (fun hq => ((if0 _ _).trans (tlt ((lw_gt _ _).mpr hq)).2.2.2)) (fun hq => ((if0 _ _).trans (flt (mt (lw_gt _ _).mp hq)).2.2.2)) ?_
        show Steps p.tables e below (T8.setTop (mkF m 32 #[.val (.ref o0), .val (.int p1), .val (.long q2), .second, .val (.long q3), .second] [(.int (if q2 < (q3 - t) then (1 : Int32) else 0))])) _
        exact retN X8 hx (t := .boolean) Bd.returns (by simp) (hb hby d4_32) hr
      · show Q4 Z o0 p1 q2 q3 w t h0 n0 _ T8.heap _
        exact ⟨by rw [own_nb10, own_st3 hc5_2 hc12_5], N8, J8⟩
  · skip
    obtain ⟨fs, hr, hrun, hended, hW, hsame⟩ := X0.leave (v := some (.int (0 : Int32))) (fun h => by rw [Bd.returns] at h; cases h)
    refine ⟨_, _, pre1 _ ?_, hrun, hended, _, _, rfl, ?_, ⟨_, rfl⟩, hW, hsame.mono (by decide) (by decide)⟩
    · show Steps p.tables e below (s₁.setTop (mkF m 5 #[.val (.ref o0), .val (.int p1), .val (.long q2), .second, .val (.long q3), .second] [(.int p1)])) _
      refine XS.ifYes X0.here hx rfl (pc0 := 5) (pc' := 31) rfl (hb hby d4_5) rfl ((if0 _ _).trans (feq hc5_2).2) (by decide) (by decide) ?_
      show Steps p.tables e below (s₁.setTop (mkF m 31 #[.val (.ref o0), .val (.int p1), .val (.long q2), .second, .val (.long q3), .second] [])) _
      refine XS.iconst X0.here hx rfl (hb hby d4_31) ?_
      show Steps p.tables e below (s₁.setTop (mkF m 32 #[.val (.ref o0), .val (.int p1), .val (.long q2), .second, .val (.long q3), .second] [(.int (0 : Int32))])) _
      exact retN X0 hx (t := .boolean) Bd.returns (by simp) (hb hby d4_32) hr
    · show Q4 Z o0 p1 q2 q3 w t h0 n0 _ s₁.heap _
      rw [e0]
      exact ⟨by rw [own_st1 hc5_2], N0, (Keep.refl h0 [])⟩
theorem ef_4n (m : MethodId) (p1 : Int32) (q2 : Int64) (q3 : Int64) : entryFrame m #[.null, (.int p1), (.long q2), (.long q3)] 6 = mkF m 0 #[.val .null, .val (.int p1), .val (.long q2), .second, .val (.long q3), .second] [] := by first | (simp [entryFrame, mkF, argsToLocals, Value.category]; done) | rfl
def Q4n (Z : State) (p1 : Int32) (q2 : Int64) (q3 : Int64) (h0 : Heap) (n0 : Nat) (v : Option Value) (h : Heap) (L : List Loc) : Prop := v = some (.int (0 : Int32)) ∧ Fr n0 L ∧ Keep h0 h []
set_option maxRecDepth 65536 in
set_option maxHeartbeats 40000000 in
theorem rm4n (l : Launch) (Z : State) (a0 : Array Value) (hw : ∀ d ∈ tables_1, d.before a0 Z = true) (ws : List Jvm.Cond) (p1 : Int32) (q2 : Int64) (q3 : Int64) (h0 : Heap) (n0 : Nat) (Z0 : n0 ≤ h0.size) :
    MetFree l (⟨"com/example/pit_crew/pitcrew/HealthWatch", "stalled", "(Lcom/example/pit_crew/pitcrew/Handle$Report;ZJJ)Z"⟩ : MethodName) (head1 (Jvm.Cond.code (⟨"com/example/pit_crew/pitcrew/HealthWatch", "stalled", "(Lcom/example/pit_crew/pitcrew/Handle$Report;ZJJ)Z"⟩ : MethodName) prog_19_method_6_code 6 (some .boolean) :: ws) ({ frames := 0, cells := 0, slots := 0, locals := 0 } : Room)) (fun a U => a = #[.null, (.int p1), (.long q2), (.long q3)] ∧ Z.Warmed39 U.vm ∧ U.heap = h0) (fun _ _ _ _ _ => True) (fun _ U o U' => ∃ v L, o = .returned v ∧ Q4n Z p1 q2 q3 h0 n0 v U'.heap L ∧ FrameEnd U o U' L ({ frames := 0, cells := 0, slots := 0, locals := 0 } : Room).cells ({ frames := 0, cells := 0, slots := 0, locals := 0 } : Room).slots) := by
  refine MetFree.of_bodySF (plainFor_of_name pn_com_example_pit_crew_pitcrew_HealthWatch) hisR ?_
  intro p e s m args below meth c s₁ Bd hml0 hP hK
  obtain ⟨rfl, hZ, hh⟩ := hP
  have hx := Bd.exec
  have hby := Bd.bytes
  have hml : c.maxLocals = 6 := hml0
  have hown : s.vm.findClass "com/example/pit_crew/pitcrew/HealthWatch" = some m.cls := findClass_of_methodNamed Bd.named
  have hnm := (name_of_methodNamed Bd.named Bd.method).1
  have X0 : Stand p l e ({ frames := 0, cells := 0, slots := 0, locals := 0 } : Room) s m #[.null, (.int p1), (.long q2), (.long q3)] below meth c s₁ [] 0 0 := Stand.of_body Bd
  have e0 : s₁.heap = h0 := by rw [← hh, Bd.state]; rfl
  have N0 := Fr.nil n0
  have pre0 : ∀ t, Steps p.tables e below (s₁.setTop (mkF m 0 #[.val .null, .val (.int p1), .val (.long q2), .second, .val (.long q3), .second] [])) t → Steps p.tables e below (s₁.setTop (entryFrame m #[.null, (.int p1), (.long q2), (.long q3)] 6)) t := fun t k => castTop (ef_4n m p1 q2 q3) k
  obtain ⟨fs, hr, hrun, hended, hW, hsame⟩ := X0.leave (v := some (.int (0 : Int32))) (fun h => by rw [Bd.returns] at h; cases h)
  refine ⟨_, _, pre0 _ ?_, hrun, hended, _, _, rfl, ?_, ⟨_, rfl⟩, hW, hsame.mono (by decide) (by decide)⟩
  · show Steps p.tables e below (s₁.setTop (mkF m 0 #[.val .null, .val (.int p1), .val (.long q2), .second, .val (.long q3), .second] [])) _
    refine XS.aloadN X0.here hx rfl (hb hby d4_0) rfl rfl ?_
    show Steps p.tables e below (s₁.setTop (mkF m 1 #[.val .null, .val (.int p1), .val (.long q2), .second, .val (.long q3), .second] [.null])) _
    refine XS.ifnullYes X0.here hx rfl (pc0 := 1) (pc' := 31) rfl (hb hby d4_1) rfl (by decide) (by decide) ?_
    show Steps p.tables e below (s₁.setTop (mkF m 31 #[.val .null, .val (.int p1), .val (.long q2), .second, .val (.long q3), .second] [])) _
    refine XS.iconst X0.here hx rfl (hb hby d4_31) ?_
    show Steps p.tables e below (s₁.setTop (mkF m 32 #[.val .null, .val (.int p1), .val (.long q2), .second, .val (.long q3), .second] [(.int (0 : Int32))])) _
    exact retN X0 hx (t := .boolean) Bd.returns (by simp) (hb hby d4_32) hr
  · show Q4n Z p1 q2 q3 h0 n0 _ s₁.heap _
    rw [e0]
    exact ⟨rfl, N0, (Keep.refl h0 [])⟩
theorem pn_com_example_pit_crew_pitcrew_HealthWatchStalledPinLaw : plainName "com/example/pit_crew/pitcrew/HealthWatchStalledPinLaw" = true := by first | (simp [plainName, overriddenIn]; done) | decide +kernel
theorem pd_3 : parseMethodDescriptor "(ZJ)V" = some ⟨[.boolean, .long], none⟩ := by decide +kernel
theorem pd_4 : parseMethodDescriptor "(Lcom/example/pit_crew/pitcrew/Handle$Report;ZJJ)Z" = some ⟨[(.object "com/example/pit_crew/pitcrew/Handle$Report"), .boolean, .long, .long], some .boolean⟩ := by decide +kernel
theorem ef_0 (m : MethodId) (p0 : Int32) (q1 : Int64) (q2 : Int64) (q3 : Int64) : entryFrame m #[(.int p0), (.long q1), (.long q2), (.long q3)] maxLocals = mkF m 0 #[.val (.int p0), .val (.long q1), .second, .val (.long q2), .second, .val (.long q3), .second, .unset, .unset, .unset, .unset, .unset, .unset, .unset, .unset, .unset, .unset, .unset, .unset] [] := by first | (simp [entryFrame, mkF, argsToLocals, Value.category, maxLocals]; done) | rfl
def Q0 (Z : State) (p0 : Int32) (q1 : Int64) (q2 : Int64) (q3 : Int64) (h0 : Heap) (n0 : Nat) (v : Option Value) (h : Heap) (L : List Loc) : Prop := v = some (.int (1 : Int32)) ∧ Fr n0 L
set_option maxRecDepth 65536 in
set_option maxHeartbeats 40000000 in
theorem rm0 (l : Launch) (Z : State) (a0 : Array Value) (hw : ∀ d ∈ tables_1, d.before a0 Z = true) (ws : List Jvm.Cond) (p0 : Int32) (q1 : Int64) (q2 : Int64) (q3 : Int64) (h0 : Heap) (n0 : Nat) (Z0 : n0 ≤ h0.size) :
    MetFree l x (head1 (Jvm.Cond.code x code maxLocals ret :: ws) room_1) (fun a U => a = #[(.int p0), (.long q1), (.long q2), (.long q3)] ∧ Z.Warmed39 U.vm ∧ U.heap = h0) (fun _ _ _ _ _ => True) (fun _ U o U' => ∃ v L, o = .returned v ∧ Q0 Z p0 q1 q2 q3 h0 n0 v U'.heap L ∧ FrameEnd U o U' L room_1.cells room_1.slots) := by
  refine MetFree.of_bodySF (plainFor_of_name pn_com_example_pit_crew_pitcrew_HealthWatchStalledPinLaw) hisR ?_
  intro p e s m args below meth c s₁ Bd hml0 hP hK
  obtain ⟨rfl, hZ, hh⟩ := hP
  have hx := Bd.exec
  have hby := Bd.bytes
  have hml : c.maxLocals = 19 := hml0
  have hown : s.vm.findClass "com/example/pit_crew/pitcrew/HealthWatchStalledPinLaw" = some m.cls := findClass_of_methodNamed Bd.named
  have hnm := (name_of_methodNamed Bd.named Bd.method).1
  have X0 : Stand p l e room_1 s m #[(.int p0), (.long q1), (.long q2), (.long q3)] below meth c s₁ [] 0 0 := Stand.of_body Bd
  have e0 : s₁.heap = h0 := by rw [← hh, Bd.state]; rfl
  have N0 := Fr.nil n0
  have pre0 : ∀ t, Steps p.tables e below (s₁.setTop (mkF m 0 #[.val (.int p0), .val (.long q1), .second, .val (.long q2), .second, .val (.long q3), .second, .unset, .unset, .unset, .unset, .unset, .unset, .unset, .unset, .unset, .unset, .unset, .unset] [])) t → Steps p.tables e below (s₁.setTop (entryFrame m #[(.int p0), (.long q1), (.long q2), (.long q3)] maxLocals)) t := fun t k => castTop (ef_0 m p0 q1 q2 q3) k
  obtain ⟨d, e_d⟩ : ∃ z : Int64, z = (if (p0 &&& (8 : Int32)) = (0 : Int32) then q2 else (q3 + ((q2 &&& (3 : Int64)) - (1 : Int64)))) := ⟨_, rfl⟩
  have pre2 : ∀ t, Steps p.tables e below (s₁.setTop (mkF m 76 #[.val (.int p0), .val (.long q1), .second, .val (.long q2), .second, .val (.long q3), .second, .val (.int (if (p0 &&& (1 : Int32)) = (0 : Int32) then (0 : Int32) else 1)), .val (.int (if (p0 &&& (2 : Int32)) = (0 : Int32) then (0 : Int32) else 1)), .val (.int (if (p0 &&& (4 : Int32)) = (0 : Int32) then (0 : Int32) else 1)), .val (.int (if (p0 &&& (8 : Int32)) = (0 : Int32) then (0 : Int32) else 1)), .val (.long d), .second, .unset, .unset, .unset, .unset, .unset, .unset] [])) t → Steps p.tables e below (s₁.setTop (entryFrame m #[(.int p0), (.long q1), (.long q2), (.long q3)] maxLocals)) t := by
    intro t kt
    refine pre0 _ ?_
    show Steps p.tables e below (s₁.setTop (mkF m 0 #[.val (.int p0), .val (.long q1), .second, .val (.long q2), .second, .val (.long q3), .second, .unset, .unset, .unset, .unset, .unset, .unset, .unset, .unset, .unset, .unset, .unset, .unset] [])) _
    refine XS.iloadN X0.here hx rfl (hb hby at_0) rfl ?_
    show Steps p.tables e below (s₁.setTop (mkF m 1 #[.val (.int p0), .val (.long q1), .second, .val (.long q2), .second, .val (.long q3), .second, .unset, .unset, .unset, .unset, .unset, .unset, .unset, .unset, .unset, .unset, .unset, .unset] [(.int p0)])) _
    refine XS.iconst X0.here hx rfl (hb hby at_1) ?_
    show Steps p.tables e below (s₁.setTop (mkF m 2 #[.val (.int p0), .val (.long q1), .second, .val (.long q2), .second, .val (.long q3), .second, .unset, .unset, .unset, .unset, .unset, .unset, .unset, .unset, .unset, .unset, .unset, .unset] [(.int (1 : Int32)), (.int p0)])) _
    refine XS.iand X0.here hx rfl (hb hby at_2) rfl ?_
    show Steps p.tables e below (s₁.setTop (mkF m 3 #[.val (.int p0), .val (.long q1), .second, .val (.long q2), .second, .val (.long q3), .second, .unset, .unset, .unset, .unset, .unset, .unset, .unset, .unset, .unset, .unset, .unset, .unset] [(.int (p0 &&& (1 : Int32)))])) _
    refine own_diaT X0.here hx rfl (pc0 := 3) rfl (hb hby at_3) (hb hby at_6) (hb hby at_7) (hb hby at_10) rfl (fun hq => ((if0 _ _).trans (teq hq).1)) (fun hq => ((if0 _ _).trans (feq hq).1)) ?_
    show Steps p.tables e below (s₁.setTop (mkF m 11 #[.val (.int p0), .val (.long q1), .second, .val (.long q2), .second, .val (.long q3), .second, .unset, .unset, .unset, .unset, .unset, .unset, .unset, .unset, .unset, .unset, .unset, .unset] [(.int (if (p0 &&& (1 : Int32)) = (0 : Int32) then (0 : Int32) else 1))])) _
    refine XS.istore X0.here hx rfl (hb hby at_11) rfl (l' := #[.val (.int p0), .val (.long q1), .second, .val (.long q2), .second, .val (.long q3), .second, .val (.int (if (p0 &&& (1 : Int32)) = (0 : Int32) then (0 : Int32) else 1)), .unset, .unset, .unset, .unset, .unset, .unset, .unset, .unset, .unset, .unset, .unset]) rfl ?_
    show Steps p.tables e below (s₁.setTop (mkF m 13 #[.val (.int p0), .val (.long q1), .second, .val (.long q2), .second, .val (.long q3), .second, .val (.int (if (p0 &&& (1 : Int32)) = (0 : Int32) then (0 : Int32) else 1)), .unset, .unset, .unset, .unset, .unset, .unset, .unset, .unset, .unset, .unset, .unset] [])) _
    refine XS.iloadN X0.here hx rfl (hb hby at_13) rfl ?_
    show Steps p.tables e below (s₁.setTop (mkF m 14 #[.val (.int p0), .val (.long q1), .second, .val (.long q2), .second, .val (.long q3), .second, .val (.int (if (p0 &&& (1 : Int32)) = (0 : Int32) then (0 : Int32) else 1)), .unset, .unset, .unset, .unset, .unset, .unset, .unset, .unset, .unset, .unset, .unset] [(.int p0)])) _
    refine XS.iconst X0.here hx rfl (hb hby at_14) ?_
    show Steps p.tables e below (s₁.setTop (mkF m 15 #[.val (.int p0), .val (.long q1), .second, .val (.long q2), .second, .val (.long q3), .second, .val (.int (if (p0 &&& (1 : Int32)) = (0 : Int32) then (0 : Int32) else 1)), .unset, .unset, .unset, .unset, .unset, .unset, .unset, .unset, .unset, .unset, .unset] [(.int (2 : Int32)), (.int p0)])) _
    refine XS.iand X0.here hx rfl (hb hby at_15) rfl ?_
    show Steps p.tables e below (s₁.setTop (mkF m 16 #[.val (.int p0), .val (.long q1), .second, .val (.long q2), .second, .val (.long q3), .second, .val (.int (if (p0 &&& (1 : Int32)) = (0 : Int32) then (0 : Int32) else 1)), .unset, .unset, .unset, .unset, .unset, .unset, .unset, .unset, .unset, .unset, .unset] [(.int (p0 &&& (2 : Int32)))])) _
    refine own_diaT X0.here hx rfl (pc0 := 16) rfl (hb hby at_16) (hb hby at_19) (hb hby at_20) (hb hby at_23) rfl (fun hq => ((if0 _ _).trans (teq hq).1)) (fun hq => ((if0 _ _).trans (feq hq).1)) ?_
    show Steps p.tables e below (s₁.setTop (mkF m 24 #[.val (.int p0), .val (.long q1), .second, .val (.long q2), .second, .val (.long q3), .second, .val (.int (if (p0 &&& (1 : Int32)) = (0 : Int32) then (0 : Int32) else 1)), .unset, .unset, .unset, .unset, .unset, .unset, .unset, .unset, .unset, .unset, .unset] [(.int (if (p0 &&& (2 : Int32)) = (0 : Int32) then (0 : Int32) else 1))])) _
    refine XS.istore X0.here hx rfl (hb hby at_24) rfl (l' := #[.val (.int p0), .val (.long q1), .second, .val (.long q2), .second, .val (.long q3), .second, .val (.int (if (p0 &&& (1 : Int32)) = (0 : Int32) then (0 : Int32) else 1)), .val (.int (if (p0 &&& (2 : Int32)) = (0 : Int32) then (0 : Int32) else 1)), .unset, .unset, .unset, .unset, .unset, .unset, .unset, .unset, .unset, .unset]) rfl ?_
    show Steps p.tables e below (s₁.setTop (mkF m 26 #[.val (.int p0), .val (.long q1), .second, .val (.long q2), .second, .val (.long q3), .second, .val (.int (if (p0 &&& (1 : Int32)) = (0 : Int32) then (0 : Int32) else 1)), .val (.int (if (p0 &&& (2 : Int32)) = (0 : Int32) then (0 : Int32) else 1)), .unset, .unset, .unset, .unset, .unset, .unset, .unset, .unset, .unset, .unset] [])) _
    refine XS.iloadN X0.here hx rfl (hb hby at_26) rfl ?_
    show Steps p.tables e below (s₁.setTop (mkF m 27 #[.val (.int p0), .val (.long q1), .second, .val (.long q2), .second, .val (.long q3), .second, .val (.int (if (p0 &&& (1 : Int32)) = (0 : Int32) then (0 : Int32) else 1)), .val (.int (if (p0 &&& (2 : Int32)) = (0 : Int32) then (0 : Int32) else 1)), .unset, .unset, .unset, .unset, .unset, .unset, .unset, .unset, .unset, .unset] [(.int p0)])) _
    refine XS.iconst X0.here hx rfl (hb hby at_27) ?_
    show Steps p.tables e below (s₁.setTop (mkF m 28 #[.val (.int p0), .val (.long q1), .second, .val (.long q2), .second, .val (.long q3), .second, .val (.int (if (p0 &&& (1 : Int32)) = (0 : Int32) then (0 : Int32) else 1)), .val (.int (if (p0 &&& (2 : Int32)) = (0 : Int32) then (0 : Int32) else 1)), .unset, .unset, .unset, .unset, .unset, .unset, .unset, .unset, .unset, .unset] [(.int (4 : Int32)), (.int p0)])) _
    refine XS.iand X0.here hx rfl (hb hby at_28) rfl ?_
    show Steps p.tables e below (s₁.setTop (mkF m 29 #[.val (.int p0), .val (.long q1), .second, .val (.long q2), .second, .val (.long q3), .second, .val (.int (if (p0 &&& (1 : Int32)) = (0 : Int32) then (0 : Int32) else 1)), .val (.int (if (p0 &&& (2 : Int32)) = (0 : Int32) then (0 : Int32) else 1)), .unset, .unset, .unset, .unset, .unset, .unset, .unset, .unset, .unset, .unset] [(.int (p0 &&& (4 : Int32)))])) _
    refine own_diaT X0.here hx rfl (pc0 := 29) rfl (hb hby at_29) (hb hby at_32) (hb hby at_33) (hb hby at_36) rfl (fun hq => ((if0 _ _).trans (teq hq).1)) (fun hq => ((if0 _ _).trans (feq hq).1)) ?_
    show Steps p.tables e below (s₁.setTop (mkF m 37 #[.val (.int p0), .val (.long q1), .second, .val (.long q2), .second, .val (.long q3), .second, .val (.int (if (p0 &&& (1 : Int32)) = (0 : Int32) then (0 : Int32) else 1)), .val (.int (if (p0 &&& (2 : Int32)) = (0 : Int32) then (0 : Int32) else 1)), .unset, .unset, .unset, .unset, .unset, .unset, .unset, .unset, .unset, .unset] [(.int (if (p0 &&& (4 : Int32)) = (0 : Int32) then (0 : Int32) else 1))])) _
    refine XS.istore X0.here hx rfl (hb hby at_37) rfl (l' := #[.val (.int p0), .val (.long q1), .second, .val (.long q2), .second, .val (.long q3), .second, .val (.int (if (p0 &&& (1 : Int32)) = (0 : Int32) then (0 : Int32) else 1)), .val (.int (if (p0 &&& (2 : Int32)) = (0 : Int32) then (0 : Int32) else 1)), .val (.int (if (p0 &&& (4 : Int32)) = (0 : Int32) then (0 : Int32) else 1)), .unset, .unset, .unset, .unset, .unset, .unset, .unset, .unset, .unset]) rfl ?_
    show Steps p.tables e below (s₁.setTop (mkF m 39 #[.val (.int p0), .val (.long q1), .second, .val (.long q2), .second, .val (.long q3), .second, .val (.int (if (p0 &&& (1 : Int32)) = (0 : Int32) then (0 : Int32) else 1)), .val (.int (if (p0 &&& (2 : Int32)) = (0 : Int32) then (0 : Int32) else 1)), .val (.int (if (p0 &&& (4 : Int32)) = (0 : Int32) then (0 : Int32) else 1)), .unset, .unset, .unset, .unset, .unset, .unset, .unset, .unset, .unset] [])) _
    refine XS.iloadN X0.here hx rfl (hb hby at_39) rfl ?_
    show Steps p.tables e below (s₁.setTop (mkF m 40 #[.val (.int p0), .val (.long q1), .second, .val (.long q2), .second, .val (.long q3), .second, .val (.int (if (p0 &&& (1 : Int32)) = (0 : Int32) then (0 : Int32) else 1)), .val (.int (if (p0 &&& (2 : Int32)) = (0 : Int32) then (0 : Int32) else 1)), .val (.int (if (p0 &&& (4 : Int32)) = (0 : Int32) then (0 : Int32) else 1)), .unset, .unset, .unset, .unset, .unset, .unset, .unset, .unset, .unset] [(.int p0)])) _
    refine XS.bipush X0.here hx rfl (hb hby at_40) ?_
    show Steps p.tables e below (s₁.setTop (mkF m 42 #[.val (.int p0), .val (.long q1), .second, .val (.long q2), .second, .val (.long q3), .second, .val (.int (if (p0 &&& (1 : Int32)) = (0 : Int32) then (0 : Int32) else 1)), .val (.int (if (p0 &&& (2 : Int32)) = (0 : Int32) then (0 : Int32) else 1)), .val (.int (if (p0 &&& (4 : Int32)) = (0 : Int32) then (0 : Int32) else 1)), .unset, .unset, .unset, .unset, .unset, .unset, .unset, .unset, .unset] [(.int (8 : Int32)), (.int p0)])) _
    refine XS.iand X0.here hx rfl (hb hby at_42) rfl ?_
    show Steps p.tables e below (s₁.setTop (mkF m 43 #[.val (.int p0), .val (.long q1), .second, .val (.long q2), .second, .val (.long q3), .second, .val (.int (if (p0 &&& (1 : Int32)) = (0 : Int32) then (0 : Int32) else 1)), .val (.int (if (p0 &&& (2 : Int32)) = (0 : Int32) then (0 : Int32) else 1)), .val (.int (if (p0 &&& (4 : Int32)) = (0 : Int32) then (0 : Int32) else 1)), .unset, .unset, .unset, .unset, .unset, .unset, .unset, .unset, .unset] [(.int (p0 &&& (8 : Int32)))])) _
    refine own_diaT X0.here hx rfl (pc0 := 43) rfl (hb hby at_43) (hb hby at_46) (hb hby at_47) (hb hby at_50) rfl (fun hq => ((if0 _ _).trans (teq hq).1)) (fun hq => ((if0 _ _).trans (feq hq).1)) ?_
    show Steps p.tables e below (s₁.setTop (mkF m 51 #[.val (.int p0), .val (.long q1), .second, .val (.long q2), .second, .val (.long q3), .second, .val (.int (if (p0 &&& (1 : Int32)) = (0 : Int32) then (0 : Int32) else 1)), .val (.int (if (p0 &&& (2 : Int32)) = (0 : Int32) then (0 : Int32) else 1)), .val (.int (if (p0 &&& (4 : Int32)) = (0 : Int32) then (0 : Int32) else 1)), .unset, .unset, .unset, .unset, .unset, .unset, .unset, .unset, .unset] [(.int (if (p0 &&& (8 : Int32)) = (0 : Int32) then (0 : Int32) else 1))])) _
    refine XS.istore X0.here hx rfl (hb hby at_51) rfl (l' := #[.val (.int p0), .val (.long q1), .second, .val (.long q2), .second, .val (.long q3), .second, .val (.int (if (p0 &&& (1 : Int32)) = (0 : Int32) then (0 : Int32) else 1)), .val (.int (if (p0 &&& (2 : Int32)) = (0 : Int32) then (0 : Int32) else 1)), .val (.int (if (p0 &&& (4 : Int32)) = (0 : Int32) then (0 : Int32) else 1)), .val (.int (if (p0 &&& (8 : Int32)) = (0 : Int32) then (0 : Int32) else 1)), .unset, .unset, .unset, .unset, .unset, .unset, .unset, .unset]) rfl ?_
    show Steps p.tables e below (s₁.setTop (mkF m 53 #[.val (.int p0), .val (.long q1), .second, .val (.long q2), .second, .val (.long q3), .second, .val (.int (if (p0 &&& (1 : Int32)) = (0 : Int32) then (0 : Int32) else 1)), .val (.int (if (p0 &&& (2 : Int32)) = (0 : Int32) then (0 : Int32) else 1)), .val (.int (if (p0 &&& (4 : Int32)) = (0 : Int32) then (0 : Int32) else 1)), .val (.int (if (p0 &&& (8 : Int32)) = (0 : Int32) then (0 : Int32) else 1)), .unset, .unset, .unset, .unset, .unset, .unset, .unset, .unset] [])) _
    refine XS.iload X0.here hx rfl (hb hby at_53) rfl ?_
    by_cases hc55_1 : (p0 &&& (8 : Int32)) = (0 : Int32)
    · rw [if_pos hc55_1] at e_d
      show Steps p.tables e below (s₁.setTop (mkF m 55 #[.val (.int p0), .val (.long q1), .second, .val (.long q2), .second, .val (.long q3), .second, .val (.int (if (p0 &&& (1 : Int32)) = (0 : Int32) then (0 : Int32) else 1)), .val (.int (if (p0 &&& (2 : Int32)) = (0 : Int32) then (0 : Int32) else 1)), .val (.int (if (p0 &&& (4 : Int32)) = (0 : Int32) then (0 : Int32) else 1)), .val (.int (if (p0 &&& (8 : Int32)) = (0 : Int32) then (0 : Int32) else 1)), .unset, .unset, .unset, .unset, .unset, .unset, .unset, .unset] [(.int (if (p0 &&& (8 : Int32)) = (0 : Int32) then (0 : Int32) else 1))])) _
      refine XS.ifYes X0.here hx rfl (pc0 := 55) (pc' := 73) rfl (hb hby at_55) rfl ((if0 _ _).trans (teq (own_b01z hc55_1)).1) (by decide) (by decide) ?_
      show Steps p.tables e below (s₁.setTop (mkF m 73 #[.val (.int p0), .val (.long q1), .second, .val (.long q2), .second, .val (.long q3), .second, .val (.int (if (p0 &&& (1 : Int32)) = (0 : Int32) then (0 : Int32) else 1)), .val (.int (if (p0 &&& (2 : Int32)) = (0 : Int32) then (0 : Int32) else 1)), .val (.int (if (p0 &&& (4 : Int32)) = (0 : Int32) then (0 : Int32) else 1)), .val (.int (if (p0 &&& (8 : Int32)) = (0 : Int32) then (0 : Int32) else 1)), .unset, .unset, .unset, .unset, .unset, .unset, .unset, .unset] [])) _
      refine XS.lloadN X0.here hx rfl (hb hby at_73) rfl ?_
      show Steps p.tables e below (s₁.setTop (mkF m 74 #[.val (.int p0), .val (.long q1), .second, .val (.long q2), .second, .val (.long q3), .second, .val (.int (if (p0 &&& (1 : Int32)) = (0 : Int32) then (0 : Int32) else 1)), .val (.int (if (p0 &&& (2 : Int32)) = (0 : Int32) then (0 : Int32) else 1)), .val (.int (if (p0 &&& (4 : Int32)) = (0 : Int32) then (0 : Int32) else 1)), .val (.int (if (p0 &&& (8 : Int32)) = (0 : Int32) then (0 : Int32) else 1)), .unset, .unset, .unset, .unset, .unset, .unset, .unset, .unset] [(.long q2)])) _
      refine XS.lstore X0.here hx rfl (hb hby at_74) rfl (l' := #[.val (.int p0), .val (.long q1), .second, .val (.long q2), .second, .val (.long q3), .second, .val (.int (if (p0 &&& (1 : Int32)) = (0 : Int32) then (0 : Int32) else 1)), .val (.int (if (p0 &&& (2 : Int32)) = (0 : Int32) then (0 : Int32) else 1)), .val (.int (if (p0 &&& (4 : Int32)) = (0 : Int32) then (0 : Int32) else 1)), .val (.int (if (p0 &&& (8 : Int32)) = (0 : Int32) then (0 : Int32) else 1)), .val (.long q2), .second, .unset, .unset, .unset, .unset, .unset, .unset]) rfl ?_
      subst e_d
      exact kt
    · rw [if_neg hc55_1] at e_d
      show Steps p.tables e below (s₁.setTop (mkF m 55 #[.val (.int p0), .val (.long q1), .second, .val (.long q2), .second, .val (.long q3), .second, .val (.int (if (p0 &&& (1 : Int32)) = (0 : Int32) then (0 : Int32) else 1)), .val (.int (if (p0 &&& (2 : Int32)) = (0 : Int32) then (0 : Int32) else 1)), .val (.int (if (p0 &&& (4 : Int32)) = (0 : Int32) then (0 : Int32) else 1)), .val (.int (if (p0 &&& (8 : Int32)) = (0 : Int32) then (0 : Int32) else 1)), .unset, .unset, .unset, .unset, .unset, .unset, .unset, .unset] [(.int (if (p0 &&& (8 : Int32)) = (0 : Int32) then (0 : Int32) else 1))])) _
      refine XS.ifNo X0.here hx rfl (hb hby at_55) rfl ((if0 _ _).trans (feq (own_b01n hc55_1)).1) ?_
      show Steps p.tables e below (s₁.setTop (mkF m 58 #[.val (.int p0), .val (.long q1), .second, .val (.long q2), .second, .val (.long q3), .second, .val (.int (if (p0 &&& (1 : Int32)) = (0 : Int32) then (0 : Int32) else 1)), .val (.int (if (p0 &&& (2 : Int32)) = (0 : Int32) then (0 : Int32) else 1)), .val (.int (if (p0 &&& (4 : Int32)) = (0 : Int32) then (0 : Int32) else 1)), .val (.int (if (p0 &&& (8 : Int32)) = (0 : Int32) then (0 : Int32) else 1)), .unset, .unset, .unset, .unset, .unset, .unset, .unset, .unset] [])) _
      refine XS.lload X0.here hx rfl (hb hby at_58) rfl ?_
      show Steps p.tables e below (s₁.setTop (mkF m 60 #[.val (.int p0), .val (.long q1), .second, .val (.long q2), .second, .val (.long q3), .second, .val (.int (if (p0 &&& (1 : Int32)) = (0 : Int32) then (0 : Int32) else 1)), .val (.int (if (p0 &&& (2 : Int32)) = (0 : Int32) then (0 : Int32) else 1)), .val (.int (if (p0 &&& (4 : Int32)) = (0 : Int32) then (0 : Int32) else 1)), .val (.int (if (p0 &&& (8 : Int32)) = (0 : Int32) then (0 : Int32) else 1)), .unset, .unset, .unset, .unset, .unset, .unset, .unset, .unset] [(.long q3)])) _
      refine XS.lloadN X0.here hx rfl (hb hby at_60) rfl ?_
      show Steps p.tables e below (s₁.setTop (mkF m 61 #[.val (.int p0), .val (.long q1), .second, .val (.long q2), .second, .val (.long q3), .second, .val (.int (if (p0 &&& (1 : Int32)) = (0 : Int32) then (0 : Int32) else 1)), .val (.int (if (p0 &&& (2 : Int32)) = (0 : Int32) then (0 : Int32) else 1)), .val (.int (if (p0 &&& (4 : Int32)) = (0 : Int32) then (0 : Int32) else 1)), .val (.int (if (p0 &&& (8 : Int32)) = (0 : Int32) then (0 : Int32) else 1)), .unset, .unset, .unset, .unset, .unset, .unset, .unset, .unset] [(.long q2), (.long q3)])) _
      refine X0.ldc2Long hx hown (mvT hZ (hw _ (List.mem_of_getElem? (i := 27) rfl))) (g := (mkF m 61 #[.val (.int p0), .val (.long q1), .second, .val (.long q2), .second, .val (.long q3), .second, .val (.int (if (p0 &&& (1 : Int32)) = (0 : Int32) then (0 : Int32) else 1)), .val (.int (if (p0 &&& (2 : Int32)) = (0 : Int32) then (0 : Int32) else 1)), .val (.int (if (p0 &&& (4 : Int32)) = (0 : Int32) then (0 : Int32) else 1)), .val (.int (if (p0 &&& (8 : Int32)) = (0 : Int32) then (0 : Int32) else 1)), .unset, .unset, .unset, .unset, .unset, .unset, .unset, .unset] [(.long q2), (.long q3)])) rfl (hb hby at_61) _ ?_
      show Steps p.tables e below (s₁.setTop (mkF m 64 #[.val (.int p0), .val (.long q1), .second, .val (.long q2), .second, .val (.long q3), .second, .val (.int (if (p0 &&& (1 : Int32)) = (0 : Int32) then (0 : Int32) else 1)), .val (.int (if (p0 &&& (2 : Int32)) = (0 : Int32) then (0 : Int32) else 1)), .val (.int (if (p0 &&& (4 : Int32)) = (0 : Int32) then (0 : Int32) else 1)), .val (.int (if (p0 &&& (8 : Int32)) = (0 : Int32) then (0 : Int32) else 1)), .unset, .unset, .unset, .unset, .unset, .unset, .unset, .unset] [(.long (3 : Int64)), (.long q2), (.long q3)])) _
      refine XS.land X0.here hx rfl (hb hby at_64) rfl ?_
      show Steps p.tables e below (s₁.setTop (mkF m 65 #[.val (.int p0), .val (.long q1), .second, .val (.long q2), .second, .val (.long q3), .second, .val (.int (if (p0 &&& (1 : Int32)) = (0 : Int32) then (0 : Int32) else 1)), .val (.int (if (p0 &&& (2 : Int32)) = (0 : Int32) then (0 : Int32) else 1)), .val (.int (if (p0 &&& (4 : Int32)) = (0 : Int32) then (0 : Int32) else 1)), .val (.int (if (p0 &&& (8 : Int32)) = (0 : Int32) then (0 : Int32) else 1)), .unset, .unset, .unset, .unset, .unset, .unset, .unset, .unset] [(.long (q2 &&& (3 : Int64))), (.long q3)])) _
      refine XS.lconst X0.here hx rfl (hb hby at_65) ?_
      show Steps p.tables e below (s₁.setTop (mkF m 66 #[.val (.int p0), .val (.long q1), .second, .val (.long q2), .second, .val (.long q3), .second, .val (.int (if (p0 &&& (1 : Int32)) = (0 : Int32) then (0 : Int32) else 1)), .val (.int (if (p0 &&& (2 : Int32)) = (0 : Int32) then (0 : Int32) else 1)), .val (.int (if (p0 &&& (4 : Int32)) = (0 : Int32) then (0 : Int32) else 1)), .val (.int (if (p0 &&& (8 : Int32)) = (0 : Int32) then (0 : Int32) else 1)), .unset, .unset, .unset, .unset, .unset, .unset, .unset, .unset] [(.long (1 : Int64)), (.long (q2 &&& (3 : Int64))), (.long q3)])) _
      refine XS.lsub X0.here hx rfl (hb hby at_66) rfl ?_
      show Steps p.tables e below (s₁.setTop (mkF m 67 #[.val (.int p0), .val (.long q1), .second, .val (.long q2), .second, .val (.long q3), .second, .val (.int (if (p0 &&& (1 : Int32)) = (0 : Int32) then (0 : Int32) else 1)), .val (.int (if (p0 &&& (2 : Int32)) = (0 : Int32) then (0 : Int32) else 1)), .val (.int (if (p0 &&& (4 : Int32)) = (0 : Int32) then (0 : Int32) else 1)), .val (.int (if (p0 &&& (8 : Int32)) = (0 : Int32) then (0 : Int32) else 1)), .unset, .unset, .unset, .unset, .unset, .unset, .unset, .unset] [(.long ((q2 &&& (3 : Int64)) - (1 : Int64))), (.long q3)])) _
      refine XS.ladd X0.here hx rfl (hb hby at_67) rfl ?_
      show Steps p.tables e below (s₁.setTop (mkF m 68 #[.val (.int p0), .val (.long q1), .second, .val (.long q2), .second, .val (.long q3), .second, .val (.int (if (p0 &&& (1 : Int32)) = (0 : Int32) then (0 : Int32) else 1)), .val (.int (if (p0 &&& (2 : Int32)) = (0 : Int32) then (0 : Int32) else 1)), .val (.int (if (p0 &&& (4 : Int32)) = (0 : Int32) then (0 : Int32) else 1)), .val (.int (if (p0 &&& (8 : Int32)) = (0 : Int32) then (0 : Int32) else 1)), .unset, .unset, .unset, .unset, .unset, .unset, .unset, .unset] [(.long (q3 + ((q2 &&& (3 : Int64)) - (1 : Int64))))])) _
      refine XS.lstore X0.here hx rfl (hb hby at_68) rfl (l' := #[.val (.int p0), .val (.long q1), .second, .val (.long q2), .second, .val (.long q3), .second, .val (.int (if (p0 &&& (1 : Int32)) = (0 : Int32) then (0 : Int32) else 1)), .val (.int (if (p0 &&& (2 : Int32)) = (0 : Int32) then (0 : Int32) else 1)), .val (.int (if (p0 &&& (4 : Int32)) = (0 : Int32) then (0 : Int32) else 1)), .val (.int (if (p0 &&& (8 : Int32)) = (0 : Int32) then (0 : Int32) else 1)), .val (.long (q3 + ((q2 &&& (3 : Int64)) - (1 : Int64)))), .second, .unset, .unset, .unset, .unset, .unset, .unset]) rfl ?_
      show Steps p.tables e below (s₁.setTop (mkF m 70 #[.val (.int p0), .val (.long q1), .second, .val (.long q2), .second, .val (.long q3), .second, .val (.int (if (p0 &&& (1 : Int32)) = (0 : Int32) then (0 : Int32) else 1)), .val (.int (if (p0 &&& (2 : Int32)) = (0 : Int32) then (0 : Int32) else 1)), .val (.int (if (p0 &&& (4 : Int32)) = (0 : Int32) then (0 : Int32) else 1)), .val (.int (if (p0 &&& (8 : Int32)) = (0 : Int32) then (0 : Int32) else 1)), .val (.long (q3 + ((q2 &&& (3 : Int64)) - (1 : Int64)))), .second, .unset, .unset, .unset, .unset, .unset, .unset] [])) _
      refine XS.goto X0.here hx rfl (pc0 := 70) (pc' := 76) rfl (hb hby at_70) (by decide) (by decide) ?_
      subst e_d
      exact kt
  obtain ⟨now, e_now⟩ : ∃ z : Int64, z = (q1 + d) := ⟨_, rfl⟩
  obtain ⟨T3, h3, X3, e3, E3, A3, D3, U3, st3⟩ := newO X0 hx hZ hown (hw _ (List.mem_of_getElem? (i := 0) rfl)) (hw _ (List.mem_of_getElem? (i := 1) rfl)) (hw _ (List.mem_of_getElem? (i := 2) rfl)) e0 (g := (mkF m 82 #[.val (.int p0), .val (.long q1), .second, .val (.long q2), .second, .val (.long q3), .second, .val (.int (if (p0 &&& (1 : Int32)) = (0 : Int32) then (0 : Int32) else 1)), .val (.int (if (p0 &&& (2 : Int32)) = (0 : Int32) then (0 : Int32) else 1)), .val (.int (if (p0 &&& (4 : Int32)) = (0 : Int32) then (0 : Int32) else 1)), .val (.int (if (p0 &&& (8 : Int32)) = (0 : Int32) then (0 : Int32) else 1)), .val (.long d), .second, .val (.long now), .second, .unset, .unset, .unset, .unset] [])) rfl (hb hby at_82) (by decide) (by decide)
  obtain ⟨b3, g3⟩ : ∃ z, z = h0.size := ⟨_, rfl⟩
  rw [← g3] at A3 D3 U3 st3
  have g_b3 : n0 ≤ b3 := Nat.le_trans Z0 (Nat.le_of_eq g3.symm)
  have sz_b3 : h0.size ≤ b3 := Nat.le_trans (Keep.refl h0 []).1 (Nat.le_of_eq g3.symm)
  have F_healthy_b3 : Fld Z h3 b3 "com/example/pit_crew/pitcrew/Handle$Report" "healthy" "Z" (.int (0 : Int32)) := D3 (Or.inr (hw _ (List.mem_of_getElem? (i := 15) rfl))) (ty := .boolean) (by decide)
  have F_at_b3 : Fld Z h3 b3 "com/example/pit_crew/pitcrew/Handle$Report" "at" "J" (.long (0 : Int64)) := D3 (Or.inr (hw _ (List.mem_of_getElem? (i := 17) rfl))) (ty := .long) (by decide)
  have J3 : Keep h0 h3 [] := (Keep.refl h0 []).ext E3
  have z4 : n0 ≤ h3.size := (Nat.le_trans Z0 E3.1)
  -- pc 89: Handle$Report.<init> by rm1
  obtain ⟨_, _, ⟨T5, L5, k5, n5⟩, -, X5, ⟨Lc5, hQ5, l5, y5, z5'⟩, st5⟩ := X3.specialBack hx (y := (⟨"com/example/pit_crew/pitcrew/Handle$Report", "<init>", "(ZJ)V"⟩ : MethodName)) rfl hown (mvT hZ (hw _ (List.mem_of_getElem? (i := 3) rfl))) (mvT hZ (hw _ (List.mem_of_getElem? (i := 4) rfl))) (mvT hZ (hw _ (List.mem_of_getElem? (i := 5) rfl))) (by decide) (backOf (W := 1) (rm1 l Z a0 hw [] b3 (if (p0 &&& (4 : Int32)) = (0 : Int32) then (0 : Int32) else 1) q1 h3 n0 z4 A3 F_healthy_b3 F_at_b3 g_b3) hZ (hw _ (List.mem_of_getElem? (i := 5) rfl)) (hw _ (List.mem_of_getElem? (i := 2) rfl)) (by decide) (by decide)) (g := (mkF m 89 #[.val (.int p0), .val (.long q1), .second, .val (.long q2), .second, .val (.long q3), .second, .val (.int (if (p0 &&& (1 : Int32)) = (0 : Int32) then (0 : Int32) else 1)), .val (.int (if (p0 &&& (2 : Int32)) = (0 : Int32) then (0 : Int32) else 1)), .val (.int (if (p0 &&& (4 : Int32)) = (0 : Int32) then (0 : Int32) else 1)), .val (.int (if (p0 &&& (8 : Int32)) = (0 : Int32) then (0 : Int32) else 1)), .val (.long d), .second, .val (.long now), .second, .unset, .unset, .unset, .unset] [(.long q1), (.int (if (p0 &&& (4 : Int32)) = (0 : Int32) then (0 : Int32) else 1)), (.ref b3), (.ref b3)])) rfl (by rw [hml]; rfl) (Steps.refl _) (a := b3) (argsL := [(.int (if (p0 &&& (4 : Int32)) = (0 : Int32) then (0 : Int32) else 1)), (.long q1)]) (rest := [(.ref b3)]) (lenOf pd_3 rfl) rfl (by show 2 * 0 + _ ≤ _; exact Nat.le_of_eq rfl) (hb hby at_89) (fun _ _ => ⟨rfl, e3, (by decide : 1 + 0 ≤ _), (by decide : 2 + 0 ≤ _)⟩)
  dsimp only [Pt.U, Pt.locs, Pt.cells, Pt.slots] at X5 l5 y5 z5' st5 hQ5
  subst l5 y5 z5'
  obtain ⟨rfl, N5q, K5, r0_5, r1_5⟩ := hQ5
  have N5 := Fr.app N0 N5q
  have J5 : Keep h0 T5.heap [] := J3.trans K5 (allS (Or.inr sz_b3) all0)
  have pre6 : ∀ t, Steps p.tables e below (T5.setTop (mkF m 96 #[.val (.int p0), .val (.long q1), .second, .val (.long q2), .second, .val (.long q3), .second, .val (.int (if (p0 &&& (1 : Int32)) = (0 : Int32) then (0 : Int32) else 1)), .val (.int (if (p0 &&& (2 : Int32)) = (0 : Int32) then (0 : Int32) else 1)), .val (.int (if (p0 &&& (4 : Int32)) = (0 : Int32) then (0 : Int32) else 1)), .val (.int (if (p0 &&& (8 : Int32)) = (0 : Int32) then (0 : Int32) else 1)), .val (.long d), .second, .val (.long now), .second, .val (.ref b3), .unset, .unset, .unset] [(.int (if (p0 &&& (1 : Int32)) = (0 : Int32) then (0 : Int32) else 1))])) t → Steps p.tables e below (s₁.setTop (entryFrame m #[(.int p0), (.long q1), (.long q2), (.long q3)] maxLocals)) t := by
    intro t kt
    refine pre2 _ ?_
    show Steps p.tables e below (s₁.setTop (mkF m 76 #[.val (.int p0), .val (.long q1), .second, .val (.long q2), .second, .val (.long q3), .second, .val (.int (if (p0 &&& (1 : Int32)) = (0 : Int32) then (0 : Int32) else 1)), .val (.int (if (p0 &&& (2 : Int32)) = (0 : Int32) then (0 : Int32) else 1)), .val (.int (if (p0 &&& (4 : Int32)) = (0 : Int32) then (0 : Int32) else 1)), .val (.int (if (p0 &&& (8 : Int32)) = (0 : Int32) then (0 : Int32) else 1)), .val (.long d), .second, .unset, .unset, .unset, .unset, .unset, .unset] [])) _
    refine XS.lloadN X0.here hx rfl (hb hby at_76) rfl ?_
    show Steps p.tables e below (s₁.setTop (mkF m 77 #[.val (.int p0), .val (.long q1), .second, .val (.long q2), .second, .val (.long q3), .second, .val (.int (if (p0 &&& (1 : Int32)) = (0 : Int32) then (0 : Int32) else 1)), .val (.int (if (p0 &&& (2 : Int32)) = (0 : Int32) then (0 : Int32) else 1)), .val (.int (if (p0 &&& (4 : Int32)) = (0 : Int32) then (0 : Int32) else 1)), .val (.int (if (p0 &&& (8 : Int32)) = (0 : Int32) then (0 : Int32) else 1)), .val (.long d), .second, .unset, .unset, .unset, .unset, .unset, .unset] [(.long q1)])) _
    refine XS.lload X0.here hx rfl (hb hby at_77) rfl ?_
    show Steps p.tables e below (s₁.setTop (mkF m 79 #[.val (.int p0), .val (.long q1), .second, .val (.long q2), .second, .val (.long q3), .second, .val (.int (if (p0 &&& (1 : Int32)) = (0 : Int32) then (0 : Int32) else 1)), .val (.int (if (p0 &&& (2 : Int32)) = (0 : Int32) then (0 : Int32) else 1)), .val (.int (if (p0 &&& (4 : Int32)) = (0 : Int32) then (0 : Int32) else 1)), .val (.int (if (p0 &&& (8 : Int32)) = (0 : Int32) then (0 : Int32) else 1)), .val (.long d), .second, .unset, .unset, .unset, .unset, .unset, .unset] [(.long d), (.long q1)])) _
    refine XS.ladd X0.here hx rfl (hb hby at_79) rfl ?_
    show Steps p.tables e below (s₁.setTop (mkF m 80 #[.val (.int p0), .val (.long q1), .second, .val (.long q2), .second, .val (.long q3), .second, .val (.int (if (p0 &&& (1 : Int32)) = (0 : Int32) then (0 : Int32) else 1)), .val (.int (if (p0 &&& (2 : Int32)) = (0 : Int32) then (0 : Int32) else 1)), .val (.int (if (p0 &&& (4 : Int32)) = (0 : Int32) then (0 : Int32) else 1)), .val (.int (if (p0 &&& (8 : Int32)) = (0 : Int32) then (0 : Int32) else 1)), .val (.long d), .second, .unset, .unset, .unset, .unset, .unset, .unset] [(.long (q1 + d))])) _
    rw [← e_now]
    show Steps p.tables e below (s₁.setTop (mkF m 80 #[.val (.int p0), .val (.long q1), .second, .val (.long q2), .second, .val (.long q3), .second, .val (.int (if (p0 &&& (1 : Int32)) = (0 : Int32) then (0 : Int32) else 1)), .val (.int (if (p0 &&& (2 : Int32)) = (0 : Int32) then (0 : Int32) else 1)), .val (.int (if (p0 &&& (4 : Int32)) = (0 : Int32) then (0 : Int32) else 1)), .val (.int (if (p0 &&& (8 : Int32)) = (0 : Int32) then (0 : Int32) else 1)), .val (.long d), .second, .unset, .unset, .unset, .unset, .unset, .unset] [(.long now)])) _
    refine XS.lstore X0.here hx rfl (hb hby at_80) rfl (l' := #[.val (.int p0), .val (.long q1), .second, .val (.long q2), .second, .val (.long q3), .second, .val (.int (if (p0 &&& (1 : Int32)) = (0 : Int32) then (0 : Int32) else 1)), .val (.int (if (p0 &&& (2 : Int32)) = (0 : Int32) then (0 : Int32) else 1)), .val (.int (if (p0 &&& (4 : Int32)) = (0 : Int32) then (0 : Int32) else 1)), .val (.int (if (p0 &&& (8 : Int32)) = (0 : Int32) then (0 : Int32) else 1)), .val (.long d), .second, .val (.long now), .second, .unset, .unset, .unset, .unset]) rfl ?_
    show Steps p.tables e below (s₁.setTop (mkF m 82 #[.val (.int p0), .val (.long q1), .second, .val (.long q2), .second, .val (.long q3), .second, .val (.int (if (p0 &&& (1 : Int32)) = (0 : Int32) then (0 : Int32) else 1)), .val (.int (if (p0 &&& (2 : Int32)) = (0 : Int32) then (0 : Int32) else 1)), .val (.int (if (p0 &&& (4 : Int32)) = (0 : Int32) then (0 : Int32) else 1)), .val (.int (if (p0 &&& (8 : Int32)) = (0 : Int32) then (0 : Int32) else 1)), .val (.long d), .second, .val (.long now), .second, .unset, .unset, .unset, .unset] [])) _
    refine st3 _ ?_
    show Steps p.tables e below (T3.setTop (mkF m 85 #[.val (.int p0), .val (.long q1), .second, .val (.long q2), .second, .val (.long q3), .second, .val (.int (if (p0 &&& (1 : Int32)) = (0 : Int32) then (0 : Int32) else 1)), .val (.int (if (p0 &&& (2 : Int32)) = (0 : Int32) then (0 : Int32) else 1)), .val (.int (if (p0 &&& (4 : Int32)) = (0 : Int32) then (0 : Int32) else 1)), .val (.int (if (p0 &&& (8 : Int32)) = (0 : Int32) then (0 : Int32) else 1)), .val (.long d), .second, .val (.long now), .second, .unset, .unset, .unset, .unset] [(.ref b3)])) _
    refine XS.dup X3.here hx rfl (hb hby at_85) rfl rfl ?_
    show Steps p.tables e below (T3.setTop (mkF m 86 #[.val (.int p0), .val (.long q1), .second, .val (.long q2), .second, .val (.long q3), .second, .val (.int (if (p0 &&& (1 : Int32)) = (0 : Int32) then (0 : Int32) else 1)), .val (.int (if (p0 &&& (2 : Int32)) = (0 : Int32) then (0 : Int32) else 1)), .val (.int (if (p0 &&& (4 : Int32)) = (0 : Int32) then (0 : Int32) else 1)), .val (.int (if (p0 &&& (8 : Int32)) = (0 : Int32) then (0 : Int32) else 1)), .val (.long d), .second, .val (.long now), .second, .unset, .unset, .unset, .unset] [(.ref b3), (.ref b3)])) _
    refine XS.iload X3.here hx rfl (hb hby at_86) rfl ?_
    show Steps p.tables e below (T3.setTop (mkF m 88 #[.val (.int p0), .val (.long q1), .second, .val (.long q2), .second, .val (.long q3), .second, .val (.int (if (p0 &&& (1 : Int32)) = (0 : Int32) then (0 : Int32) else 1)), .val (.int (if (p0 &&& (2 : Int32)) = (0 : Int32) then (0 : Int32) else 1)), .val (.int (if (p0 &&& (4 : Int32)) = (0 : Int32) then (0 : Int32) else 1)), .val (.int (if (p0 &&& (8 : Int32)) = (0 : Int32) then (0 : Int32) else 1)), .val (.long d), .second, .val (.long now), .second, .unset, .unset, .unset, .unset] [(.int (if (p0 &&& (4 : Int32)) = (0 : Int32) then (0 : Int32) else 1)), (.ref b3), (.ref b3)])) _
    refine XS.lloadN X3.here hx rfl (hb hby at_88) rfl ?_
    show Steps p.tables e below (T3.setTop (mkF m 89 #[.val (.int p0), .val (.long q1), .second, .val (.long q2), .second, .val (.long q3), .second, .val (.int (if (p0 &&& (1 : Int32)) = (0 : Int32) then (0 : Int32) else 1)), .val (.int (if (p0 &&& (2 : Int32)) = (0 : Int32) then (0 : Int32) else 1)), .val (.int (if (p0 &&& (4 : Int32)) = (0 : Int32) then (0 : Int32) else 1)), .val (.int (if (p0 &&& (8 : Int32)) = (0 : Int32) then (0 : Int32) else 1)), .val (.long d), .second, .val (.long now), .second, .unset, .unset, .unset, .unset] [(.long q1), (.int (if (p0 &&& (4 : Int32)) = (0 : Int32) then (0 : Int32) else 1)), (.ref b3), (.ref b3)])) _
    refine st5.trans ?_
    show Steps p.tables e below (T5.setTop (mkF m 92 #[.val (.int p0), .val (.long q1), .second, .val (.long q2), .second, .val (.long q3), .second, .val (.int (if (p0 &&& (1 : Int32)) = (0 : Int32) then (0 : Int32) else 1)), .val (.int (if (p0 &&& (2 : Int32)) = (0 : Int32) then (0 : Int32) else 1)), .val (.int (if (p0 &&& (4 : Int32)) = (0 : Int32) then (0 : Int32) else 1)), .val (.int (if (p0 &&& (8 : Int32)) = (0 : Int32) then (0 : Int32) else 1)), .val (.long d), .second, .val (.long now), .second, .unset, .unset, .unset, .unset] [(.ref b3)])) _
    refine XS.astore X5.here hx rfl (hb hby at_92) rfl rfl (l' := #[.val (.int p0), .val (.long q1), .second, .val (.long q2), .second, .val (.long q3), .second, .val (.int (if (p0 &&& (1 : Int32)) = (0 : Int32) then (0 : Int32) else 1)), .val (.int (if (p0 &&& (2 : Int32)) = (0 : Int32) then (0 : Int32) else 1)), .val (.int (if (p0 &&& (4 : Int32)) = (0 : Int32) then (0 : Int32) else 1)), .val (.int (if (p0 &&& (8 : Int32)) = (0 : Int32) then (0 : Int32) else 1)), .val (.long d), .second, .val (.long now), .second, .val (.ref b3), .unset, .unset, .unset]) rfl ?_
    show Steps p.tables e below (T5.setTop (mkF m 94 #[.val (.int p0), .val (.long q1), .second, .val (.long q2), .second, .val (.long q3), .second, .val (.int (if (p0 &&& (1 : Int32)) = (0 : Int32) then (0 : Int32) else 1)), .val (.int (if (p0 &&& (2 : Int32)) = (0 : Int32) then (0 : Int32) else 1)), .val (.int (if (p0 &&& (4 : Int32)) = (0 : Int32) then (0 : Int32) else 1)), .val (.int (if (p0 &&& (8 : Int32)) = (0 : Int32) then (0 : Int32) else 1)), .val (.long d), .second, .val (.long now), .second, .val (.ref b3), .unset, .unset, .unset] [])) _
    refine XS.iload X5.here hx rfl (hb hby at_94) rfl ?_
    exact kt
  by_cases hc96_7 : (p0 &&& (1 : Int32)) = (0 : Int32)
  · skip
    have c8 : Exa Z T5.heap b3 "com/example/pit_crew/pitcrew/Handle$Report" := (A3.keep K5)
    have z9 : n0 ≤ T5.heap.size := (Nat.le_trans z4 K5.1)
    -- pc 115: HealthWatch.stalled by rm4
    obtain ⟨_, _, ⟨T10, L10, k10, n10⟩, -, X10, ⟨Lc10, hQ10, l10, y10, z10'⟩, st10⟩ := Jvm.LawKit.callS X5 hx (y := (⟨"com/example/pit_crew/pitcrew/HealthWatch", "stalled", "(Lcom/example/pit_crew/pitcrew/Handle$Report;ZJJ)Z"⟩ : MethodName)) hown (mvT hZ (hw _ (List.mem_of_getElem? (i := 18) rfl))) (mvT hZ (hw _ (List.mem_of_getElem? (i := 19) rfl))) (mvT hZ (hw _ (List.mem_of_getElem? (i := 20) rfl))) (mvT hZ (hw _ (List.mem_of_getElem? (i := 21) rfl))) (by decide) (backOf (W := 0) (rm4 l Z a0 hw [] b3 (if (p0 &&& (2 : Int32)) = (0 : Int32) then (0 : Int32) else 1) q3 now (nar .boolean (if (p0 &&& (4 : Int32)) = (0 : Int32) then (0 : Int32) else 1)) q1 T5.heap n0 z9 c8 r0_5 r1_5) hZ (hw _ (List.mem_of_getElem? (i := 21) rfl)) (hw _ (List.mem_of_getElem? (i := 20) rfl)) (by decide) (by decide)) (g := (mkF m 115 #[.val (.int p0), .val (.long q1), .second, .val (.long q2), .second, .val (.long q3), .second, .val (.int (if (p0 &&& (1 : Int32)) = (0 : Int32) then (0 : Int32) else 1)), .val (.int (if (p0 &&& (2 : Int32)) = (0 : Int32) then (0 : Int32) else 1)), .val (.int (if (p0 &&& (4 : Int32)) = (0 : Int32) then (0 : Int32) else 1)), .val (.int (if (p0 &&& (8 : Int32)) = (0 : Int32) then (0 : Int32) else 1)), .val (.long d), .second, .val (.long now), .second, .val (.ref b3), .val (.ref b3), .unset, .unset] [(.long now), (.long q3), (.int (if (p0 &&& (2 : Int32)) = (0 : Int32) then (0 : Int32) else 1)), (.ref b3)])) rfl (by rw [hml]; rfl) (argsL := [(.ref b3), (.int (if (p0 &&& (2 : Int32)) = (0 : Int32) then (0 : Int32) else 1)), (.long q3), (.long now)]) (rest := []) (lenOf pd_4 rfl) rfl (by show 2 * 0 + _ ≤ _; exact Nat.le_of_eq rfl) (hb hby at_115) (fun _ _ => ⟨rfl, rfl, (by decide : 1 + 0 ≤ _), (by decide : 2 + 0 ≤ _)⟩)
    dsimp only [Pt.U, Pt.locs, Pt.cells, Pt.slots] at X10 l10 y10 z10' st10 hQ10
    subst l10 y10 z10'
    obtain ⟨rfl, N10q, K10⟩ := hQ10
    have N10 := Fr.app N5 N10q
    have J10 : Keep h0 T10.heap [] := J5.trans K10 all0
    have pre11 : ∀ t, Steps p.tables e below (T10.setTop (mkF m 133 #[.val (.int p0), .val (.long q1), .second, .val (.long q2), .second, .val (.long q3), .second, .val (.int (if (p0 &&& (1 : Int32)) = (0 : Int32) then (0 : Int32) else 1)), .val (.int (if (p0 &&& (2 : Int32)) = (0 : Int32) then (0 : Int32) else 1)), .val (.int (if (p0 &&& (4 : Int32)) = (0 : Int32) then (0 : Int32) else 1)), .val (.int (if (p0 &&& (8 : Int32)) = (0 : Int32) then (0 : Int32) else 1)), .val (.long d), .second, .val (.long now), .second, .val (.ref b3), .val (.ref b3), .val (.int (own_st (if (p0 &&& (2 : Int32)) = (0 : Int32) then (0 : Int32) else 1) (nar .boolean (if (p0 &&& (4 : Int32)) = (0 : Int32) then (0 : Int32) else 1)) q3 now q1)), .unset] [(.int (if (p0 &&& (2 : Int32)) = (0 : Int32) then (0 : Int32) else 1))])) t → Steps p.tables e below (s₁.setTop (entryFrame m #[(.int p0), (.long q1), (.long q2), (.long q3)] maxLocals)) t := by
      intro t kt
      refine pre6 _ ?_
      show Steps p.tables e below (T5.setTop (mkF m 96 #[.val (.int p0), .val (.long q1), .second, .val (.long q2), .second, .val (.long q3), .second, .val (.int (if (p0 &&& (1 : Int32)) = (0 : Int32) then (0 : Int32) else 1)), .val (.int (if (p0 &&& (2 : Int32)) = (0 : Int32) then (0 : Int32) else 1)), .val (.int (if (p0 &&& (4 : Int32)) = (0 : Int32) then (0 : Int32) else 1)), .val (.int (if (p0 &&& (8 : Int32)) = (0 : Int32) then (0 : Int32) else 1)), .val (.long d), .second, .val (.long now), .second, .val (.ref b3), .unset, .unset, .unset] [(.int (if (p0 &&& (1 : Int32)) = (0 : Int32) then (0 : Int32) else 1))])) _
      refine XS.ifYes X5.here hx rfl (pc0 := 96) (pc' := 103) rfl (hb hby at_96) rfl ((if0 _ _).trans (teq (own_b01z hc96_7)).1) (by decide) (by decide) ?_
      show Steps p.tables e below (T5.setTop (mkF m 103 #[.val (.int p0), .val (.long q1), .second, .val (.long q2), .second, .val (.long q3), .second, .val (.int (if (p0 &&& (1 : Int32)) = (0 : Int32) then (0 : Int32) else 1)), .val (.int (if (p0 &&& (2 : Int32)) = (0 : Int32) then (0 : Int32) else 1)), .val (.int (if (p0 &&& (4 : Int32)) = (0 : Int32) then (0 : Int32) else 1)), .val (.int (if (p0 &&& (8 : Int32)) = (0 : Int32) then (0 : Int32) else 1)), .val (.long d), .second, .val (.long now), .second, .val (.ref b3), .unset, .unset, .unset] [])) _
      refine XS.aload X5.here hx rfl (hb hby at_103) rfl rfl ?_
      show Steps p.tables e below (T5.setTop (mkF m 105 #[.val (.int p0), .val (.long q1), .second, .val (.long q2), .second, .val (.long q3), .second, .val (.int (if (p0 &&& (1 : Int32)) = (0 : Int32) then (0 : Int32) else 1)), .val (.int (if (p0 &&& (2 : Int32)) = (0 : Int32) then (0 : Int32) else 1)), .val (.int (if (p0 &&& (4 : Int32)) = (0 : Int32) then (0 : Int32) else 1)), .val (.int (if (p0 &&& (8 : Int32)) = (0 : Int32) then (0 : Int32) else 1)), .val (.long d), .second, .val (.long now), .second, .val (.ref b3), .unset, .unset, .unset] [(.ref b3)])) _
      refine XS.astore X5.here hx rfl (hb hby at_105) rfl rfl (l' := #[.val (.int p0), .val (.long q1), .second, .val (.long q2), .second, .val (.long q3), .second, .val (.int (if (p0 &&& (1 : Int32)) = (0 : Int32) then (0 : Int32) else 1)), .val (.int (if (p0 &&& (2 : Int32)) = (0 : Int32) then (0 : Int32) else 1)), .val (.int (if (p0 &&& (4 : Int32)) = (0 : Int32) then (0 : Int32) else 1)), .val (.int (if (p0 &&& (8 : Int32)) = (0 : Int32) then (0 : Int32) else 1)), .val (.long d), .second, .val (.long now), .second, .val (.ref b3), .val (.ref b3), .unset, .unset]) rfl ?_
      show Steps p.tables e below (T5.setTop (mkF m 107 #[.val (.int p0), .val (.long q1), .second, .val (.long q2), .second, .val (.long q3), .second, .val (.int (if (p0 &&& (1 : Int32)) = (0 : Int32) then (0 : Int32) else 1)), .val (.int (if (p0 &&& (2 : Int32)) = (0 : Int32) then (0 : Int32) else 1)), .val (.int (if (p0 &&& (4 : Int32)) = (0 : Int32) then (0 : Int32) else 1)), .val (.int (if (p0 &&& (8 : Int32)) = (0 : Int32) then (0 : Int32) else 1)), .val (.long d), .second, .val (.long now), .second, .val (.ref b3), .val (.ref b3), .unset, .unset] [])) _
      refine XS.aload X5.here hx rfl (hb hby at_107) rfl rfl ?_
      show Steps p.tables e below (T5.setTop (mkF m 109 #[.val (.int p0), .val (.long q1), .second, .val (.long q2), .second, .val (.long q3), .second, .val (.int (if (p0 &&& (1 : Int32)) = (0 : Int32) then (0 : Int32) else 1)), .val (.int (if (p0 &&& (2 : Int32)) = (0 : Int32) then (0 : Int32) else 1)), .val (.int (if (p0 &&& (4 : Int32)) = (0 : Int32) then (0 : Int32) else 1)), .val (.int (if (p0 &&& (8 : Int32)) = (0 : Int32) then (0 : Int32) else 1)), .val (.long d), .second, .val (.long now), .second, .val (.ref b3), .val (.ref b3), .unset, .unset] [(.ref b3)])) _
      refine XS.iload X5.here hx rfl (hb hby at_109) rfl ?_
      show Steps p.tables e below (T5.setTop (mkF m 111 #[.val (.int p0), .val (.long q1), .second, .val (.long q2), .second, .val (.long q3), .second, .val (.int (if (p0 &&& (1 : Int32)) = (0 : Int32) then (0 : Int32) else 1)), .val (.int (if (p0 &&& (2 : Int32)) = (0 : Int32) then (0 : Int32) else 1)), .val (.int (if (p0 &&& (4 : Int32)) = (0 : Int32) then (0 : Int32) else 1)), .val (.int (if (p0 &&& (8 : Int32)) = (0 : Int32) then (0 : Int32) else 1)), .val (.long d), .second, .val (.long now), .second, .val (.ref b3), .val (.ref b3), .unset, .unset] [(.int (if (p0 &&& (2 : Int32)) = (0 : Int32) then (0 : Int32) else 1)), (.ref b3)])) _
      refine XS.lload X5.here hx rfl (hb hby at_111) rfl ?_
      show Steps p.tables e below (T5.setTop (mkF m 113 #[.val (.int p0), .val (.long q1), .second, .val (.long q2), .second, .val (.long q3), .second, .val (.int (if (p0 &&& (1 : Int32)) = (0 : Int32) then (0 : Int32) else 1)), .val (.int (if (p0 &&& (2 : Int32)) = (0 : Int32) then (0 : Int32) else 1)), .val (.int (if (p0 &&& (4 : Int32)) = (0 : Int32) then (0 : Int32) else 1)), .val (.int (if (p0 &&& (8 : Int32)) = (0 : Int32) then (0 : Int32) else 1)), .val (.long d), .second, .val (.long now), .second, .val (.ref b3), .val (.ref b3), .unset, .unset] [(.long q3), (.int (if (p0 &&& (2 : Int32)) = (0 : Int32) then (0 : Int32) else 1)), (.ref b3)])) _
      refine XS.lload X5.here hx rfl (hb hby at_113) rfl ?_
      show Steps p.tables e below (T5.setTop (mkF m 115 #[.val (.int p0), .val (.long q1), .second, .val (.long q2), .second, .val (.long q3), .second, .val (.int (if (p0 &&& (1 : Int32)) = (0 : Int32) then (0 : Int32) else 1)), .val (.int (if (p0 &&& (2 : Int32)) = (0 : Int32) then (0 : Int32) else 1)), .val (.int (if (p0 &&& (4 : Int32)) = (0 : Int32) then (0 : Int32) else 1)), .val (.int (if (p0 &&& (8 : Int32)) = (0 : Int32) then (0 : Int32) else 1)), .val (.long d), .second, .val (.long now), .second, .val (.ref b3), .val (.ref b3), .unset, .unset] [(.long now), (.long q3), (.int (if (p0 &&& (2 : Int32)) = (0 : Int32) then (0 : Int32) else 1)), (.ref b3)])) _
      refine st10 _ ?_
      show Steps p.tables e below (T10.setTop (mkF m 118 #[.val (.int p0), .val (.long q1), .second, .val (.long q2), .second, .val (.long q3), .second, .val (.int (if (p0 &&& (1 : Int32)) = (0 : Int32) then (0 : Int32) else 1)), .val (.int (if (p0 &&& (2 : Int32)) = (0 : Int32) then (0 : Int32) else 1)), .val (.int (if (p0 &&& (4 : Int32)) = (0 : Int32) then (0 : Int32) else 1)), .val (.int (if (p0 &&& (8 : Int32)) = (0 : Int32) then (0 : Int32) else 1)), .val (.long d), .second, .val (.long now), .second, .val (.ref b3), .val (.ref b3), .unset, .unset] [(.int (own_st (if (p0 &&& (2 : Int32)) = (0 : Int32) then (0 : Int32) else 1) (nar .boolean (if (p0 &&& (4 : Int32)) = (0 : Int32) then (0 : Int32) else 1)) q3 now q1))])) _
      refine XS.istore X10.here hx rfl (hb hby at_118) rfl (l' := #[.val (.int p0), .val (.long q1), .second, .val (.long q2), .second, .val (.long q3), .second, .val (.int (if (p0 &&& (1 : Int32)) = (0 : Int32) then (0 : Int32) else 1)), .val (.int (if (p0 &&& (2 : Int32)) = (0 : Int32) then (0 : Int32) else 1)), .val (.int (if (p0 &&& (4 : Int32)) = (0 : Int32) then (0 : Int32) else 1)), .val (.int (if (p0 &&& (8 : Int32)) = (0 : Int32) then (0 : Int32) else 1)), .val (.long d), .second, .val (.long now), .second, .val (.ref b3), .val (.ref b3), .val (.int (own_st (if (p0 &&& (2 : Int32)) = (0 : Int32) then (0 : Int32) else 1) (nar .boolean (if (p0 &&& (4 : Int32)) = (0 : Int32) then (0 : Int32) else 1)) q3 now q1)), .unset]) rfl ?_
      show Steps p.tables e below (T10.setTop (mkF m 120 #[.val (.int p0), .val (.long q1), .second, .val (.long q2), .second, .val (.long q3), .second, .val (.int (if (p0 &&& (1 : Int32)) = (0 : Int32) then (0 : Int32) else 1)), .val (.int (if (p0 &&& (2 : Int32)) = (0 : Int32) then (0 : Int32) else 1)), .val (.int (if (p0 &&& (4 : Int32)) = (0 : Int32) then (0 : Int32) else 1)), .val (.int (if (p0 &&& (8 : Int32)) = (0 : Int32) then (0 : Int32) else 1)), .val (.long d), .second, .val (.long now), .second, .val (.ref b3), .val (.ref b3), .val (.int (own_st (if (p0 &&& (2 : Int32)) = (0 : Int32) then (0 : Int32) else 1) (nar .boolean (if (p0 &&& (4 : Int32)) = (0 : Int32) then (0 : Int32) else 1)) q3 now q1)), .unset] [])) _
      refine XS.iload X10.here hx rfl (hb hby at_120) rfl ?_
      show Steps p.tables e below (T10.setTop (mkF m 122 #[.val (.int p0), .val (.long q1), .second, .val (.long q2), .second, .val (.long q3), .second, .val (.int (if (p0 &&& (1 : Int32)) = (0 : Int32) then (0 : Int32) else 1)), .val (.int (if (p0 &&& (2 : Int32)) = (0 : Int32) then (0 : Int32) else 1)), .val (.int (if (p0 &&& (4 : Int32)) = (0 : Int32) then (0 : Int32) else 1)), .val (.int (if (p0 &&& (8 : Int32)) = (0 : Int32) then (0 : Int32) else 1)), .val (.long d), .second, .val (.long now), .second, .val (.ref b3), .val (.ref b3), .val (.int (own_st (if (p0 &&& (2 : Int32)) = (0 : Int32) then (0 : Int32) else 1) (nar .boolean (if (p0 &&& (4 : Int32)) = (0 : Int32) then (0 : Int32) else 1)) q3 now q1)), .unset] [(.int (if (p0 &&& (1 : Int32)) = (0 : Int32) then (0 : Int32) else 1))])) _
      refine XS.ifYes X10.here hx rfl (pc0 := 122) (pc' := 131) rfl (hb hby at_122) rfl ((if0 _ _).trans (teq (own_b01z hc96_7)).1) (by decide) (by decide) ?_
      show Steps p.tables e below (T10.setTop (mkF m 131 #[.val (.int p0), .val (.long q1), .second, .val (.long q2), .second, .val (.long q3), .second, .val (.int (if (p0 &&& (1 : Int32)) = (0 : Int32) then (0 : Int32) else 1)), .val (.int (if (p0 &&& (2 : Int32)) = (0 : Int32) then (0 : Int32) else 1)), .val (.int (if (p0 &&& (4 : Int32)) = (0 : Int32) then (0 : Int32) else 1)), .val (.int (if (p0 &&& (8 : Int32)) = (0 : Int32) then (0 : Int32) else 1)), .val (.long d), .second, .val (.long now), .second, .val (.ref b3), .val (.ref b3), .val (.int (own_st (if (p0 &&& (2 : Int32)) = (0 : Int32) then (0 : Int32) else 1) (nar .boolean (if (p0 &&& (4 : Int32)) = (0 : Int32) then (0 : Int32) else 1)) q3 now q1)), .unset] [])) _
      refine XS.iload X10.here hx rfl (hb hby at_131) rfl ?_
      exact kt
    by_cases hc133_12 : (p0 &&& (2 : Int32)) = (0 : Int32)
    · skip
      have pre13 : ∀ t, Steps p.tables e below (T10.setTop (mkF m 144 #[.val (.int p0), .val (.long q1), .second, .val (.long q2), .second, .val (.long q3), .second, .val (.int (if (p0 &&& (1 : Int32)) = (0 : Int32) then (0 : Int32) else 1)), .val (.int (if (p0 &&& (2 : Int32)) = (0 : Int32) then (0 : Int32) else 1)), .val (.int (if (p0 &&& (4 : Int32)) = (0 : Int32) then (0 : Int32) else 1)), .val (.int (if (p0 &&& (8 : Int32)) = (0 : Int32) then (0 : Int32) else 1)), .val (.long d), .second, .val (.long now), .second, .val (.ref b3), .val (.ref b3), .val (.int (own_st (if (p0 &&& (2 : Int32)) = (0 : Int32) then (0 : Int32) else 1) (nar .boolean (if (p0 &&& (4 : Int32)) = (0 : Int32) then (0 : Int32) else 1)) q3 now q1)), .unset] [(.int (if (p0 &&& (4 : Int32)) = (0 : Int32) then (0 : Int32) else 1))])) t → Steps p.tables e below (s₁.setTop (entryFrame m #[(.int p0), (.long q1), (.long q2), (.long q3)] maxLocals)) t := by
        intro t kt
        refine pre11 _ ?_
        show Steps p.tables e below (T10.setTop (mkF m 133 #[.val (.int p0), .val (.long q1), .second, .val (.long q2), .second, .val (.long q3), .second, .val (.int (if (p0 &&& (1 : Int32)) = (0 : Int32) then (0 : Int32) else 1)), .val (.int (if (p0 &&& (2 : Int32)) = (0 : Int32) then (0 : Int32) else 1)), .val (.int (if (p0 &&& (4 : Int32)) = (0 : Int32) then (0 : Int32) else 1)), .val (.int (if (p0 &&& (8 : Int32)) = (0 : Int32) then (0 : Int32) else 1)), .val (.long d), .second, .val (.long now), .second, .val (.ref b3), .val (.ref b3), .val (.int (own_st (if (p0 &&& (2 : Int32)) = (0 : Int32) then (0 : Int32) else 1) (nar .boolean (if (p0 &&& (4 : Int32)) = (0 : Int32) then (0 : Int32) else 1)) q3 now q1)), .unset] [(.int (if (p0 &&& (2 : Int32)) = (0 : Int32) then (0 : Int32) else 1))])) _
        refine XS.ifYes X10.here hx rfl (pc0 := 133) (pc' := 142) rfl (hb hby at_133) rfl ((if0 _ _).trans (teq (own_b01z hc133_12)).1) (by decide) (by decide) ?_
        show Steps p.tables e below (T10.setTop (mkF m 142 #[.val (.int p0), .val (.long q1), .second, .val (.long q2), .second, .val (.long q3), .second, .val (.int (if (p0 &&& (1 : Int32)) = (0 : Int32) then (0 : Int32) else 1)), .val (.int (if (p0 &&& (2 : Int32)) = (0 : Int32) then (0 : Int32) else 1)), .val (.int (if (p0 &&& (4 : Int32)) = (0 : Int32) then (0 : Int32) else 1)), .val (.int (if (p0 &&& (8 : Int32)) = (0 : Int32) then (0 : Int32) else 1)), .val (.long d), .second, .val (.long now), .second, .val (.ref b3), .val (.ref b3), .val (.int (own_st (if (p0 &&& (2 : Int32)) = (0 : Int32) then (0 : Int32) else 1) (nar .boolean (if (p0 &&& (4 : Int32)) = (0 : Int32) then (0 : Int32) else 1)) q3 now q1)), .unset] [])) _
        refine XS.iload X10.here hx rfl (hb hby at_142) rfl ?_
        exact kt
      by_cases hc144_14 : (p0 &&& (4 : Int32)) = (0 : Int32)
      · skip
        have hc172_15 : (own_st (if (p0 &&& (2 : Int32)) = (0 : Int32) then (0 : Int32) else 1) (nar .boolean (if (p0 &&& (4 : Int32)) = (0 : Int32) then (0 : Int32) else 1)) q3 now q1) = (1 : Int32) := own_st2 (own_b01z hc133_12) (own_nn01.trans (own_b01z hc144_14))
        obtain ⟨fs, hr, hrun, hended, hW, hsame⟩ := X10.leave (v := some (.int (1 : Int32))) (fun h => by rw [Bd.returns] at h; cases h)
        refine ⟨_, _, pre13 _ ?_, hrun, hended, _, _, rfl, ?_, ⟨_, rfl⟩, hW, hsame.mono (by decide) (by decide)⟩
        · show Steps p.tables e below (T10.setTop (mkF m 144 #[.val (.int p0), .val (.long q1), .second, .val (.long q2), .second, .val (.long q3), .second, .val (.int (if (p0 &&& (1 : Int32)) = (0 : Int32) then (0 : Int32) else 1)), .val (.int (if (p0 &&& (2 : Int32)) = (0 : Int32) then (0 : Int32) else 1)), .val (.int (if (p0 &&& (4 : Int32)) = (0 : Int32) then (0 : Int32) else 1)), .val (.int (if (p0 &&& (8 : Int32)) = (0 : Int32) then (0 : Int32) else 1)), .val (.long d), .second, .val (.long now), .second, .val (.ref b3), .val (.ref b3), .val (.int (own_st (if (p0 &&& (2 : Int32)) = (0 : Int32) then (0 : Int32) else 1) (nar .boolean (if (p0 &&& (4 : Int32)) = (0 : Int32) then (0 : Int32) else 1)) q3 now q1)), .unset] [(.int (if (p0 &&& (4 : Int32)) = (0 : Int32) then (0 : Int32) else 1))])) _
          refine XS.ifNo X10.here hx rfl (hb hby at_144) rfl ((if0 _ _).trans (teq (own_b01z hc144_14)).2) ?_
          show Steps p.tables e below (T10.setTop (mkF m 147 #[.val (.int p0), .val (.long q1), .second, .val (.long q2), .second, .val (.long q3), .second, .val (.int (if (p0 &&& (1 : Int32)) = (0 : Int32) then (0 : Int32) else 1)), .val (.int (if (p0 &&& (2 : Int32)) = (0 : Int32) then (0 : Int32) else 1)), .val (.int (if (p0 &&& (4 : Int32)) = (0 : Int32) then (0 : Int32) else 1)), .val (.int (if (p0 &&& (8 : Int32)) = (0 : Int32) then (0 : Int32) else 1)), .val (.long d), .second, .val (.long now), .second, .val (.ref b3), .val (.ref b3), .val (.int (own_st (if (p0 &&& (2 : Int32)) = (0 : Int32) then (0 : Int32) else 1) (nar .boolean (if (p0 &&& (4 : Int32)) = (0 : Int32) then (0 : Int32) else 1)) q3 now q1)), .unset] [])) _
          refine XS.iconst X10.here hx rfl (hb hby at_147) ?_
          show Steps p.tables e below (T10.setTop (mkF m 148 #[.val (.int p0), .val (.long q1), .second, .val (.long q2), .second, .val (.long q3), .second, .val (.int (if (p0 &&& (1 : Int32)) = (0 : Int32) then (0 : Int32) else 1)), .val (.int (if (p0 &&& (2 : Int32)) = (0 : Int32) then (0 : Int32) else 1)), .val (.int (if (p0 &&& (4 : Int32)) = (0 : Int32) then (0 : Int32) else 1)), .val (.int (if (p0 &&& (8 : Int32)) = (0 : Int32) then (0 : Int32) else 1)), .val (.long d), .second, .val (.long now), .second, .val (.ref b3), .val (.ref b3), .val (.int (own_st (if (p0 &&& (2 : Int32)) = (0 : Int32) then (0 : Int32) else 1) (nar .boolean (if (p0 &&& (4 : Int32)) = (0 : Int32) then (0 : Int32) else 1)) q3 now q1)), .unset] [(.int (1 : Int32))])) _
          refine XS.istore X10.here hx rfl (hb hby at_148) rfl (l' := #[.val (.int p0), .val (.long q1), .second, .val (.long q2), .second, .val (.long q3), .second, .val (.int (if (p0 &&& (1 : Int32)) = (0 : Int32) then (0 : Int32) else 1)), .val (.int (if (p0 &&& (2 : Int32)) = (0 : Int32) then (0 : Int32) else 1)), .val (.int (if (p0 &&& (4 : Int32)) = (0 : Int32) then (0 : Int32) else 1)), .val (.int (if (p0 &&& (8 : Int32)) = (0 : Int32) then (0 : Int32) else 1)), .val (.long d), .second, .val (.long now), .second, .val (.ref b3), .val (.ref b3), .val (.int (own_st (if (p0 &&& (2 : Int32)) = (0 : Int32) then (0 : Int32) else 1) (nar .boolean (if (p0 &&& (4 : Int32)) = (0 : Int32) then (0 : Int32) else 1)) q3 now q1)), .val (.int (1 : Int32))]) rfl ?_
          show Steps p.tables e below (T10.setTop (mkF m 150 #[.val (.int p0), .val (.long q1), .second, .val (.long q2), .second, .val (.long q3), .second, .val (.int (if (p0 &&& (1 : Int32)) = (0 : Int32) then (0 : Int32) else 1)), .val (.int (if (p0 &&& (2 : Int32)) = (0 : Int32) then (0 : Int32) else 1)), .val (.int (if (p0 &&& (4 : Int32)) = (0 : Int32) then (0 : Int32) else 1)), .val (.int (if (p0 &&& (8 : Int32)) = (0 : Int32) then (0 : Int32) else 1)), .val (.long d), .second, .val (.long now), .second, .val (.ref b3), .val (.ref b3), .val (.int (own_st (if (p0 &&& (2 : Int32)) = (0 : Int32) then (0 : Int32) else 1) (nar .boolean (if (p0 &&& (4 : Int32)) = (0 : Int32) then (0 : Int32) else 1)) q3 now q1)), .val (.int (1 : Int32))] [])) _
          refine XS.goto X10.here hx rfl (pc0 := 150) (pc' := 168) rfl (hb hby at_150) (by decide) (by decide) ?_
          show Steps p.tables e below (T10.setTop (mkF m 168 #[.val (.int p0), .val (.long q1), .second, .val (.long q2), .second, .val (.long q3), .second, .val (.int (if (p0 &&& (1 : Int32)) = (0 : Int32) then (0 : Int32) else 1)), .val (.int (if (p0 &&& (2 : Int32)) = (0 : Int32) then (0 : Int32) else 1)), .val (.int (if (p0 &&& (4 : Int32)) = (0 : Int32) then (0 : Int32) else 1)), .val (.int (if (p0 &&& (8 : Int32)) = (0 : Int32) then (0 : Int32) else 1)), .val (.long d), .second, .val (.long now), .second, .val (.ref b3), .val (.ref b3), .val (.int (own_st (if (p0 &&& (2 : Int32)) = (0 : Int32) then (0 : Int32) else 1) (nar .boolean (if (p0 &&& (4 : Int32)) = (0 : Int32) then (0 : Int32) else 1)) q3 now q1)), .val (.int (1 : Int32))] [])) _
          refine XS.iload X10.here hx rfl (hb hby at_168) rfl ?_
          show Steps p.tables e below (T10.setTop (mkF m 170 #[.val (.int p0), .val (.long q1), .second, .val (.long q2), .second, .val (.long q3), .second, .val (.int (if (p0 &&& (1 : Int32)) = (0 : Int32) then (0 : Int32) else 1)), .val (.int (if (p0 &&& (2 : Int32)) = (0 : Int32) then (0 : Int32) else 1)), .val (.int (if (p0 &&& (4 : Int32)) = (0 : Int32) then (0 : Int32) else 1)), .val (.int (if (p0 &&& (8 : Int32)) = (0 : Int32) then (0 : Int32) else 1)), .val (.long d), .second, .val (.long now), .second, .val (.ref b3), .val (.ref b3), .val (.int (own_st (if (p0 &&& (2 : Int32)) = (0 : Int32) then (0 : Int32) else 1) (nar .boolean (if (p0 &&& (4 : Int32)) = (0 : Int32) then (0 : Int32) else 1)) q3 now q1)), .val (.int (1 : Int32))] [(.int (own_st (if (p0 &&& (2 : Int32)) = (0 : Int32) then (0 : Int32) else 1) (nar .boolean (if (p0 &&& (4 : Int32)) = (0 : Int32) then (0 : Int32) else 1)) q3 now q1))])) _
          refine XS.iload X10.here hx rfl (hb hby at_170) rfl ?_
          show Steps p.tables e below (T10.setTop (mkF m 172 #[.val (.int p0), .val (.long q1), .second, .val (.long q2), .second, .val (.long q3), .second, .val (.int (if (p0 &&& (1 : Int32)) = (0 : Int32) then (0 : Int32) else 1)), .val (.int (if (p0 &&& (2 : Int32)) = (0 : Int32) then (0 : Int32) else 1)), .val (.int (if (p0 &&& (4 : Int32)) = (0 : Int32) then (0 : Int32) else 1)), .val (.int (if (p0 &&& (8 : Int32)) = (0 : Int32) then (0 : Int32) else 1)), .val (.long d), .second, .val (.long now), .second, .val (.ref b3), .val (.ref b3), .val (.int (own_st (if (p0 &&& (2 : Int32)) = (0 : Int32) then (0 : Int32) else 1) (nar .boolean (if (p0 &&& (4 : Int32)) = (0 : Int32) then (0 : Int32) else 1)) q3 now q1)), .val (.int (1 : Int32))] [(.int (1 : Int32)), (.int (own_st (if (p0 &&& (2 : Int32)) = (0 : Int32) then (0 : Int32) else 1) (nar .boolean (if (p0 &&& (4 : Int32)) = (0 : Int32) then (0 : Int32) else 1)) q3 now q1))])) _
          refine XS.icmpNo X10.here hx rfl (hb hby at_172) rfl (teq hc172_15).2 ?_
          show Steps p.tables e below (T10.setTop (mkF m 175 #[.val (.int p0), .val (.long q1), .second, .val (.long q2), .second, .val (.long q3), .second, .val (.int (if (p0 &&& (1 : Int32)) = (0 : Int32) then (0 : Int32) else 1)), .val (.int (if (p0 &&& (2 : Int32)) = (0 : Int32) then (0 : Int32) else 1)), .val (.int (if (p0 &&& (4 : Int32)) = (0 : Int32) then (0 : Int32) else 1)), .val (.int (if (p0 &&& (8 : Int32)) = (0 : Int32) then (0 : Int32) else 1)), .val (.long d), .second, .val (.long now), .second, .val (.ref b3), .val (.ref b3), .val (.int (own_st (if (p0 &&& (2 : Int32)) = (0 : Int32) then (0 : Int32) else 1) (nar .boolean (if (p0 &&& (4 : Int32)) = (0 : Int32) then (0 : Int32) else 1)) q3 now q1)), .val (.int (1 : Int32))] [])) _
          refine XS.iconst X10.here hx rfl (hb hby at_175) ?_
          show Steps p.tables e below (T10.setTop (mkF m 176 #[.val (.int p0), .val (.long q1), .second, .val (.long q2), .second, .val (.long q3), .second, .val (.int (if (p0 &&& (1 : Int32)) = (0 : Int32) then (0 : Int32) else 1)), .val (.int (if (p0 &&& (2 : Int32)) = (0 : Int32) then (0 : Int32) else 1)), .val (.int (if (p0 &&& (4 : Int32)) = (0 : Int32) then (0 : Int32) else 1)), .val (.int (if (p0 &&& (8 : Int32)) = (0 : Int32) then (0 : Int32) else 1)), .val (.long d), .second, .val (.long now), .second, .val (.ref b3), .val (.ref b3), .val (.int (own_st (if (p0 &&& (2 : Int32)) = (0 : Int32) then (0 : Int32) else 1) (nar .boolean (if (p0 &&& (4 : Int32)) = (0 : Int32) then (0 : Int32) else 1)) q3 now q1)), .val (.int (1 : Int32))] [(.int (1 : Int32))])) _
          refine XS.goto X10.here hx rfl (pc0 := 176) (pc' := 180) rfl (hb hby at_176) (by decide) (by decide) ?_
          show Steps p.tables e below (T10.setTop (mkF m 180 #[.val (.int p0), .val (.long q1), .second, .val (.long q2), .second, .val (.long q3), .second, .val (.int (if (p0 &&& (1 : Int32)) = (0 : Int32) then (0 : Int32) else 1)), .val (.int (if (p0 &&& (2 : Int32)) = (0 : Int32) then (0 : Int32) else 1)), .val (.int (if (p0 &&& (4 : Int32)) = (0 : Int32) then (0 : Int32) else 1)), .val (.int (if (p0 &&& (8 : Int32)) = (0 : Int32) then (0 : Int32) else 1)), .val (.long d), .second, .val (.long now), .second, .val (.ref b3), .val (.ref b3), .val (.int (own_st (if (p0 &&& (2 : Int32)) = (0 : Int32) then (0 : Int32) else 1) (nar .boolean (if (p0 &&& (4 : Int32)) = (0 : Int32) then (0 : Int32) else 1)) q3 now q1)), .val (.int (1 : Int32))] [(.int (1 : Int32))])) _
          exact retN X10 hx (t := .boolean) Bd.returns (by simp) (hb hby at_180) hr
        · show Q0 Z p0 q1 q2 q3 h0 n0 _ T10.heap _
          exact ⟨rfl, N10⟩
      · skip
        have hc172_16 : (own_st (if (p0 &&& (2 : Int32)) = (0 : Int32) then (0 : Int32) else 1) (nar .boolean (if (p0 &&& (4 : Int32)) = (0 : Int32) then (0 : Int32) else 1)) q3 now q1) = (if q3 < d then (1 : Int32) else 0) := (own_st3 (own_b01z hc133_12) (fun q => own_b01n hc144_14 (own_nn01.symm.trans q))).trans (by rw [e_now, own_back])
        obtain ⟨fs, hr, hrun, hended, hW, hsame⟩ := X10.leave (v := some (.int (1 : Int32))) (fun h => by rw [Bd.returns] at h; cases h)
        refine ⟨_, _, pre13 _ ?_, hrun, hended, _, _, rfl, ?_, ⟨_, rfl⟩, hW, hsame.mono (by decide) (by decide)⟩
        · show Steps p.tables e below (T10.setTop (mkF m 144 #[.val (.int p0), .val (.long q1), .second, .val (.long q2), .second, .val (.long q3), .second, .val (.int (if (p0 &&& (1 : Int32)) = (0 : Int32) then (0 : Int32) else 1)), .val (.int (if (p0 &&& (2 : Int32)) = (0 : Int32) then (0 : Int32) else 1)), .val (.int (if (p0 &&& (4 : Int32)) = (0 : Int32) then (0 : Int32) else 1)), .val (.int (if (p0 &&& (8 : Int32)) = (0 : Int32) then (0 : Int32) else 1)), .val (.long d), .second, .val (.long now), .second, .val (.ref b3), .val (.ref b3), .val (.int (own_st (if (p0 &&& (2 : Int32)) = (0 : Int32) then (0 : Int32) else 1) (nar .boolean (if (p0 &&& (4 : Int32)) = (0 : Int32) then (0 : Int32) else 1)) q3 now q1)), .unset] [(.int (if (p0 &&& (4 : Int32)) = (0 : Int32) then (0 : Int32) else 1))])) _
          refine XS.ifYes X10.here hx rfl (pc0 := 144) (pc' := 153) rfl (hb hby at_144) rfl ((if0 _ _).trans (feq (own_b01n hc144_14)).2) (by decide) (by decide) ?_
          show Steps p.tables e below (T10.setTop (mkF m 153 #[.val (.int p0), .val (.long q1), .second, .val (.long q2), .second, .val (.long q3), .second, .val (.int (if (p0 &&& (1 : Int32)) = (0 : Int32) then (0 : Int32) else 1)), .val (.int (if (p0 &&& (2 : Int32)) = (0 : Int32) then (0 : Int32) else 1)), .val (.int (if (p0 &&& (4 : Int32)) = (0 : Int32) then (0 : Int32) else 1)), .val (.int (if (p0 &&& (8 : Int32)) = (0 : Int32) then (0 : Int32) else 1)), .val (.long d), .second, .val (.long now), .second, .val (.ref b3), .val (.ref b3), .val (.int (own_st (if (p0 &&& (2 : Int32)) = (0 : Int32) then (0 : Int32) else 1) (nar .boolean (if (p0 &&& (4 : Int32)) = (0 : Int32) then (0 : Int32) else 1)) q3 now q1)), .unset] [])) _
          refine XS.lload X10.here hx rfl (hb hby at_153) rfl ?_
          show Steps p.tables e below (T10.setTop (mkF m 155 #[.val (.int p0), .val (.long q1), .second, .val (.long q2), .second, .val (.long q3), .second, .val (.int (if (p0 &&& (1 : Int32)) = (0 : Int32) then (0 : Int32) else 1)), .val (.int (if (p0 &&& (2 : Int32)) = (0 : Int32) then (0 : Int32) else 1)), .val (.int (if (p0 &&& (4 : Int32)) = (0 : Int32) then (0 : Int32) else 1)), .val (.int (if (p0 &&& (8 : Int32)) = (0 : Int32) then (0 : Int32) else 1)), .val (.long d), .second, .val (.long now), .second, .val (.ref b3), .val (.ref b3), .val (.int (own_st (if (p0 &&& (2 : Int32)) = (0 : Int32) then (0 : Int32) else 1) (nar .boolean (if (p0 &&& (4 : Int32)) = (0 : Int32) then (0 : Int32) else 1)) q3 now q1)), .unset] [(.long d)])) _
          refine XS.lload X10.here hx rfl (hb hby at_155) rfl ?_
          show Steps p.tables e below (T10.setTop (mkF m 157 #[.val (.int p0), .val (.long q1), .second, .val (.long q2), .second, .val (.long q3), .second, .val (.int (if (p0 &&& (1 : Int32)) = (0 : Int32) then (0 : Int32) else 1)), .val (.int (if (p0 &&& (2 : Int32)) = (0 : Int32) then (0 : Int32) else 1)), .val (.int (if (p0 &&& (4 : Int32)) = (0 : Int32) then (0 : Int32) else 1)), .val (.int (if (p0 &&& (8 : Int32)) = (0 : Int32) then (0 : Int32) else 1)), .val (.long d), .second, .val (.long now), .second, .val (.ref b3), .val (.ref b3), .val (.int (own_st (if (p0 &&& (2 : Int32)) = (0 : Int32) then (0 : Int32) else 1) (nar .boolean (if (p0 &&& (4 : Int32)) = (0 : Int32) then (0 : Int32) else 1)) q3 now q1)), .unset] [(.long q3), (.long d)])) _
          refine XS.lcmp X10.here hx rfl (hb hby at_157) rfl ?_
          show Steps p.tables e below (T10.setTop (mkF m 158 #[.val (.int p0), .val (.long q1), .second, .val (.long q2), .second, .val (.long q3), .second, .val (.int (if (p0 &&& (1 : Int32)) = (0 : Int32) then (0 : Int32) else 1)), .val (.int (if (p0 &&& (2 : Int32)) = (0 : Int32) then (0 : Int32) else 1)), .val (.int (if (p0 &&& (4 : Int32)) = (0 : Int32) then (0 : Int32) else 1)), .val (.int (if (p0 &&& (8 : Int32)) = (0 : Int32) then (0 : Int32) else 1)), .val (.long d), .second, .val (.long now), .second, .val (.ref b3), .val (.ref b3), .val (.int (own_st (if (p0 &&& (2 : Int32)) = (0 : Int32) then (0 : Int32) else 1) (nar .boolean (if (p0 &&& (4 : Int32)) = (0 : Int32) then (0 : Int32) else 1)) q3 now q1)), .unset] [(.int (lcmpW d q3))])) _
          refine own_diaF X10.here hx rfl (pc0 := 158) rfl (hb hby at_158) (hb hby at_161) (hb hby at_162) (hb hby at_165) rfl (fun hq => ((if0 _ _).trans (tlt ((lw_gt _ _).mpr hq)).2.2.2)) (fun hq => ((if0 _ _).trans (flt (mt (lw_gt _ _).mp hq)).2.2.2)) ?_
          show Steps p.tables e below (T10.setTop (mkF m 166 #[.val (.int p0), .val (.long q1), .second, .val (.long q2), .second, .val (.long q3), .second, .val (.int (if (p0 &&& (1 : Int32)) = (0 : Int32) then (0 : Int32) else 1)), .val (.int (if (p0 &&& (2 : Int32)) = (0 : Int32) then (0 : Int32) else 1)), .val (.int (if (p0 &&& (4 : Int32)) = (0 : Int32) then (0 : Int32) else 1)), .val (.int (if (p0 &&& (8 : Int32)) = (0 : Int32) then (0 : Int32) else 1)), .val (.long d), .second, .val (.long now), .second, .val (.ref b3), .val (.ref b3), .val (.int (own_st (if (p0 &&& (2 : Int32)) = (0 : Int32) then (0 : Int32) else 1) (nar .boolean (if (p0 &&& (4 : Int32)) = (0 : Int32) then (0 : Int32) else 1)) q3 now q1)), .unset] [(.int (if q3 < d then (1 : Int32) else 0))])) _
          refine XS.istore X10.here hx rfl (hb hby at_166) rfl (l' := #[.val (.int p0), .val (.long q1), .second, .val (.long q2), .second, .val (.long q3), .second, .val (.int (if (p0 &&& (1 : Int32)) = (0 : Int32) then (0 : Int32) else 1)), .val (.int (if (p0 &&& (2 : Int32)) = (0 : Int32) then (0 : Int32) else 1)), .val (.int (if (p0 &&& (4 : Int32)) = (0 : Int32) then (0 : Int32) else 1)), .val (.int (if (p0 &&& (8 : Int32)) = (0 : Int32) then (0 : Int32) else 1)), .val (.long d), .second, .val (.long now), .second, .val (.ref b3), .val (.ref b3), .val (.int (own_st (if (p0 &&& (2 : Int32)) = (0 : Int32) then (0 : Int32) else 1) (nar .boolean (if (p0 &&& (4 : Int32)) = (0 : Int32) then (0 : Int32) else 1)) q3 now q1)), .val (.int (if q3 < d then (1 : Int32) else 0))]) rfl ?_
          show Steps p.tables e below (T10.setTop (mkF m 168 #[.val (.int p0), .val (.long q1), .second, .val (.long q2), .second, .val (.long q3), .second, .val (.int (if (p0 &&& (1 : Int32)) = (0 : Int32) then (0 : Int32) else 1)), .val (.int (if (p0 &&& (2 : Int32)) = (0 : Int32) then (0 : Int32) else 1)), .val (.int (if (p0 &&& (4 : Int32)) = (0 : Int32) then (0 : Int32) else 1)), .val (.int (if (p0 &&& (8 : Int32)) = (0 : Int32) then (0 : Int32) else 1)), .val (.long d), .second, .val (.long now), .second, .val (.ref b3), .val (.ref b3), .val (.int (own_st (if (p0 &&& (2 : Int32)) = (0 : Int32) then (0 : Int32) else 1) (nar .boolean (if (p0 &&& (4 : Int32)) = (0 : Int32) then (0 : Int32) else 1)) q3 now q1)), .val (.int (if q3 < d then (1 : Int32) else 0))] [])) _
          refine XS.iload X10.here hx rfl (hb hby at_168) rfl ?_
          show Steps p.tables e below (T10.setTop (mkF m 170 #[.val (.int p0), .val (.long q1), .second, .val (.long q2), .second, .val (.long q3), .second, .val (.int (if (p0 &&& (1 : Int32)) = (0 : Int32) then (0 : Int32) else 1)), .val (.int (if (p0 &&& (2 : Int32)) = (0 : Int32) then (0 : Int32) else 1)), .val (.int (if (p0 &&& (4 : Int32)) = (0 : Int32) then (0 : Int32) else 1)), .val (.int (if (p0 &&& (8 : Int32)) = (0 : Int32) then (0 : Int32) else 1)), .val (.long d), .second, .val (.long now), .second, .val (.ref b3), .val (.ref b3), .val (.int (own_st (if (p0 &&& (2 : Int32)) = (0 : Int32) then (0 : Int32) else 1) (nar .boolean (if (p0 &&& (4 : Int32)) = (0 : Int32) then (0 : Int32) else 1)) q3 now q1)), .val (.int (if q3 < d then (1 : Int32) else 0))] [(.int (own_st (if (p0 &&& (2 : Int32)) = (0 : Int32) then (0 : Int32) else 1) (nar .boolean (if (p0 &&& (4 : Int32)) = (0 : Int32) then (0 : Int32) else 1)) q3 now q1))])) _
          refine XS.iload X10.here hx rfl (hb hby at_170) rfl ?_
          show Steps p.tables e below (T10.setTop (mkF m 172 #[.val (.int p0), .val (.long q1), .second, .val (.long q2), .second, .val (.long q3), .second, .val (.int (if (p0 &&& (1 : Int32)) = (0 : Int32) then (0 : Int32) else 1)), .val (.int (if (p0 &&& (2 : Int32)) = (0 : Int32) then (0 : Int32) else 1)), .val (.int (if (p0 &&& (4 : Int32)) = (0 : Int32) then (0 : Int32) else 1)), .val (.int (if (p0 &&& (8 : Int32)) = (0 : Int32) then (0 : Int32) else 1)), .val (.long d), .second, .val (.long now), .second, .val (.ref b3), .val (.ref b3), .val (.int (own_st (if (p0 &&& (2 : Int32)) = (0 : Int32) then (0 : Int32) else 1) (nar .boolean (if (p0 &&& (4 : Int32)) = (0 : Int32) then (0 : Int32) else 1)) q3 now q1)), .val (.int (if q3 < d then (1 : Int32) else 0))] [(.int (if q3 < d then (1 : Int32) else 0)), (.int (own_st (if (p0 &&& (2 : Int32)) = (0 : Int32) then (0 : Int32) else 1) (nar .boolean (if (p0 &&& (4 : Int32)) = (0 : Int32) then (0 : Int32) else 1)) q3 now q1))])) _
          refine XS.icmpNo X10.here hx rfl (hb hby at_172) rfl (teq hc172_16).2 ?_
          show Steps p.tables e below (T10.setTop (mkF m 175 #[.val (.int p0), .val (.long q1), .second, .val (.long q2), .second, .val (.long q3), .second, .val (.int (if (p0 &&& (1 : Int32)) = (0 : Int32) then (0 : Int32) else 1)), .val (.int (if (p0 &&& (2 : Int32)) = (0 : Int32) then (0 : Int32) else 1)), .val (.int (if (p0 &&& (4 : Int32)) = (0 : Int32) then (0 : Int32) else 1)), .val (.int (if (p0 &&& (8 : Int32)) = (0 : Int32) then (0 : Int32) else 1)), .val (.long d), .second, .val (.long now), .second, .val (.ref b3), .val (.ref b3), .val (.int (own_st (if (p0 &&& (2 : Int32)) = (0 : Int32) then (0 : Int32) else 1) (nar .boolean (if (p0 &&& (4 : Int32)) = (0 : Int32) then (0 : Int32) else 1)) q3 now q1)), .val (.int (if q3 < d then (1 : Int32) else 0))] [])) _
          refine XS.iconst X10.here hx rfl (hb hby at_175) ?_
          show Steps p.tables e below (T10.setTop (mkF m 176 #[.val (.int p0), .val (.long q1), .second, .val (.long q2), .second, .val (.long q3), .second, .val (.int (if (p0 &&& (1 : Int32)) = (0 : Int32) then (0 : Int32) else 1)), .val (.int (if (p0 &&& (2 : Int32)) = (0 : Int32) then (0 : Int32) else 1)), .val (.int (if (p0 &&& (4 : Int32)) = (0 : Int32) then (0 : Int32) else 1)), .val (.int (if (p0 &&& (8 : Int32)) = (0 : Int32) then (0 : Int32) else 1)), .val (.long d), .second, .val (.long now), .second, .val (.ref b3), .val (.ref b3), .val (.int (own_st (if (p0 &&& (2 : Int32)) = (0 : Int32) then (0 : Int32) else 1) (nar .boolean (if (p0 &&& (4 : Int32)) = (0 : Int32) then (0 : Int32) else 1)) q3 now q1)), .val (.int (if q3 < d then (1 : Int32) else 0))] [(.int (1 : Int32))])) _
          refine XS.goto X10.here hx rfl (pc0 := 176) (pc' := 180) rfl (hb hby at_176) (by decide) (by decide) ?_
          show Steps p.tables e below (T10.setTop (mkF m 180 #[.val (.int p0), .val (.long q1), .second, .val (.long q2), .second, .val (.long q3), .second, .val (.int (if (p0 &&& (1 : Int32)) = (0 : Int32) then (0 : Int32) else 1)), .val (.int (if (p0 &&& (2 : Int32)) = (0 : Int32) then (0 : Int32) else 1)), .val (.int (if (p0 &&& (4 : Int32)) = (0 : Int32) then (0 : Int32) else 1)), .val (.int (if (p0 &&& (8 : Int32)) = (0 : Int32) then (0 : Int32) else 1)), .val (.long d), .second, .val (.long now), .second, .val (.ref b3), .val (.ref b3), .val (.int (own_st (if (p0 &&& (2 : Int32)) = (0 : Int32) then (0 : Int32) else 1) (nar .boolean (if (p0 &&& (4 : Int32)) = (0 : Int32) then (0 : Int32) else 1)) q3 now q1)), .val (.int (if q3 < d then (1 : Int32) else 0))] [(.int (1 : Int32))])) _
          exact retN X10 hx (t := .boolean) Bd.returns (by simp) (hb hby at_180) hr
        · show Q0 Z p0 q1 q2 q3 h0 n0 _ T10.heap _
          exact ⟨rfl, N10⟩
    · skip
      have hc172_17 : (own_st (if (p0 &&& (2 : Int32)) = (0 : Int32) then (0 : Int32) else 1) (nar .boolean (if (p0 &&& (4 : Int32)) = (0 : Int32) then (0 : Int32) else 1)) q3 now q1) = (0 : Int32) := own_st1 (own_b01n hc133_12)
      obtain ⟨fs, hr, hrun, hended, hW, hsame⟩ := X10.leave (v := some (.int (1 : Int32))) (fun h => by rw [Bd.returns] at h; cases h)
      refine ⟨_, _, pre11 _ ?_, hrun, hended, _, _, rfl, ?_, ⟨_, rfl⟩, hW, hsame.mono (by decide) (by decide)⟩
      · show Steps p.tables e below (T10.setTop (mkF m 133 #[.val (.int p0), .val (.long q1), .second, .val (.long q2), .second, .val (.long q3), .second, .val (.int (if (p0 &&& (1 : Int32)) = (0 : Int32) then (0 : Int32) else 1)), .val (.int (if (p0 &&& (2 : Int32)) = (0 : Int32) then (0 : Int32) else 1)), .val (.int (if (p0 &&& (4 : Int32)) = (0 : Int32) then (0 : Int32) else 1)), .val (.int (if (p0 &&& (8 : Int32)) = (0 : Int32) then (0 : Int32) else 1)), .val (.long d), .second, .val (.long now), .second, .val (.ref b3), .val (.ref b3), .val (.int (own_st (if (p0 &&& (2 : Int32)) = (0 : Int32) then (0 : Int32) else 1) (nar .boolean (if (p0 &&& (4 : Int32)) = (0 : Int32) then (0 : Int32) else 1)) q3 now q1)), .unset] [(.int (if (p0 &&& (2 : Int32)) = (0 : Int32) then (0 : Int32) else 1))])) _
        refine XS.ifNo X10.here hx rfl (hb hby at_133) rfl ((if0 _ _).trans (feq (own_b01n hc133_12)).1) ?_
        show Steps p.tables e below (T10.setTop (mkF m 136 #[.val (.int p0), .val (.long q1), .second, .val (.long q2), .second, .val (.long q3), .second, .val (.int (if (p0 &&& (1 : Int32)) = (0 : Int32) then (0 : Int32) else 1)), .val (.int (if (p0 &&& (2 : Int32)) = (0 : Int32) then (0 : Int32) else 1)), .val (.int (if (p0 &&& (4 : Int32)) = (0 : Int32) then (0 : Int32) else 1)), .val (.int (if (p0 &&& (8 : Int32)) = (0 : Int32) then (0 : Int32) else 1)), .val (.long d), .second, .val (.long now), .second, .val (.ref b3), .val (.ref b3), .val (.int (own_st (if (p0 &&& (2 : Int32)) = (0 : Int32) then (0 : Int32) else 1) (nar .boolean (if (p0 &&& (4 : Int32)) = (0 : Int32) then (0 : Int32) else 1)) q3 now q1)), .unset] [])) _
        refine XS.iconst X10.here hx rfl (hb hby at_136) ?_
        show Steps p.tables e below (T10.setTop (mkF m 137 #[.val (.int p0), .val (.long q1), .second, .val (.long q2), .second, .val (.long q3), .second, .val (.int (if (p0 &&& (1 : Int32)) = (0 : Int32) then (0 : Int32) else 1)), .val (.int (if (p0 &&& (2 : Int32)) = (0 : Int32) then (0 : Int32) else 1)), .val (.int (if (p0 &&& (4 : Int32)) = (0 : Int32) then (0 : Int32) else 1)), .val (.int (if (p0 &&& (8 : Int32)) = (0 : Int32) then (0 : Int32) else 1)), .val (.long d), .second, .val (.long now), .second, .val (.ref b3), .val (.ref b3), .val (.int (own_st (if (p0 &&& (2 : Int32)) = (0 : Int32) then (0 : Int32) else 1) (nar .boolean (if (p0 &&& (4 : Int32)) = (0 : Int32) then (0 : Int32) else 1)) q3 now q1)), .unset] [(.int (0 : Int32))])) _
        refine XS.istore X10.here hx rfl (hb hby at_137) rfl (l' := #[.val (.int p0), .val (.long q1), .second, .val (.long q2), .second, .val (.long q3), .second, .val (.int (if (p0 &&& (1 : Int32)) = (0 : Int32) then (0 : Int32) else 1)), .val (.int (if (p0 &&& (2 : Int32)) = (0 : Int32) then (0 : Int32) else 1)), .val (.int (if (p0 &&& (4 : Int32)) = (0 : Int32) then (0 : Int32) else 1)), .val (.int (if (p0 &&& (8 : Int32)) = (0 : Int32) then (0 : Int32) else 1)), .val (.long d), .second, .val (.long now), .second, .val (.ref b3), .val (.ref b3), .val (.int (own_st (if (p0 &&& (2 : Int32)) = (0 : Int32) then (0 : Int32) else 1) (nar .boolean (if (p0 &&& (4 : Int32)) = (0 : Int32) then (0 : Int32) else 1)) q3 now q1)), .val (.int (0 : Int32))]) rfl ?_
        show Steps p.tables e below (T10.setTop (mkF m 139 #[.val (.int p0), .val (.long q1), .second, .val (.long q2), .second, .val (.long q3), .second, .val (.int (if (p0 &&& (1 : Int32)) = (0 : Int32) then (0 : Int32) else 1)), .val (.int (if (p0 &&& (2 : Int32)) = (0 : Int32) then (0 : Int32) else 1)), .val (.int (if (p0 &&& (4 : Int32)) = (0 : Int32) then (0 : Int32) else 1)), .val (.int (if (p0 &&& (8 : Int32)) = (0 : Int32) then (0 : Int32) else 1)), .val (.long d), .second, .val (.long now), .second, .val (.ref b3), .val (.ref b3), .val (.int (own_st (if (p0 &&& (2 : Int32)) = (0 : Int32) then (0 : Int32) else 1) (nar .boolean (if (p0 &&& (4 : Int32)) = (0 : Int32) then (0 : Int32) else 1)) q3 now q1)), .val (.int (0 : Int32))] [])) _
        refine XS.goto X10.here hx rfl (pc0 := 139) (pc' := 168) rfl (hb hby at_139) (by decide) (by decide) ?_
        show Steps p.tables e below (T10.setTop (mkF m 168 #[.val (.int p0), .val (.long q1), .second, .val (.long q2), .second, .val (.long q3), .second, .val (.int (if (p0 &&& (1 : Int32)) = (0 : Int32) then (0 : Int32) else 1)), .val (.int (if (p0 &&& (2 : Int32)) = (0 : Int32) then (0 : Int32) else 1)), .val (.int (if (p0 &&& (4 : Int32)) = (0 : Int32) then (0 : Int32) else 1)), .val (.int (if (p0 &&& (8 : Int32)) = (0 : Int32) then (0 : Int32) else 1)), .val (.long d), .second, .val (.long now), .second, .val (.ref b3), .val (.ref b3), .val (.int (own_st (if (p0 &&& (2 : Int32)) = (0 : Int32) then (0 : Int32) else 1) (nar .boolean (if (p0 &&& (4 : Int32)) = (0 : Int32) then (0 : Int32) else 1)) q3 now q1)), .val (.int (0 : Int32))] [])) _
        refine XS.iload X10.here hx rfl (hb hby at_168) rfl ?_
        show Steps p.tables e below (T10.setTop (mkF m 170 #[.val (.int p0), .val (.long q1), .second, .val (.long q2), .second, .val (.long q3), .second, .val (.int (if (p0 &&& (1 : Int32)) = (0 : Int32) then (0 : Int32) else 1)), .val (.int (if (p0 &&& (2 : Int32)) = (0 : Int32) then (0 : Int32) else 1)), .val (.int (if (p0 &&& (4 : Int32)) = (0 : Int32) then (0 : Int32) else 1)), .val (.int (if (p0 &&& (8 : Int32)) = (0 : Int32) then (0 : Int32) else 1)), .val (.long d), .second, .val (.long now), .second, .val (.ref b3), .val (.ref b3), .val (.int (own_st (if (p0 &&& (2 : Int32)) = (0 : Int32) then (0 : Int32) else 1) (nar .boolean (if (p0 &&& (4 : Int32)) = (0 : Int32) then (0 : Int32) else 1)) q3 now q1)), .val (.int (0 : Int32))] [(.int (own_st (if (p0 &&& (2 : Int32)) = (0 : Int32) then (0 : Int32) else 1) (nar .boolean (if (p0 &&& (4 : Int32)) = (0 : Int32) then (0 : Int32) else 1)) q3 now q1))])) _
        refine XS.iload X10.here hx rfl (hb hby at_170) rfl ?_
        show Steps p.tables e below (T10.setTop (mkF m 172 #[.val (.int p0), .val (.long q1), .second, .val (.long q2), .second, .val (.long q3), .second, .val (.int (if (p0 &&& (1 : Int32)) = (0 : Int32) then (0 : Int32) else 1)), .val (.int (if (p0 &&& (2 : Int32)) = (0 : Int32) then (0 : Int32) else 1)), .val (.int (if (p0 &&& (4 : Int32)) = (0 : Int32) then (0 : Int32) else 1)), .val (.int (if (p0 &&& (8 : Int32)) = (0 : Int32) then (0 : Int32) else 1)), .val (.long d), .second, .val (.long now), .second, .val (.ref b3), .val (.ref b3), .val (.int (own_st (if (p0 &&& (2 : Int32)) = (0 : Int32) then (0 : Int32) else 1) (nar .boolean (if (p0 &&& (4 : Int32)) = (0 : Int32) then (0 : Int32) else 1)) q3 now q1)), .val (.int (0 : Int32))] [(.int (0 : Int32)), (.int (own_st (if (p0 &&& (2 : Int32)) = (0 : Int32) then (0 : Int32) else 1) (nar .boolean (if (p0 &&& (4 : Int32)) = (0 : Int32) then (0 : Int32) else 1)) q3 now q1))])) _
        refine XS.icmpNo X10.here hx rfl (hb hby at_172) rfl (teq hc172_17).2 ?_
        show Steps p.tables e below (T10.setTop (mkF m 175 #[.val (.int p0), .val (.long q1), .second, .val (.long q2), .second, .val (.long q3), .second, .val (.int (if (p0 &&& (1 : Int32)) = (0 : Int32) then (0 : Int32) else 1)), .val (.int (if (p0 &&& (2 : Int32)) = (0 : Int32) then (0 : Int32) else 1)), .val (.int (if (p0 &&& (4 : Int32)) = (0 : Int32) then (0 : Int32) else 1)), .val (.int (if (p0 &&& (8 : Int32)) = (0 : Int32) then (0 : Int32) else 1)), .val (.long d), .second, .val (.long now), .second, .val (.ref b3), .val (.ref b3), .val (.int (own_st (if (p0 &&& (2 : Int32)) = (0 : Int32) then (0 : Int32) else 1) (nar .boolean (if (p0 &&& (4 : Int32)) = (0 : Int32) then (0 : Int32) else 1)) q3 now q1)), .val (.int (0 : Int32))] [])) _
        refine XS.iconst X10.here hx rfl (hb hby at_175) ?_
        show Steps p.tables e below (T10.setTop (mkF m 176 #[.val (.int p0), .val (.long q1), .second, .val (.long q2), .second, .val (.long q3), .second, .val (.int (if (p0 &&& (1 : Int32)) = (0 : Int32) then (0 : Int32) else 1)), .val (.int (if (p0 &&& (2 : Int32)) = (0 : Int32) then (0 : Int32) else 1)), .val (.int (if (p0 &&& (4 : Int32)) = (0 : Int32) then (0 : Int32) else 1)), .val (.int (if (p0 &&& (8 : Int32)) = (0 : Int32) then (0 : Int32) else 1)), .val (.long d), .second, .val (.long now), .second, .val (.ref b3), .val (.ref b3), .val (.int (own_st (if (p0 &&& (2 : Int32)) = (0 : Int32) then (0 : Int32) else 1) (nar .boolean (if (p0 &&& (4 : Int32)) = (0 : Int32) then (0 : Int32) else 1)) q3 now q1)), .val (.int (0 : Int32))] [(.int (1 : Int32))])) _
        refine XS.goto X10.here hx rfl (pc0 := 176) (pc' := 180) rfl (hb hby at_176) (by decide) (by decide) ?_
        show Steps p.tables e below (T10.setTop (mkF m 180 #[.val (.int p0), .val (.long q1), .second, .val (.long q2), .second, .val (.long q3), .second, .val (.int (if (p0 &&& (1 : Int32)) = (0 : Int32) then (0 : Int32) else 1)), .val (.int (if (p0 &&& (2 : Int32)) = (0 : Int32) then (0 : Int32) else 1)), .val (.int (if (p0 &&& (4 : Int32)) = (0 : Int32) then (0 : Int32) else 1)), .val (.int (if (p0 &&& (8 : Int32)) = (0 : Int32) then (0 : Int32) else 1)), .val (.long d), .second, .val (.long now), .second, .val (.ref b3), .val (.ref b3), .val (.int (own_st (if (p0 &&& (2 : Int32)) = (0 : Int32) then (0 : Int32) else 1) (nar .boolean (if (p0 &&& (4 : Int32)) = (0 : Int32) then (0 : Int32) else 1)) q3 now q1)), .val (.int (0 : Int32))] [(.int (1 : Int32))])) _
        exact retN X10 hx (t := .boolean) Bd.returns (by simp) (hb hby at_180) hr
      · show Q0 Z p0 q1 q2 q3 h0 n0 _ T10.heap _
        exact ⟨rfl, N10⟩
  · skip
    have z18 : n0 ≤ T5.heap.size := (Nat.le_trans z4 K5.1)
    -- pc 115: HealthWatch.stalled by rm4n
    obtain ⟨_, _, ⟨T19, L19, k19, n19⟩, -, X19, ⟨Lc19, hQ19, l19, y19, z19'⟩, st19⟩ := Jvm.LawKit.callS X5 hx (y := (⟨"com/example/pit_crew/pitcrew/HealthWatch", "stalled", "(Lcom/example/pit_crew/pitcrew/Handle$Report;ZJJ)Z"⟩ : MethodName)) hown (mvT hZ (hw _ (List.mem_of_getElem? (i := 18) rfl))) (mvT hZ (hw _ (List.mem_of_getElem? (i := 19) rfl))) (mvT hZ (hw _ (List.mem_of_getElem? (i := 20) rfl))) (mvT hZ (hw _ (List.mem_of_getElem? (i := 21) rfl))) (by decide) (backOf (W := 0) (rm4n l Z a0 hw [] (if (p0 &&& (2 : Int32)) = (0 : Int32) then (0 : Int32) else 1) q3 now T5.heap n0 z18 ) hZ (hw _ (List.mem_of_getElem? (i := 21) rfl)) (hw _ (List.mem_of_getElem? (i := 20) rfl)) (by decide) (by decide)) (g := (mkF m 115 #[.val (.int p0), .val (.long q1), .second, .val (.long q2), .second, .val (.long q3), .second, .val (.int (if (p0 &&& (1 : Int32)) = (0 : Int32) then (0 : Int32) else 1)), .val (.int (if (p0 &&& (2 : Int32)) = (0 : Int32) then (0 : Int32) else 1)), .val (.int (if (p0 &&& (4 : Int32)) = (0 : Int32) then (0 : Int32) else 1)), .val (.int (if (p0 &&& (8 : Int32)) = (0 : Int32) then (0 : Int32) else 1)), .val (.long d), .second, .val (.long now), .second, .val (.ref b3), .val .null, .unset, .unset] [(.long now), (.long q3), (.int (if (p0 &&& (2 : Int32)) = (0 : Int32) then (0 : Int32) else 1)), .null])) rfl (by rw [hml]; rfl) (argsL := [.null, (.int (if (p0 &&& (2 : Int32)) = (0 : Int32) then (0 : Int32) else 1)), (.long q3), (.long now)]) (rest := []) (lenOf pd_4 rfl) rfl (by show 2 * 0 + _ ≤ _; exact Nat.le_of_eq rfl) (hb hby at_115) (fun _ _ => ⟨rfl, rfl, (by decide : 1 + 0 ≤ _), (by decide : 2 + 0 ≤ _)⟩)
    dsimp only [Pt.U, Pt.locs, Pt.cells, Pt.slots] at X19 l19 y19 z19' st19 hQ19
    subst l19 y19 z19'
    obtain ⟨rfl, N19q, K19⟩ := hQ19
    have N19 := Fr.app N5 N19q
    have J19 : Keep h0 T19.heap [] := J5.trans K19 all0
    obtain ⟨fs, hr, hrun, hended, hW, hsame⟩ := X19.leave (v := some (.int (1 : Int32))) (fun h => by rw [Bd.returns] at h; cases h)
    refine ⟨_, _, pre6 _ ?_, hrun, hended, _, _, rfl, ?_, ⟨_, rfl⟩, hW, hsame.mono (by decide) (by decide)⟩
    · show Steps p.tables e below (T5.setTop (mkF m 96 #[.val (.int p0), .val (.long q1), .second, .val (.long q2), .second, .val (.long q3), .second, .val (.int (if (p0 &&& (1 : Int32)) = (0 : Int32) then (0 : Int32) else 1)), .val (.int (if (p0 &&& (2 : Int32)) = (0 : Int32) then (0 : Int32) else 1)), .val (.int (if (p0 &&& (4 : Int32)) = (0 : Int32) then (0 : Int32) else 1)), .val (.int (if (p0 &&& (8 : Int32)) = (0 : Int32) then (0 : Int32) else 1)), .val (.long d), .second, .val (.long now), .second, .val (.ref b3), .unset, .unset, .unset] [(.int (if (p0 &&& (1 : Int32)) = (0 : Int32) then (0 : Int32) else 1))])) _
      refine XS.ifNo X5.here hx rfl (hb hby at_96) rfl ((if0 _ _).trans (feq (own_b01n hc96_7)).1) ?_
      show Steps p.tables e below (T5.setTop (mkF m 99 #[.val (.int p0), .val (.long q1), .second, .val (.long q2), .second, .val (.long q3), .second, .val (.int (if (p0 &&& (1 : Int32)) = (0 : Int32) then (0 : Int32) else 1)), .val (.int (if (p0 &&& (2 : Int32)) = (0 : Int32) then (0 : Int32) else 1)), .val (.int (if (p0 &&& (4 : Int32)) = (0 : Int32) then (0 : Int32) else 1)), .val (.int (if (p0 &&& (8 : Int32)) = (0 : Int32) then (0 : Int32) else 1)), .val (.long d), .second, .val (.long now), .second, .val (.ref b3), .unset, .unset, .unset] [])) _
      refine XS.aconstNull X5.here hx rfl (hb hby at_99) ?_
      show Steps p.tables e below (T5.setTop (mkF m 100 #[.val (.int p0), .val (.long q1), .second, .val (.long q2), .second, .val (.long q3), .second, .val (.int (if (p0 &&& (1 : Int32)) = (0 : Int32) then (0 : Int32) else 1)), .val (.int (if (p0 &&& (2 : Int32)) = (0 : Int32) then (0 : Int32) else 1)), .val (.int (if (p0 &&& (4 : Int32)) = (0 : Int32) then (0 : Int32) else 1)), .val (.int (if (p0 &&& (8 : Int32)) = (0 : Int32) then (0 : Int32) else 1)), .val (.long d), .second, .val (.long now), .second, .val (.ref b3), .unset, .unset, .unset] [.null])) _
      refine XS.goto X5.here hx rfl (pc0 := 100) (pc' := 105) rfl (hb hby at_100) (by decide) (by decide) ?_
      show Steps p.tables e below (T5.setTop (mkF m 105 #[.val (.int p0), .val (.long q1), .second, .val (.long q2), .second, .val (.long q3), .second, .val (.int (if (p0 &&& (1 : Int32)) = (0 : Int32) then (0 : Int32) else 1)), .val (.int (if (p0 &&& (2 : Int32)) = (0 : Int32) then (0 : Int32) else 1)), .val (.int (if (p0 &&& (4 : Int32)) = (0 : Int32) then (0 : Int32) else 1)), .val (.int (if (p0 &&& (8 : Int32)) = (0 : Int32) then (0 : Int32) else 1)), .val (.long d), .second, .val (.long now), .second, .val (.ref b3), .unset, .unset, .unset] [.null])) _
      refine XS.astore X5.here hx rfl (hb hby at_105) rfl rfl (l' := #[.val (.int p0), .val (.long q1), .second, .val (.long q2), .second, .val (.long q3), .second, .val (.int (if (p0 &&& (1 : Int32)) = (0 : Int32) then (0 : Int32) else 1)), .val (.int (if (p0 &&& (2 : Int32)) = (0 : Int32) then (0 : Int32) else 1)), .val (.int (if (p0 &&& (4 : Int32)) = (0 : Int32) then (0 : Int32) else 1)), .val (.int (if (p0 &&& (8 : Int32)) = (0 : Int32) then (0 : Int32) else 1)), .val (.long d), .second, .val (.long now), .second, .val (.ref b3), .val .null, .unset, .unset]) rfl ?_
      show Steps p.tables e below (T5.setTop (mkF m 107 #[.val (.int p0), .val (.long q1), .second, .val (.long q2), .second, .val (.long q3), .second, .val (.int (if (p0 &&& (1 : Int32)) = (0 : Int32) then (0 : Int32) else 1)), .val (.int (if (p0 &&& (2 : Int32)) = (0 : Int32) then (0 : Int32) else 1)), .val (.int (if (p0 &&& (4 : Int32)) = (0 : Int32) then (0 : Int32) else 1)), .val (.int (if (p0 &&& (8 : Int32)) = (0 : Int32) then (0 : Int32) else 1)), .val (.long d), .second, .val (.long now), .second, .val (.ref b3), .val .null, .unset, .unset] [])) _
      refine XS.aload X5.here hx rfl (hb hby at_107) rfl rfl ?_
      show Steps p.tables e below (T5.setTop (mkF m 109 #[.val (.int p0), .val (.long q1), .second, .val (.long q2), .second, .val (.long q3), .second, .val (.int (if (p0 &&& (1 : Int32)) = (0 : Int32) then (0 : Int32) else 1)), .val (.int (if (p0 &&& (2 : Int32)) = (0 : Int32) then (0 : Int32) else 1)), .val (.int (if (p0 &&& (4 : Int32)) = (0 : Int32) then (0 : Int32) else 1)), .val (.int (if (p0 &&& (8 : Int32)) = (0 : Int32) then (0 : Int32) else 1)), .val (.long d), .second, .val (.long now), .second, .val (.ref b3), .val .null, .unset, .unset] [.null])) _
      refine XS.iload X5.here hx rfl (hb hby at_109) rfl ?_
      show Steps p.tables e below (T5.setTop (mkF m 111 #[.val (.int p0), .val (.long q1), .second, .val (.long q2), .second, .val (.long q3), .second, .val (.int (if (p0 &&& (1 : Int32)) = (0 : Int32) then (0 : Int32) else 1)), .val (.int (if (p0 &&& (2 : Int32)) = (0 : Int32) then (0 : Int32) else 1)), .val (.int (if (p0 &&& (4 : Int32)) = (0 : Int32) then (0 : Int32) else 1)), .val (.int (if (p0 &&& (8 : Int32)) = (0 : Int32) then (0 : Int32) else 1)), .val (.long d), .second, .val (.long now), .second, .val (.ref b3), .val .null, .unset, .unset] [(.int (if (p0 &&& (2 : Int32)) = (0 : Int32) then (0 : Int32) else 1)), .null])) _
      refine XS.lload X5.here hx rfl (hb hby at_111) rfl ?_
      show Steps p.tables e below (T5.setTop (mkF m 113 #[.val (.int p0), .val (.long q1), .second, .val (.long q2), .second, .val (.long q3), .second, .val (.int (if (p0 &&& (1 : Int32)) = (0 : Int32) then (0 : Int32) else 1)), .val (.int (if (p0 &&& (2 : Int32)) = (0 : Int32) then (0 : Int32) else 1)), .val (.int (if (p0 &&& (4 : Int32)) = (0 : Int32) then (0 : Int32) else 1)), .val (.int (if (p0 &&& (8 : Int32)) = (0 : Int32) then (0 : Int32) else 1)), .val (.long d), .second, .val (.long now), .second, .val (.ref b3), .val .null, .unset, .unset] [(.long q3), (.int (if (p0 &&& (2 : Int32)) = (0 : Int32) then (0 : Int32) else 1)), .null])) _
      refine XS.lload X5.here hx rfl (hb hby at_113) rfl ?_
      show Steps p.tables e below (T5.setTop (mkF m 115 #[.val (.int p0), .val (.long q1), .second, .val (.long q2), .second, .val (.long q3), .second, .val (.int (if (p0 &&& (1 : Int32)) = (0 : Int32) then (0 : Int32) else 1)), .val (.int (if (p0 &&& (2 : Int32)) = (0 : Int32) then (0 : Int32) else 1)), .val (.int (if (p0 &&& (4 : Int32)) = (0 : Int32) then (0 : Int32) else 1)), .val (.int (if (p0 &&& (8 : Int32)) = (0 : Int32) then (0 : Int32) else 1)), .val (.long d), .second, .val (.long now), .second, .val (.ref b3), .val .null, .unset, .unset] [(.long now), (.long q3), (.int (if (p0 &&& (2 : Int32)) = (0 : Int32) then (0 : Int32) else 1)), .null])) _
      refine st19 _ ?_
      show Steps p.tables e below (T19.setTop (mkF m 118 #[.val (.int p0), .val (.long q1), .second, .val (.long q2), .second, .val (.long q3), .second, .val (.int (if (p0 &&& (1 : Int32)) = (0 : Int32) then (0 : Int32) else 1)), .val (.int (if (p0 &&& (2 : Int32)) = (0 : Int32) then (0 : Int32) else 1)), .val (.int (if (p0 &&& (4 : Int32)) = (0 : Int32) then (0 : Int32) else 1)), .val (.int (if (p0 &&& (8 : Int32)) = (0 : Int32) then (0 : Int32) else 1)), .val (.long d), .second, .val (.long now), .second, .val (.ref b3), .val .null, .unset, .unset] [(.int (0 : Int32))])) _
      refine XS.istore X19.here hx rfl (hb hby at_118) rfl (l' := #[.val (.int p0), .val (.long q1), .second, .val (.long q2), .second, .val (.long q3), .second, .val (.int (if (p0 &&& (1 : Int32)) = (0 : Int32) then (0 : Int32) else 1)), .val (.int (if (p0 &&& (2 : Int32)) = (0 : Int32) then (0 : Int32) else 1)), .val (.int (if (p0 &&& (4 : Int32)) = (0 : Int32) then (0 : Int32) else 1)), .val (.int (if (p0 &&& (8 : Int32)) = (0 : Int32) then (0 : Int32) else 1)), .val (.long d), .second, .val (.long now), .second, .val (.ref b3), .val .null, .val (.int (0 : Int32)), .unset]) rfl ?_
      show Steps p.tables e below (T19.setTop (mkF m 120 #[.val (.int p0), .val (.long q1), .second, .val (.long q2), .second, .val (.long q3), .second, .val (.int (if (p0 &&& (1 : Int32)) = (0 : Int32) then (0 : Int32) else 1)), .val (.int (if (p0 &&& (2 : Int32)) = (0 : Int32) then (0 : Int32) else 1)), .val (.int (if (p0 &&& (4 : Int32)) = (0 : Int32) then (0 : Int32) else 1)), .val (.int (if (p0 &&& (8 : Int32)) = (0 : Int32) then (0 : Int32) else 1)), .val (.long d), .second, .val (.long now), .second, .val (.ref b3), .val .null, .val (.int (0 : Int32)), .unset] [])) _
      refine XS.iload X19.here hx rfl (hb hby at_120) rfl ?_
      show Steps p.tables e below (T19.setTop (mkF m 122 #[.val (.int p0), .val (.long q1), .second, .val (.long q2), .second, .val (.long q3), .second, .val (.int (if (p0 &&& (1 : Int32)) = (0 : Int32) then (0 : Int32) else 1)), .val (.int (if (p0 &&& (2 : Int32)) = (0 : Int32) then (0 : Int32) else 1)), .val (.int (if (p0 &&& (4 : Int32)) = (0 : Int32) then (0 : Int32) else 1)), .val (.int (if (p0 &&& (8 : Int32)) = (0 : Int32) then (0 : Int32) else 1)), .val (.long d), .second, .val (.long now), .second, .val (.ref b3), .val .null, .val (.int (0 : Int32)), .unset] [(.int (if (p0 &&& (1 : Int32)) = (0 : Int32) then (0 : Int32) else 1))])) _
      refine XS.ifNo X19.here hx rfl (hb hby at_122) rfl ((if0 _ _).trans (feq (own_b01n hc96_7)).1) ?_
      show Steps p.tables e below (T19.setTop (mkF m 125 #[.val (.int p0), .val (.long q1), .second, .val (.long q2), .second, .val (.long q3), .second, .val (.int (if (p0 &&& (1 : Int32)) = (0 : Int32) then (0 : Int32) else 1)), .val (.int (if (p0 &&& (2 : Int32)) = (0 : Int32) then (0 : Int32) else 1)), .val (.int (if (p0 &&& (4 : Int32)) = (0 : Int32) then (0 : Int32) else 1)), .val (.int (if (p0 &&& (8 : Int32)) = (0 : Int32) then (0 : Int32) else 1)), .val (.long d), .second, .val (.long now), .second, .val (.ref b3), .val .null, .val (.int (0 : Int32)), .unset] [])) _
      refine XS.iconst X19.here hx rfl (hb hby at_125) ?_
      show Steps p.tables e below (T19.setTop (mkF m 126 #[.val (.int p0), .val (.long q1), .second, .val (.long q2), .second, .val (.long q3), .second, .val (.int (if (p0 &&& (1 : Int32)) = (0 : Int32) then (0 : Int32) else 1)), .val (.int (if (p0 &&& (2 : Int32)) = (0 : Int32) then (0 : Int32) else 1)), .val (.int (if (p0 &&& (4 : Int32)) = (0 : Int32) then (0 : Int32) else 1)), .val (.int (if (p0 &&& (8 : Int32)) = (0 : Int32) then (0 : Int32) else 1)), .val (.long d), .second, .val (.long now), .second, .val (.ref b3), .val .null, .val (.int (0 : Int32)), .unset] [(.int (0 : Int32))])) _
      refine XS.istore X19.here hx rfl (hb hby at_126) rfl (l' := #[.val (.int p0), .val (.long q1), .second, .val (.long q2), .second, .val (.long q3), .second, .val (.int (if (p0 &&& (1 : Int32)) = (0 : Int32) then (0 : Int32) else 1)), .val (.int (if (p0 &&& (2 : Int32)) = (0 : Int32) then (0 : Int32) else 1)), .val (.int (if (p0 &&& (4 : Int32)) = (0 : Int32) then (0 : Int32) else 1)), .val (.int (if (p0 &&& (8 : Int32)) = (0 : Int32) then (0 : Int32) else 1)), .val (.long d), .second, .val (.long now), .second, .val (.ref b3), .val .null, .val (.int (0 : Int32)), .val (.int (0 : Int32))]) rfl ?_
      show Steps p.tables e below (T19.setTop (mkF m 128 #[.val (.int p0), .val (.long q1), .second, .val (.long q2), .second, .val (.long q3), .second, .val (.int (if (p0 &&& (1 : Int32)) = (0 : Int32) then (0 : Int32) else 1)), .val (.int (if (p0 &&& (2 : Int32)) = (0 : Int32) then (0 : Int32) else 1)), .val (.int (if (p0 &&& (4 : Int32)) = (0 : Int32) then (0 : Int32) else 1)), .val (.int (if (p0 &&& (8 : Int32)) = (0 : Int32) then (0 : Int32) else 1)), .val (.long d), .second, .val (.long now), .second, .val (.ref b3), .val .null, .val (.int (0 : Int32)), .val (.int (0 : Int32))] [])) _
      refine XS.goto X19.here hx rfl (pc0 := 128) (pc' := 168) rfl (hb hby at_128) (by decide) (by decide) ?_
      show Steps p.tables e below (T19.setTop (mkF m 168 #[.val (.int p0), .val (.long q1), .second, .val (.long q2), .second, .val (.long q3), .second, .val (.int (if (p0 &&& (1 : Int32)) = (0 : Int32) then (0 : Int32) else 1)), .val (.int (if (p0 &&& (2 : Int32)) = (0 : Int32) then (0 : Int32) else 1)), .val (.int (if (p0 &&& (4 : Int32)) = (0 : Int32) then (0 : Int32) else 1)), .val (.int (if (p0 &&& (8 : Int32)) = (0 : Int32) then (0 : Int32) else 1)), .val (.long d), .second, .val (.long now), .second, .val (.ref b3), .val .null, .val (.int (0 : Int32)), .val (.int (0 : Int32))] [])) _
      refine XS.iload X19.here hx rfl (hb hby at_168) rfl ?_
      show Steps p.tables e below (T19.setTop (mkF m 170 #[.val (.int p0), .val (.long q1), .second, .val (.long q2), .second, .val (.long q3), .second, .val (.int (if (p0 &&& (1 : Int32)) = (0 : Int32) then (0 : Int32) else 1)), .val (.int (if (p0 &&& (2 : Int32)) = (0 : Int32) then (0 : Int32) else 1)), .val (.int (if (p0 &&& (4 : Int32)) = (0 : Int32) then (0 : Int32) else 1)), .val (.int (if (p0 &&& (8 : Int32)) = (0 : Int32) then (0 : Int32) else 1)), .val (.long d), .second, .val (.long now), .second, .val (.ref b3), .val .null, .val (.int (0 : Int32)), .val (.int (0 : Int32))] [(.int (0 : Int32))])) _
      refine XS.iload X19.here hx rfl (hb hby at_170) rfl ?_
      show Steps p.tables e below (T19.setTop (mkF m 172 #[.val (.int p0), .val (.long q1), .second, .val (.long q2), .second, .val (.long q3), .second, .val (.int (if (p0 &&& (1 : Int32)) = (0 : Int32) then (0 : Int32) else 1)), .val (.int (if (p0 &&& (2 : Int32)) = (0 : Int32) then (0 : Int32) else 1)), .val (.int (if (p0 &&& (4 : Int32)) = (0 : Int32) then (0 : Int32) else 1)), .val (.int (if (p0 &&& (8 : Int32)) = (0 : Int32) then (0 : Int32) else 1)), .val (.long d), .second, .val (.long now), .second, .val (.ref b3), .val .null, .val (.int (0 : Int32)), .val (.int (0 : Int32))] [(.int (0 : Int32)), (.int (0 : Int32))])) _
      refine XS.icmpNo X19.here hx rfl (hb hby at_172) rfl (teq (by decide)).2 ?_
      show Steps p.tables e below (T19.setTop (mkF m 175 #[.val (.int p0), .val (.long q1), .second, .val (.long q2), .second, .val (.long q3), .second, .val (.int (if (p0 &&& (1 : Int32)) = (0 : Int32) then (0 : Int32) else 1)), .val (.int (if (p0 &&& (2 : Int32)) = (0 : Int32) then (0 : Int32) else 1)), .val (.int (if (p0 &&& (4 : Int32)) = (0 : Int32) then (0 : Int32) else 1)), .val (.int (if (p0 &&& (8 : Int32)) = (0 : Int32) then (0 : Int32) else 1)), .val (.long d), .second, .val (.long now), .second, .val (.ref b3), .val .null, .val (.int (0 : Int32)), .val (.int (0 : Int32))] [])) _
      refine XS.iconst X19.here hx rfl (hb hby at_175) ?_
      show Steps p.tables e below (T19.setTop (mkF m 176 #[.val (.int p0), .val (.long q1), .second, .val (.long q2), .second, .val (.long q3), .second, .val (.int (if (p0 &&& (1 : Int32)) = (0 : Int32) then (0 : Int32) else 1)), .val (.int (if (p0 &&& (2 : Int32)) = (0 : Int32) then (0 : Int32) else 1)), .val (.int (if (p0 &&& (4 : Int32)) = (0 : Int32) then (0 : Int32) else 1)), .val (.int (if (p0 &&& (8 : Int32)) = (0 : Int32) then (0 : Int32) else 1)), .val (.long d), .second, .val (.long now), .second, .val (.ref b3), .val .null, .val (.int (0 : Int32)), .val (.int (0 : Int32))] [(.int (1 : Int32))])) _
      refine XS.goto X19.here hx rfl (pc0 := 176) (pc' := 180) rfl (hb hby at_176) (by decide) (by decide) ?_
      show Steps p.tables e below (T19.setTop (mkF m 180 #[.val (.int p0), .val (.long q1), .second, .val (.long q2), .second, .val (.long q3), .second, .val (.int (if (p0 &&& (1 : Int32)) = (0 : Int32) then (0 : Int32) else 1)), .val (.int (if (p0 &&& (2 : Int32)) = (0 : Int32) then (0 : Int32) else 1)), .val (.int (if (p0 &&& (4 : Int32)) = (0 : Int32) then (0 : Int32) else 1)), .val (.int (if (p0 &&& (8 : Int32)) = (0 : Int32) then (0 : Int32) else 1)), .val (.long d), .second, .val (.long now), .second, .val (.ref b3), .val .null, .val (.int (0 : Int32)), .val (.int (0 : Int32))] [(.int (1 : Int32))])) _
      exact retN X19 hx (t := .boolean) Bd.returns (by simp) (hb hby at_180) hr
    · show Q0 Z p0 q1 q2 q3 h0 n0 _ T19.heap _
      exact ⟨rfl, N19⟩
set_option maxRecDepth 65536 in
set_option maxHeartbeats 40000000 in
theorem comes_1 {Post : Tables → Env → Array Value → State → Outcome → State → Prop} (hpost : ∀ tb e args s v u, (limb_1_1.after args s (.returned v) u = true ∧ limb_1_2.after args s (.returned v) u = true ∧ True) → FrameEnd s (.returned v) u (Jvm.fieldLocs frame_1_writes args s ++ Jvm.arrayLocs frame_1_arrays args s ++ Jvm.staticLocs frame_1_statics s) 16 128 → Post tb e args s (.returned v) u) :
    ArmFor flags0 classFile x code maxLocals ret World_1 tables_1 room_1 Calls_1 rest_1 Pre_1 Post := by
  intro l hfl _ _ p e ha hc hk s m args below hf hA hF happ hP
  obtain ⟨hcalls, hrest, hpre⟩ := hP
  obtain ⟨-, -, -, hnamed, -, -, -, hat⟩ := (Spec.applies_iff hf).mp happ
  obtain ⟨hg, hn⟩ := and_e (Cond.before_iff.mp (show (Jvm.Cond.and given_1 narrow_1).before args s = true from hpre))
  obtain ⟨g1, g2⟩ := and_e hg
  obtain ⟨g3, g4⟩ := and_e g2
  obtain ⟨g5, g6⟩ := and_e g4
  obtain ⟨g7, g8⟩ := and_e g6
  obtain ⟨w0, w1, w2, w3, rfl⟩ : ∃ w0 w1 w2 w3 : Value, args = #[w0, w1, w2, w3] := by
    have hs : args.size = 4 := by simpa [Cond.value, given_1] using g1
    obtain ⟨L⟩ := args
    match L, hs with
    | [w0, w1, w2, w3], _ => exact ⟨w0, w1, w2, w3, rfl⟩
  have hw := fun d (hd : d ∈ tables_1) => atoms_spec (ws := Jvm.Cond.code x code maxLocals ret :: tables_1) hat d (List.mem_cons_of_mem _ hd)
  have hfit : Fit s := fun {y c} hc i hi => by
    obtain ⟨ha, rfl⟩ := Array.getElem?_eq_some_iff.mp hc
    have q := List.all_eq_true.mp ((Array.all_eq_true_iff_forall_mem.mp hF) _ (Array.getElem_mem ha)) i (List.mem_range.mpr hi)
    simpa [Array.getElem?_eq_getElem hi] using q
  obtain ⟨i0, ei0⟩ := is_v g3
  obtain rfl : w0 = (.int i0) := Option.some.inj ei0
  obtain ⟨i1, ei1⟩ := isL_v g5
  obtain rfl : w1 = (.long i1) := Option.some.inj ei1
  obtain ⟨i2, ei2⟩ := isL_v g7
  obtain rfl : w2 = (.long i2) := Option.some.inj ei2
  obtain ⟨i3, ei3⟩ := isL_v g8
  obtain rfl : w3 = (.long i3) := Option.some.inj ei3
  obtain ⟨n, o, h1, h2, h3, _, L, rfl, ⟨rfl, N⟩, hq⟩ := rm0 l s _ hw tables_1 i0 i1 i2 i3 s.heap s.heap.size (Nat.le_refl _) p e ha hc hk s m _ below hf ((Spec.applies_iff_loose hf).mp happ).1 ⟨rfl, State.Warmed39.refl s, rfl⟩ trivial
  refine ⟨n, _, h1, h2, h3, hpost _ _ _ _ _ _ ⟨Cond.after_iff.mpr rfl, Cond.after_iff.mpr (eq_i res_at (Term.int_eval (1)) rfl), trivial⟩ ⟨hq.1, hq.2.1, (hq.2.2.sift fun y hy => Or.inr (N y hy)).mono (by decide) (by decide)⟩⟩
theorem main_1_1 : Claimed_1_1 := comes_1 fun _ _ _ _ _ _ h hF => ⟨h.1, hF⟩
theorem main_1_2 : Claimed_1_2 := comes_1 fun _ _ _ _ _ _ h hF => ⟨h.2.1, hF⟩
end Jvm.Pilot.@@N@@
namespace Jvm.Pilot.@@N@@
open Jvm Jvm.ClassFile Sem Op Lib Jvm.Free Jvm.Stand Jvm.Pilot.@@N@@.Jvm.D
/-! MADE BY PROGRAM (witnessworld.py) out of the Statement's table words and the real class files: 11 classes; the members and pool entries that the words name. The judged class is class 1, her method 1. -/
namespace start1
open Jvm.ClassFile
def u (s : String) : CpInfo := .utf8 (stringToUtf16 s)
/-- a pool by its gaps: so many unusable entries, then the entry; so many at the end -/
def gap : Nat → List CpInfo → List CpInfo
  | 0, r => r
  | n + 1, r => .unusable :: gap n r
def poolList (es : List (Nat × CpInfo)) (last : Nat) : List CpInfo := es.foldr (fun e r => gap e.1 (e.2 :: r)) (gap last [])
def pool (es : List (Nat × CpInfo)) (last : Nat) : Array CpInfo := ⟨poolList es last⟩
def fileOf (pool : Array CpInfo) (this : Nat) (attrs : Array Attribute := #[]) (ms : Array MethodInfo := #[]) (fl : Nat := 33) (sup : Nat := 0) (ifs : Array Nat := #[]) (fds : Array FieldInfo := #[]) : ClassFile where
  minorVersion := 0
  majorVersion := 65
  constantPool := pool
  accessFlags := fl
  thisClass := this
  superClass := sup
  interfaces := ifs
  fields := fds
  methods := ms
  attributes := attrs
def plain (name : String) (sup : Option ClassId) : Class where
  name := name
  kind := .ordinary
  loader := none
  accessFlags := 33
  super := sup
  interfaces := #[]
  cf := none
  fields := #[]
  methods := #[]
  instanceTypes := #[]
  staticTypes := #[]
  resolved := #[]
  callSites := []
  init := .initialized
  statics := none
  mirror := none

def pool0 : Array CpInfo := pool [(5, u "<init>"), (0, u "()V"), (1, .class_ 10), (1, u "java/lang/Object")] 113

def k0c0 : Code := { maxStack := 0, maxLocals := 1, code := object_method_1_code, exceptionTable := #[], attributes := #[] }
def k0m0 : Method := { name := "<init>", desc := "()V", sig := { parameters := [], returnType := none }, accessFlags := 1, code := some k0c0 }
/-- java/lang/Object -/
def k0 : Class := { plain "java/lang/Object" none with
  accessFlags := 33
  interfaces := #[]
  cf := some (fileOf pool0 8 #[] #[{ accessFlags := 1, nameIndex := 5, descriptorIndex := 6, attributes := #[] }] 33 0 #[] #[])
  fields := #[]
  methods := #[k0m0]
  instanceTypes := #[]
  staticTypes := #[]
  resolved := Array.replicate 124 none
  statics := none }

def pool1 : Array CpInfo := pool [(2, .class_ 4), (1, u "java/lang/Object"), (0, u "<init>"), (0, u "()V"), (0, .long 3), (1, .class_ 10), (0, u "com/example/pit_crew/pitcrew/Handle$Report"), (0, .methodref 9 12), (0, .nameAndType 5 13), (0, u "(ZJ)V"), (0, .methodref 15 16), (0, .class_ 17), (0, .nameAndType 18 19), (0, u "com/example/pit_crew/pitcrew/HealthWatch"), (0, u "stalled"), (0, u "(Lcom/example/pit_crew/pitcrew/Handle$Report;ZJJ)Z"), (0, .class_ 21), (0, u "com/example/pit_crew/pitcrew/HealthWatchStalledPinLaw"), (2, u "law"), (0, u "(IJJJ)Z")] 7

def k1m0 : Method := { name := "<init>", desc := "()V", sig := { parameters := [], returnType := none }, accessFlags := 1, code := none }
def k1c1 : Code := { maxStack := 6, maxLocals := 19, code := code, exceptionTable := #[], attributes := #[] }
def k1m1 : Method := { name := "law", desc := "(IJJJ)Z", sig := { parameters := [.int, .long, .long, .long], returnType := some .boolean }, accessFlags := 9, code := some k1c1 }
/-- com/example/pit_crew/pitcrew/HealthWatchStalledPinLaw -/
def k1 : Class := { plain "com/example/pit_crew/pitcrew/HealthWatchStalledPinLaw" (some 0) with
  accessFlags := 49
  interfaces := #[]
  cf := some (fileOf pool1 20 #[] #[{ accessFlags := 1, nameIndex := 5, descriptorIndex := 6, attributes := #[] }, { accessFlags := 9, nameIndex := 24, descriptorIndex := 25, attributes := #[] }] 49 2 #[] #[])
  fields := #[]
  methods := #[k1m0, k1m1]
  instanceTypes := #[]
  staticTypes := #[]
  resolved := Array.replicate 33 none
  statics := none }

def pool2 : Array CpInfo := pool [(1, .methodref 2 3), (0, .class_ 4), (0, .nameAndType 5 6), (0, u "java/lang/Object"), (0, u "<init>"), (0, u "()V"), (0, .class_ 8), (0, u "java/lang/Record")] 13

def k2c0 : Code := { maxStack := 1, maxLocals := 1, code := jdk_30_method_1_code, exceptionTable := #[], attributes := #[] }
def k2m0 : Method := { name := "<init>", desc := "()V", sig := { parameters := [], returnType := none }, accessFlags := 4, code := some k2c0 }
/-- java/lang/Record -/
def k2 : Class := { plain "java/lang/Record" (some 0) with
  accessFlags := 1057
  interfaces := #[]
  cf := some (fileOf pool2 7 #[] #[{ accessFlags := 4, nameIndex := 5, descriptorIndex := 6, attributes := #[] }] 1057 2 #[] #[])
  fields := #[]
  methods := #[k2m0]
  instanceTypes := #[]
  staticTypes := #[]
  resolved := Array.replicate 22 none
  statics := none }

def pool3 : Array CpInfo := pool [(1, .methodref 2 3), (0, .class_ 4), (0, .nameAndType 5 6), (0, u "java/lang/Record"), (0, u "<init>"), (0, u "()V"), (0, .fieldref 8 9), (0, .class_ 10), (0, .nameAndType 11 12), (0, u "com/example/pit_crew/pitcrew/Handle$Report"), (0, u "healthy"), (0, u "Z"), (0, .fieldref 8 14), (0, .nameAndType 15 16), (0, u "at"), (0, u "J"), (12, u "(ZJ)V"), (6, u "()Z"), (0, u "()J"), (3, .class_ 42), (0, u "com/example/pit_crew/pitcrew/Handle")] 20

def k3c0 : Code := { maxStack := 3, maxLocals := 4, code := prog_17_method_1_code, exceptionTable := #[], attributes := #[] }
def k3m0 : Method := { name := "<init>", desc := "(ZJ)V", sig := { parameters := [.boolean, .long], returnType := none }, accessFlags := 0, code := some k3c0 }
def k3c1 : Code := { maxStack := 1, maxLocals := 1, code := prog_17_method_5_code, exceptionTable := #[], attributes := #[] }
def k3m1 : Method := { name := "healthy", desc := "()Z", sig := { parameters := [], returnType := some .boolean }, accessFlags := 1, code := some k3c1 }
def k3c2 : Code := { maxStack := 2, maxLocals := 1, code := prog_17_method_6_code, exceptionTable := #[], attributes := #[] }
def k3m2 : Method := { name := "at", desc := "()J", sig := { parameters := [], returnType := some .long }, accessFlags := 1, code := some k3c2 }
/-- com/example/pit_crew/pitcrew/Handle$Report -/
def k3 : Class := { plain "com/example/pit_crew/pitcrew/Handle$Report" (some 2) with
  accessFlags := 48
  interfaces := #[]
  cf := some (fileOf pool3 8 #[.nestHost 41] #[{ accessFlags := 0, nameIndex := 5, descriptorIndex := 29, attributes := #[] }, { accessFlags := 1, nameIndex := 11, descriptorIndex := 36, attributes := #[] }, { accessFlags := 1, nameIndex := 15, descriptorIndex := 37, attributes := #[] }] 48 2 #[] #[{ accessFlags := 18, nameIndex := 11, descriptorIndex := 12, attributes := #[] }, { accessFlags := 18, nameIndex := 15, descriptorIndex := 16, attributes := #[] }])
  fields := #[{ name := "healthy", type := .boolean, accessFlags := 18, slot := 0, constantValue := 0 }, { name := "at", type := .long, accessFlags := 18, slot := 1, constantValue := 0 }]
  methods := #[k3m0, k3m1, k3m2]
  instanceTypes := #[.boolean, .long]
  staticTypes := #[]
  resolved := Array.replicate 63 none
  statics := none }

def pool4 : Array CpInfo := pool [(2, .class_ 4), (1, u "java/lang/Object"), (6, .class_ 13), (1, u "com/example/pit_crew/pitcrew/HealthWatch"), (0, u "watched"), (0, u "Ljava/util/List;"), (2, u "serviceName"), (0, u "Ljava/lang/String;"), (2, u "interval"), (0, u "Ljava/time/Duration;"), (2, u "clock"), (0, u "Ljava/util/function/LongSupplier;"), (2, u "stall"), (0, u "Lcom/example/pit_crew/pitcrew/HealthWatch$Stall;"), (6, .class_ 39), (0, u "com/example/pit_crew/pitcrew/HealthWatch$Watched"), (12, u "()Z"), (29, u "polls"), (0, u "Ljava/util/concurrent/ScheduledExecutorService;"), (10, u "()J"), (32, u "stalled"), (0, u "(Lcom/example/pit_crew/pitcrew/Handle$Report;ZJJ)Z"), (21, .class_ 152), (1, u "com/example/pit_crew/pitcrew/HealthWatch$Stall"), (1, .methodref 155 156), (0, .class_ 157), (0, .nameAndType 158 52), (0, u "com/example/pit_crew/pitcrew/Handle$Report"), (0, u "healthy"), (0, .methodref 155 160), (0, .nameAndType 161 94), (0, u "at")] 83

def k4c0 : Code := { maxStack := 4, maxLocals := 6, code := prog_19_method_6_code, exceptionTable := #[], attributes := #[] }
def k4m0 : Method := { name := "stalled", desc := "(Lcom/example/pit_crew/pitcrew/Handle$Report;ZJJ)Z", sig := { parameters := [(.object "com/example/pit_crew/pitcrew/Handle$Report"), .boolean, .long, .long], returnType := some .boolean }, accessFlags := 8, code := some k4c0 }
/-- com/example/pit_crew/pitcrew/HealthWatch -/
def k4 : Class := { plain "com/example/pit_crew/pitcrew/HealthWatch" (some 0) with
  accessFlags := 48
  interfaces := #[]
  cf := some (fileOf pool4 11 #[.nestMembers #[38, 150]] #[{ accessFlags := 8, nameIndex := 127, descriptorIndex := 128, attributes := #[] }] 48 2 #[] #[{ accessFlags := 18, nameIndex := 18, descriptorIndex := 19, attributes := #[] }, { accessFlags := 18, nameIndex := 22, descriptorIndex := 23, attributes := #[] }, { accessFlags := 18, nameIndex := 26, descriptorIndex := 27, attributes := #[] }, { accessFlags := 18, nameIndex := 30, descriptorIndex := 31, attributes := #[] }, { accessFlags := 18, nameIndex := 14, descriptorIndex := 15, attributes := #[] }, { accessFlags := 66, nameIndex := 82, descriptorIndex := 83, attributes := #[] }])
  fields := #[{ name := "serviceName", type := (.object "java/lang/String"), accessFlags := 18, slot := 0, constantValue := 0 }, { name := "interval", type := (.object "java/time/Duration"), accessFlags := 18, slot := 1, constantValue := 0 }, { name := "clock", type := (.object "java/util/function/LongSupplier"), accessFlags := 18, slot := 2, constantValue := 0 }, { name := "stall", type := (.object "com/example/pit_crew/pitcrew/HealthWatch$Stall"), accessFlags := 18, slot := 3, constantValue := 0 }, { name := "watched", type := (.object "java/util/List"), accessFlags := 18, slot := 4, constantValue := 0 }, { name := "polls", type := (.object "java/util/concurrent/ScheduledExecutorService"), accessFlags := 66, slot := 5, constantValue := 0 }]
  methods := #[k4m0]
  instanceTypes := #[(.object "java/lang/String"), (.object "java/time/Duration"), (.object "java/util/function/LongSupplier"), (.object "com/example/pit_crew/pitcrew/HealthWatch$Stall"), (.object "java/util/List"), (.object "java/util/concurrent/ScheduledExecutorService")]
  staticTypes := #[]
  resolved := Array.replicate 245 none
  statics := none }

def pool5 : Array CpInfo := pool [(1, u "java/lang/Cloneable"), (0, .class_ 1), (0, u "java/lang/Object"), (0, .class_ 3)] 3

/-- java/lang/Cloneable -/
def k5 : Class := { plain "java/lang/Cloneable" (some 0) with
  accessFlags := 1537
  interfaces := #[]
  cf := some (fileOf pool5 2 #[] #[] 1537 4 #[] #[])
  fields := #[]
  methods := #[]
  instanceTypes := #[]
  staticTypes := #[]
  resolved := Array.replicate 8 none
  statics := none }

def pool6 : Array CpInfo := pool [(1, u "java/io/Serializable"), (0, .class_ 1), (0, u "java/lang/Object"), (0, .class_ 3)] 3

/-- java/io/Serializable -/
def k6 : Class := { plain "java/io/Serializable" (some 0) with
  accessFlags := 1537
  interfaces := #[]
  cf := some (fileOf pool6 2 #[] #[] 1537 4 #[] #[])
  fields := #[]
  methods := #[]
  instanceTypes := #[]
  staticTypes := #[]
  resolved := Array.replicate 8 none
  statics := none }

/-- the primitive byte -/
def k7 : Class := { plain "byte" none with kind := .primitive 'B', accessFlags := 0x411 }
/-- [B -/
def k8 : Class := { plain "[B" (some 0) with kind := .array 7 .byte, interfaces := #[5, 6], accessFlags := 1041 }

/-- the primitive int -/
def k9 : Class := { plain "int" none with kind := .primitive 'I', accessFlags := 0x411 }
/-- [I -/
def k10 : Class := { plain "[I" (some 0) with kind := .array 9 .int, interfaces := #[5, 6], accessFlags := 1041 }

def heap : Heap := #[]
def classes : Array Class := #[k0, k1, k2, k3, k4, k5, k6, k7, k8, k9, k10]
def interned : List (Array UInt16 × Addr) := []
def slotsUsed : Nat := 0
def theMethod : MethodId := ⟨1, 1⟩
def args0 : Array Value := #[.int 4, .long 10, .long 3, .long 5]
def aboutOver (below : List Frame) : State where
  vm := { classes := classes, interned := interned.toArray }
  heap := heap
  slotsUsed := slotsUsed
  threads := #[{ frames := .invoking theMethod args0 :: below }]
def below0 : List Frame := [.native { method := ⟨0, 0⟩, args := #[] }]
def about1 : State := aboutOver below0
def p0 : Program := .bare "" "" ""
def e0 : Env := launch0.env 0 0 0
theorem w_frames : about1.frames = Frame.invoking theMethod args0 :: below0 := rfl
set_option maxRecDepth 65536 in
theorem w_args : argsFit about1.vm theMethod args0 = true := by decide +kernel
set_option maxRecDepth 65536 in
theorem w_heap : heapFits about1 = true := by decide +kernel
set_option maxRecDepth 65536 in
theorem w_runnable : about1.curStatus? = some .runnable := by decide +kernel
set_option maxRecDepth 65536 in
theorem w_alone : about1.alone = true := by decide +kernel
set_option maxRecDepth 65536 in
theorem w_named : about1.methodNamed? x = some theMethod := by decide +kernel
set_option maxRecDepth 65536 in
theorem w_hears : about1.hears theMethod below0 = true := by decide +kernel
set_option maxRecDepth 65536 in
theorem w_ripe : about1.ripe theMethod args0 below0 = true := by decide +kernel
theorem w_running : about1.status = .running := rfl
set_option maxRecDepth 65536 in
theorem w_room : about1.hasRoom e0.platform room_1 = true :=
  launch0.hasRoom_least _ room_1 (by decide +kernel) (by decide +kernel) (by decide +kernel) (by decide +kernel) (by decide +kernel) (by decide +kernel)
theorem allAtoms_all (ts : List Jvm.Cond) (a : Array Jvm.Value) (st : Jvm.State) : (allAtoms ts).before a st = ts.all (fun c => c.before a st) := by
  induction ts with
  | nil => rfl
  | cons c t ih =>
    show (Jvm.Cond.and c (allAtoms t)).before a st = _
    rw [Jvm.Cond.before_and, ih, List.all_cons]
def words1 : List Jvm.Cond := Jvm.Cond.code x code maxLocals ret :: tables_1
/-- a 'code' word, met by the world's own term for the bytes: nothing is compared byte by byte -/
theorem code_word {y : MethodName} {bytes : ByteArray} {mx : Nat} {rt : Option FieldType} {a : Array Value} {s : State} {m : MethodId} {meth : Method} {c : Code} (h1 : s.methodNamed? y = some m) (h2 : s.vm.method? m = some meth) (h3 : meth.code = some c) (h4 : c.code = bytes)
    (h5 : (c.maxLocals == mx && c.exceptionTable.isEmpty && decide (c.maxStack ≤ mostOperands) && decide (meth.sig.returnType = rt) && !meth.locks && decide (parseMethodDescriptor y.desc = some meth.sig)) = true) : (Jvm.Cond.code y bytes mx rt).before a s = true := by
  simp only [Bool.and_eq_true, beq_iff_eq, Bool.not_eq_true', decide_eq_true_eq] at h5
  obtain ⟨⟨⟨⟨⟨g1, g2⟩, g3⟩, g4⟩, g5⟩, g6⟩ := h5
  simp [Cond.before, Cond.holds, Cond.value, h1, h2, h3, h4, g1, g2, g3, g4, g5, g6]
def isCode : Jvm.Cond → Bool
  | .code _ _ _ _ => true
  | _ => false
theorem all_split {L : List Jvm.Cond} {P : Jvm.Cond → Bool} (h1 : L.all (fun c => isCode c || P c) = true) (h2 : ∀ c ∈ L.filter isCode, P c = true) : L.all P = true := by
  refine List.all_eq_true.mpr fun c hc => ?_
  have h := List.all_eq_true.mp h1 c hc
  rcases Bool.eq_false_or_eq_true (isCode c) with hi | hi
  · exact h2 c (List.mem_filter.mpr ⟨hc, hi⟩)
  · simpa [hi] using h
set_option maxRecDepth 65536 in
theorem w_c0 : (Jvm.Cond.code x code maxLocals ret).before args0 about1 = true := code_word (m := ⟨1, 1⟩) (meth := k1m1) (c := k1c1) (by decide +kernel) rfl rfl rfl (by decide +kernel)
set_option maxRecDepth 65536 in
theorem w_c1 : (Jvm.Cond.code ({ cls := "com/example/pit_crew/pitcrew/Handle$Report", name := "<init>", desc := "(ZJ)V" } : Jvm.MethodName) prog_17_method_1_code (4 : Nat) (Option.none : Option Jvm.ClassFile.FieldType)).before args0 about1 = true := code_word (m := ⟨3, 0⟩) (meth := k3m0) (c := k3c0) (by decide +kernel) rfl rfl rfl (by decide +kernel)
set_option maxRecDepth 65536 in
theorem w_c2 : (Jvm.Cond.code ({ cls := "java/lang/Record", name := "<init>", desc := "()V" } : Jvm.MethodName) jdk_30_method_1_code (1 : Nat) (Option.none : Option Jvm.ClassFile.FieldType)).before args0 about1 = true := code_word (m := ⟨2, 0⟩) (meth := k2m0) (c := k2c0) (by decide +kernel) rfl rfl rfl (by decide +kernel)
set_option maxRecDepth 65536 in
theorem w_c3 : (Jvm.Cond.code ({ cls := "java/lang/Object", name := "<init>", desc := "()V" } : Jvm.MethodName) object_method_1_code (1 : Nat) (Option.none : Option Jvm.ClassFile.FieldType)).before args0 about1 = true := code_word (m := ⟨0, 0⟩) (meth := k0m0) (c := k0c0) (by decide +kernel) rfl rfl rfl (by decide +kernel)
set_option maxRecDepth 65536 in
theorem w_c4 : (Jvm.Cond.code ({ cls := "com/example/pit_crew/pitcrew/HealthWatch", name := "stalled", desc := "(Lcom/example/pit_crew/pitcrew/Handle$Report;ZJJ)Z" } : Jvm.MethodName) prog_19_method_6_code (6 : Nat) (Option.some Jvm.ClassFile.FieldType.boolean)).before args0 about1 = true := code_word (m := ⟨4, 0⟩) (meth := k4m0) (c := k4c0) (by decide +kernel) rfl rfl rfl (by decide +kernel)
set_option maxRecDepth 65536 in
theorem w_c5 : (Jvm.Cond.code ({ cls := "com/example/pit_crew/pitcrew/Handle$Report", name := "healthy", desc := "()Z" } : Jvm.MethodName) prog_17_method_5_code (1 : Nat) (Option.some Jvm.ClassFile.FieldType.boolean)).before args0 about1 = true := code_word (m := ⟨3, 1⟩) (meth := k3m1) (c := k3c1) (by decide +kernel) rfl rfl rfl (by decide +kernel)
set_option maxRecDepth 65536 in
theorem w_c6 : (Jvm.Cond.code ({ cls := "com/example/pit_crew/pitcrew/Handle$Report", name := "at", desc := "()J" } : Jvm.MethodName) prog_17_method_6_code (1 : Nat) (Option.some Jvm.ClassFile.FieldType.long)).before args0 about1 = true := code_word (m := ⟨3, 2⟩) (meth := k3m2) (c := k3c2) (by decide +kernel) rfl rfl rfl (by decide +kernel)
def codes1 : List Jvm.Cond := [Jvm.Cond.code x code maxLocals ret, Jvm.Cond.code ({ cls := "com/example/pit_crew/pitcrew/Handle$Report", name := "<init>", desc := "(ZJ)V" } : Jvm.MethodName) prog_17_method_1_code (4 : Nat) (Option.none : Option Jvm.ClassFile.FieldType), Jvm.Cond.code ({ cls := "java/lang/Record", name := "<init>", desc := "()V" } : Jvm.MethodName) jdk_30_method_1_code (1 : Nat) (Option.none : Option Jvm.ClassFile.FieldType), Jvm.Cond.code ({ cls := "java/lang/Object", name := "<init>", desc := "()V" } : Jvm.MethodName) object_method_1_code (1 : Nat) (Option.none : Option Jvm.ClassFile.FieldType), Jvm.Cond.code ({ cls := "com/example/pit_crew/pitcrew/HealthWatch", name := "stalled", desc := "(Lcom/example/pit_crew/pitcrew/Handle$Report;ZJJ)Z" } : Jvm.MethodName) prog_19_method_6_code (6 : Nat) (Option.some Jvm.ClassFile.FieldType.boolean), Jvm.Cond.code ({ cls := "com/example/pit_crew/pitcrew/Handle$Report", name := "healthy", desc := "()Z" } : Jvm.MethodName) prog_17_method_5_code (1 : Nat) (Option.some Jvm.ClassFile.FieldType.boolean), Jvm.Cond.code ({ cls := "com/example/pit_crew/pitcrew/Handle$Report", name := "at", desc := "()J" } : Jvm.MethodName) prog_17_method_6_code (1 : Nat) (Option.some Jvm.ClassFile.FieldType.long)]
set_option maxRecDepth 65536 in
theorem codes_eq : words1.filter isCode = codes1 := rfl
theorem w_codes : ∀ c ∈ words1.filter isCode, c.before args0 about1 = true := by
  rw [codes_eq]
  intro c hc
  simp only [codes1, List.mem_cons, List.not_mem_nil, or_false] at hc
  rcases hc with rfl | rfl | rfl | rfl | rfl | rfl | rfl
  · exact w_c0
  · exact w_c1
  · exact w_c2
  · exact w_c3
  · exact w_c4
  · exact w_c5
  · exact w_c6
set_option maxRecDepth 65536 in
theorem w_t1 : (words1.take 24).all (fun c => isCode c || c.before args0 about1) = true := by decide +kernel
set_option maxRecDepth 65536 in
theorem w_t2 : (words1.drop 24).all (fun c => isCode c || c.before args0 about1) = true := by decide +kernel
theorem w_tables : (allAtoms (Jvm.Cond.code x code maxLocals ret :: tables_1)).before args0 about1 = true := by
  rw [allAtoms_all]
  show words1.all (fun c => c.before args0 about1) = true
  refine all_split ?_ w_codes
  rw [← List.take_append_drop 24 words1, List.all_append, w_t1, w_t2]
  rfl
set_option maxRecDepth 65536 in
theorem w_case : (Jvm.Cond.and given_1 narrow_1).before args0 about1 = true := by decide +kernel
theorem w_applies : (headSpec (Jvm.Cond.code x code maxLocals ret :: tables_1) room_1).applies x e0.platform about1 = true :=
  (Spec.applies_iff w_frames).mpr ⟨w_running, w_runnable, w_alone, w_named, w_hears, w_ripe, w_room, w_tables⟩
theorem atStart : AtStart classFile x code maxLocals ret World_1 tables_1 room_1 Calls_1 rest_1 Pre_1 launch0 p0 e0 about1 theMethod args0 below0 :=
  ⟨lists_1, trivial, launch0.admits_env _ _ _, launch0.least_env, fairChoices_fair.cas, fairChoices_fair.clock, w_frames, w_args, w_heap, w_applies, trivial, trivial, w_case⟩
end start1
theorem witness_1 : WitnessClaimed_1 := ⟨start1.p0, start1.e0, start1.about1, start1.theMethod, start1.args0, start1.below0, start1.atStart⟩
end Jvm.Pilot.@@N@@
