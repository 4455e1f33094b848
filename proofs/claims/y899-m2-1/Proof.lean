import JvmDerived
import JvmDerived.Pilot.@@N@@Statement
import JvmDerived.Pilot.@@N@@Code
set_option linter.unusedVariables false
set_option linter.unusedSimpArgs false
namespace Jvm.RoadKit
open Sem ClassFile Op Lib Jvm.Stand Jvm.Free Jvm.LawKit
section New
variable {p : Program} {l : Launch} {e : Env} {R : Room} {s : State} {m : MethodId} {args : Array Value} {below : List Frame} {meth : Method} {c : Code} {T : State} {locs : List Loc} {cells slots : Nat}
theorem retI (X : Stand p l e R s m args below meth c T locs cells slots) (hx : p.tables.exec = Jvm.exec) {pc : Nat} {Ls : Array Slot} {z : Int32} {rest : List Value} (hret : meth.sig.returnType = some .int) (hd : decode c.code pc = .ok (.ireturn, 1)) {fs : List Frame}
    (hl : ∀ (f : JFrame) (acts : List Action), f.method = m → f.locked = none → f.entered = [] → (doReturn e (T.setTop f) acts (some (.int z))).1 = T.setFrames fs) : Steps p.tables e below (T.setTop (mkF m pc Ls (.int z :: rest))) (T.setFrames fs) := by
  have hm' : T.vm.method? m = some meth := X.method'
  have hn : narrow .int (.int z) = .int z := rfl
  show Steps p.tables e below (T.setTop { method := m, pc := pc, locals := Ls, stack := _ :: rest, locked := none }) _
  jvm_step X.here [X.here.top, hx, hd, hm', hret, hn]
  first | (intro acts; rw [hl _ acts rfl rfl rfl]) | rw [hl _ _ rfl rfl rfl]
  exact Steps.refl _
end New
end Jvm.RoadKit
namespace Jvm.Pilot.@@N@@
open Jvm Jvm.ClassFile Sem Op Lib Jvm.Free Jvm.Stand Jvm.LawKit Jvm.RoadKit Bundle Jvm.Pilot.@@N@@.Jvm.D
theorem own_b10n {P : Prop} [Decidable P] (h : P) : ¬ (if P then (1 : Int32) else 0) = 0 := by rw [if_pos h]; decide
theorem own_b10z {P : Prop} [Decidable P] (h : ¬ P) : (if P then (1 : Int32) else 0) = 0 := if_neg h
theorem own_b01z {P : Prop} [Decidable P] (h : P) : (if P then (0 : Int32) else 1) = 0 := if_pos h
theorem own_b01n {P : Prop} [Decidable P] (h : ¬ P) : ¬ (if P then (0 : Int32) else 1) = 0 := by rw [if_neg h]; decide
theorem own_nb10 {P : Prop} [Decidable P] : nar .boolean (if P then (1 : Int32) else 0) = (if P then (1 : Int32) else 0) := by by_cases h : P <;> simp [h, nar]
theorem own_nb01 {P : Prop} [Decidable P] : nar .boolean (if P then (0 : Int32) else 1) = (if P then (0 : Int32) else 1) := by by_cases h : P <;> simp [h, nar]
theorem own_selP {Z s : State} {a0 args : Array Value} {y : MethodName} {n : Nat} (hZ : Z.Warmed39 s.vm) (wi : (Jvm.Cond.instantiable y.cls n).before a0 Z = true) (wp : (Jvm.Cond.privateMethod y).before a0 Z = true) (wm : (Jvm.Cond.instanceMethod y).before a0 Z = true)
    (hy : y.cls ≠ "java/lang/invoke/MethodHandle" ∧ y.cls ≠ "java/lang/invoke/VarHandle") : (Jvm.Cond.selects y.cls y y).before args s = true := by
  obtain ⟨c, k, hc, hk, -, hf, -⟩ := Cond.instantiable_spec (mv hZ wi (args := args))
  have hi : k.isInterface = false := by
    cases q : k.isInterface
    · rfl
    · simp [q] at hf
  exact Jvm.Stand.selects_self_of_private hc hk hi (Cond.privateMethod_at (mvP hZ wp (args := args))) (mv hZ wm) hy
theorem own_one (i : Nat) : Int32.ofNat i + (1 : Int32) = Int32.ofNat (i + 1) := (Int32.ofNat_add i 1).symm
def own_list (g : Nat → Value) (i : Nat) : List Value := (List.range i).map g
theorem own_len (g : Nat → Value) (i : Nat) : (own_list g i).length = i := by simp [own_list]
theorem own_at (g : Nat → Value) {i j : Nat} (h : j < i) (d : Value) : (own_list g i).getD j d = g j := by simp [own_list, List.getD_eq_getElem?_getD, h]
theorem own_setl (g : Nat → Value) (i : Nat) (x : Value) : (own_list g i ++ [x]).set i (g i) = own_list g (i + 1) := by
  have h := own_len g i
  have e : (own_list g i ++ [x]).set (own_list g i).length (g i) = own_list g i ++ [g i] := by simp
  rw [h] at e
  rw [e]; simp [own_list, List.range_succ]
theorem own_il {i : Nat} (h : i < 2147483648) : (Int32.ofNat i).toInt = i := Int32.toInt_ofNat_of_lt h
theorem own_in {i : Nat} (h : i < 2147483648) : ¬ Int32.ofNat i < 0 := by
  rw [Int32.lt_iff_toInt_lt, own_il h, show (0 : Int32).toInt = 0 from rfl]; omega
theorem own_ic {i : Nat} (h : i < 2147483648) : (Int32.ofNat i).toNatClampNeg = i := by
  rw [Int32.toNatClampNeg, own_il h]; rfl
section OwnDia
variable {tb : Tables} [Ours tb] {e : Env} {below : List Frame} {T target : State} {m : MethodId} {c : Code} {g : JFrame}
/-- a boolean written out: if .. goto the 0; 1; goto behind; 0 -/
theorem own_dia (h : At T m c below) (hx : tb.exec = Jvm.exec) (hg : g.method = m) {pc0 : Nat} {P : Prop} [Decidable P] {u w : Int32} {rest : List Value} (huw : u = 0 ∧ w = 1 ∨ u = 1 ∧ w = 0)
    (hd1 : decode c.code (pc0 + 3) = .ok (.iconst 1, 1)) (hd2 : decode c.code (pc0 + 4) = .ok (.goto 4, 3)) (hd3 : decode c.code (pc0 + 7) = .ok (.iconst 0, 1))
    (s1 : ∀ t, (P ∧ u = 0 ∨ ¬ P ∧ w = 0) → Steps tb e below (T.setTop { g with pc := pc0 + 7, stack := rest }) t → Steps tb e below (T.setTop g) t)
    (s2 : ∀ t, (P ∧ u = 1 ∨ ¬ P ∧ w = 1) → Steps tb e below (T.setTop { g with pc := pc0 + 3, stack := rest }) t → Steps tb e below (T.setTop g) t)
    (hr : Steps tb e below (T.setTop { g with pc := pc0 + 8, stack := .int (if P then u else w) :: rest }) target) : Steps tb e below (T.setTop g) target := by
  have z : (if P then u else w) = 0 → (P ∧ u = 0 ∨ ¬ P ∧ w = 0) := fun q => by
    by_cases hp : P
    · rw [if_pos hp] at q; exact Or.inl ⟨hp, q⟩
    · rw [if_neg hp] at q; exact Or.inr ⟨hp, q⟩
  have o : (if P then u else w) = 1 → (P ∧ u = 1 ∨ ¬ P ∧ w = 1) := fun q => by
    by_cases hp : P
    · rw [if_pos hp] at q; exact Or.inl ⟨hp, q⟩
    · rw [if_neg hp] at q; exact Or.inr ⟨hp, q⟩
  have b : (if P then u else w) = 0 ∨ (if P then u else w) = 1 := by
    rcases huw with ⟨rfl, rfl⟩ | ⟨rfl, rfl⟩ <;> by_cases hp : P <;> simp [hp]
  rcases b with q | q
  · refine s1 _ (z q) ?_
    refine Free.XS.iconst h hx hg hd3 ?_
    rw [q] at hr
    exact hr
  · refine s2 _ (o q) ?_
    refine Free.XS.iconst h hx hg hd1 ?_
    refine Free.XS.goto h hx hg (pc0 := pc0 + 4) (pc' := pc0 + 8) rfl hd2 (by omega) (by omega) ?_
    rw [q] at hr
    exact hr
theorem own_diaT (h : At T m c below) (hx : tb.exec = Jvm.exec) (hg : g.method = m) {pc0 : Nat} (hpc : g.pc = pc0) {P : Prop} [Decidable P] {cd : ClassFile.Cond} {x : Int32} {rest : List Value}
    (hd0 : decode c.code pc0 = .ok (.ifCond cd 7, 3)) (hd1 : decode c.code (pc0 + 3) = .ok (.iconst 1, 1)) (hd2 : decode c.code (pc0 + 4) = .ok (.goto 4, 3)) (hd3 : decode c.code (pc0 + 7) = .ok (.iconst 0, 1))
    (hs : g.stack = .int x :: rest) (hy : P → ifCond.holds cd x = true) (hn : ¬ P → ifCond.holds cd x = false)
    (hr : Steps tb e below (T.setTop { g with pc := pc0 + 8, stack := .int (if P then (0 : Int32) else 1) :: rest }) target) : Steps tb e below (T.setTop g) target := by
  subst hpc
  refine own_dia h hx hg (P := P) (u := 0) (w := 1) (rest := rest) (Or.inl ⟨rfl, rfl⟩) hd1 hd2 hd3 (fun t q k => ?_) (fun t q k => ?_) hr
  · have hp : P := q.elim (·.1) fun z => absurd z.2 (by decide)
    exact Free.XS.ifYes h hx hg (pc' := g.pc + 7) rfl hd0 hs (hy hp) (by omega) (by omega) k
  · have hp : ¬ P := q.elim (fun z => absurd z.2 (by decide)) (·.1)
    exact Free.XS.ifNo h hx hg hd0 hs (hn hp) k
theorem own_diaF (h : At T m c below) (hx : tb.exec = Jvm.exec) (hg : g.method = m) {pc0 : Nat} (hpc : g.pc = pc0) {P : Prop} [Decidable P] {cd : ClassFile.Cond} {x : Int32} {rest : List Value}
    (hd0 : decode c.code pc0 = .ok (.ifCond cd 7, 3)) (hd1 : decode c.code (pc0 + 3) = .ok (.iconst 1, 1)) (hd2 : decode c.code (pc0 + 4) = .ok (.goto 4, 3)) (hd3 : decode c.code (pc0 + 7) = .ok (.iconst 0, 1))
    (hs : g.stack = .int x :: rest) (hy : P → ifCond.holds cd x = false) (hn : ¬ P → ifCond.holds cd x = true)
    (hr : Steps tb e below (T.setTop { g with pc := pc0 + 8, stack := .int (if P then (1 : Int32) else 0) :: rest }) target) : Steps tb e below (T.setTop g) target := by
  subst hpc
  refine own_dia h hx hg (P := P) (u := 1) (w := 0) (rest := rest) (Or.inr ⟨rfl, rfl⟩) hd1 hd2 hd3 (fun t q k => ?_) (fun t q k => ?_) hr
  · have hp : ¬ P := q.elim (fun z => absurd z.2 (by decide)) (·.1)
    exact Free.XS.ifYes h hx hg (pc' := g.pc + 7) rfl hd0 hs (hn hp) (by omega) (by omega) k
  · have hp : P := q.elim (·.1) fun z => absurd z.2 (by decide)
    exact Free.XS.ifNo h hx hg hd0 hs (hy hp) k
theorem own_diaT2 (h : At T m c below) (hx : tb.exec = Jvm.exec) (hg : g.method = m) {pc0 : Nat} (hpc : g.pc = pc0) {P : Prop} [Decidable P] {cd : ClassFile.Cond} {x y : Int32} {rest : List Value}
    (hd0 : decode c.code pc0 = .ok (.if_icmp cd 7, 3)) (hd1 : decode c.code (pc0 + 3) = .ok (.iconst 1, 1)) (hd2 : decode c.code (pc0 + 4) = .ok (.goto 4, 3)) (hd3 : decode c.code (pc0 + 7) = .ok (.iconst 0, 1))
    (hs : g.stack = .int y :: .int x :: rest) (hy : P → if_icmp.holds cd x y = true) (hn : ¬ P → if_icmp.holds cd x y = false)
    (hr : Steps tb e below (T.setTop { g with pc := pc0 + 8, stack := .int (if P then (0 : Int32) else 1) :: rest }) target) : Steps tb e below (T.setTop g) target := by
  subst hpc
  refine own_dia h hx hg (P := P) (u := 0) (w := 1) (rest := rest) (Or.inl ⟨rfl, rfl⟩) hd1 hd2 hd3 (fun t q k => ?_) (fun t q k => ?_) hr
  · have hp : P := q.elim (·.1) fun z => absurd z.2 (by decide)
    exact Free.XS.icmpYes h hx hg (pc' := g.pc + 7) rfl hd0 hs (hy hp) (by omega) (by omega) k
  · have hp : ¬ P := q.elim (fun z => absurd z.2 (by decide)) (·.1)
    exact Free.XS.icmpNo h hx hg hd0 hs (hn hp) k
theorem own_diaF2 (h : At T m c below) (hx : tb.exec = Jvm.exec) (hg : g.method = m) {pc0 : Nat} (hpc : g.pc = pc0) {P : Prop} [Decidable P] {cd : ClassFile.Cond} {x y : Int32} {rest : List Value}
    (hd0 : decode c.code pc0 = .ok (.if_icmp cd 7, 3)) (hd1 : decode c.code (pc0 + 3) = .ok (.iconst 1, 1)) (hd2 : decode c.code (pc0 + 4) = .ok (.goto 4, 3)) (hd3 : decode c.code (pc0 + 7) = .ok (.iconst 0, 1))
    (hs : g.stack = .int y :: .int x :: rest) (hy : P → if_icmp.holds cd x y = false) (hn : ¬ P → if_icmp.holds cd x y = true)
    (hr : Steps tb e below (T.setTop { g with pc := pc0 + 8, stack := .int (if P then (1 : Int32) else 0) :: rest }) target) : Steps tb e below (T.setTop g) target := by
  subst hpc
  refine own_dia h hx hg (P := P) (u := 1) (w := 0) (rest := rest) (Or.inr ⟨rfl, rfl⟩) hd1 hd2 hd3 (fun t q k => ?_) (fun t q k => ?_) hr
  · have hp : ¬ P := q.elim (fun z => absurd z.2 (by decide)) (·.1)
    exact Free.XS.icmpYes h hx hg (pc' := g.pc + 7) rfl hd0 hs (hn hp) (by omega) (by omega) k
  · have hp : P := q.elim (·.1) fun z => absurd z.2 (by decide)
    exact Free.XS.icmpNo h hx hg hd0 hs (hy hp) k
end OwnDia

def own_g (q0 : Int64) (j : Nat) : Value := .int (nar .byte (((((q0 * (31 : Int64)) + ((Int32.ofNat j).toInt64)).toInt32).toInt8.toInt32)))
theorem own_lt {i : Nat} (h : i < 2048) : Int32.ofNat i < (2048 : Int32) := by
  rw [Int32.lt_iff_toInt_lt, own_il (by omega), show (2048 : Int32).toInt = 2048 from rfl]; omega
theorem own_kk {kk k : Int32} (h : kk = (k &&& (2047 : Int32))) : 0 ≤ kk.toInt ∧ kk.toInt < 2048 := by
  have q := c_and k (2047 : Int32) (by decide)
  rw [show (2047 : Int32).toInt = 2047 from rfl] at q
  rw [h]; omega
theorem own_kin {kk : Int32} (h : 0 ≤ kk.toInt ∧ kk.toInt < 2048) : ¬ kk < 0 ∧ kk < (2048 : Int32) := by
  constructor
  · rw [Int32.lt_iff_toInt_lt, show (0 : Int32).toInt = 0 from rfl]; omega
  · rw [Int32.lt_iff_toInt_lt, show (2048 : Int32).toInt = 2048 from rfl]; omega
theorem own_get (q0 : Int64) {kk : Int32} (h : 0 ≤ kk.toInt ∧ kk.toInt < 2048) (d : Value) : (own_list (own_g q0) 2048).getD kk.toNatClampNeg d = .int (nar .byte (((((q0 * (31 : Int64)) + (kk.toInt64)).toInt32).toInt8.toInt32))) := by
  have hk : kk.toNatClampNeg < 2048 := by rw [Int32.toNatClampNeg]; omega
  rw [own_at _ hk]
  have e : Int32.ofNat kk.toNatClampNeg = kk := (back32 (own_kin h).1).1
  show Value.int _ = _
  rw [e]
theorem own_eqm {a b : Int} (h : (a - b) % 4294967296 = 0) (ha : -2147483648 ≤ a ∧ a < 2147483648) (hb : -2147483648 ≤ b ∧ b < 2147483648) : a = b := by omega
theorem own_fin (q0 : Int64) {kk low : Int32} (h : 0 ≤ kk.toInt ∧ kk.toInt < 2048) (hl : low = ((q0 &&& (255 : Int64)).toInt32)) : ((nar .byte (((((q0 * (31 : Int64)) + (kk.toInt64)).toInt32).toInt8.toInt32))) &&& (255 : Int32)) = (((low * (31 : Int32)) + kk) - (((low * (31 : Int32)) + kk) / (256 : Int32)) * (256 : Int32)) := by
  have a1 := c_lmul q0 31
  have a2 := c_ladd (q0 * 31) kk.toInt64
  have a3 := c_l2i ((q0 * 31) + kk.toInt64)
  have a4 := c_i2b ((q0 * 31) + kk.toInt64).toInt32
  have a5 := c_i2b ((q0 * 31) + kk.toInt64).toInt32.toInt8.toInt32
  rw [show (31 : Int64).toInt = 31 from rfl] at a1
  rw [c_i2l] at a2
  have b1 := c_mask ((((q0 * 31) + kk.toInt64).toInt32.toInt8.toInt32).toInt8.toInt32) 255 8 (by decide) (by decide)
  have b2 := c_maskL q0 255 8 (by decide) (by decide)
  have b3 := c_l2i (q0 &&& 255)
  have b4 := rng32 (q0 &&& 255).toInt32
  rw [← hl] at b3 b4
  have b5 := c_imul low 31
  rw [show (31 : Int32).toInt = 31 from rfl] at b5
  have b6 := c_iadd (low * 31) kk
  have b7 := rng32 (low * 31)
  have b8 := rng32 (low * 31 + kk)
  have e := irem_eq_mod
  have b9 := c_irem (low * 31 + kk) 256 256 rfl
  rw [e, ← Int32.toInt_inj]
  have b1' : ((nar .byte (((((q0 * (31 : Int64)) + (kk.toInt64)).toInt32).toInt8.toInt32))) &&& (255 : Int32)).toInt = (nar .byte (((((q0 * (31 : Int64)) + (kk.toInt64)).toInt32).toInt8.toInt32))).toInt % 256 := b1
  have a5' : ((nar .byte (((((q0 * (31 : Int64)) + (kk.toInt64)).toInt32).toInt8.toInt32))).toInt - ((q0 * 31) + kk.toInt64).toInt32.toInt8.toInt32.toInt) % 256 = 0 := a5.1
  rw [b1']
  generalize (nar .byte (((((q0 * (31 : Int64)) + (kk.toInt64)).toInt32).toInt8.toInt32))).toInt = N at *
  generalize ((q0 * 31) + kk.toInt64).toInt32.toInt8.toInt32.toInt = N1 at *
  generalize ((q0 * 31) + kk.toInt64).toInt32.toInt = N2 at *
  generalize ((q0 * 31) + kk.toInt64).toInt = N3 at *
  have hq : (q0 &&& 255).toInt = q0.toInt % 256 := b2
  have hlo : low.toInt = q0.toInt % 256 := (own_eqm b3 b4 (by omega)).trans hq
  have hl31 : (low * 31).toInt = low.toInt * 31 := own_eqm b5 b7 (by omega)
  have hsum : (low * 31 + kk).toInt = (low * 31).toInt + kk.toInt := own_eqm b6 b8 (by omega)
  have b9' := b9.1 (by omega)
  rw [b9', hsum, hl31, hlo]
  have a4q := a4.1
  clear b9 b9' b8 b7 b6 b5 b4 b3 b1 b1' a4 a5 hsum hl31 hlo hl hq b2 e
  omega
theorem d1_0 : decode prog_66_method_7_code 0 = .ok (.sipush 2048, 3) := by decide +kernel
theorem d1_3 : decode prog_66_method_7_code 3 = .ok (.newarray .byte, 2) := by decide +kernel
theorem d1_5 : decode prog_66_method_7_code 5 = .ok (.astore_n 2, 1) := by decide +kernel
theorem d1_6 : decode prog_66_method_7_code 6 = .ok (.iconst 0, 1) := by decide +kernel
theorem d1_7 : decode prog_66_method_7_code 7 = .ok (.istore_n 3, 1) := by decide +kernel
theorem d1_8 : decode prog_66_method_7_code 8 = .ok (.iload_n 3, 1) := by decide +kernel
theorem d1_9 : decode prog_66_method_7_code 9 = .ok (.sipush 2048, 3) := by decide +kernel
theorem d1_12 : decode prog_66_method_7_code 12 = .ok (.if_icmp .ge 22, 3) := by decide +kernel
theorem d1_15 : decode prog_66_method_7_code 15 = .ok (.aload_n 2, 1) := by decide +kernel
theorem d1_16 : decode prog_66_method_7_code 16 = .ok (.iload_n 3, 1) := by decide +kernel
theorem d1_17 : decode prog_66_method_7_code 17 = .ok (.lload_n 0, 1) := by decide +kernel
theorem d1_18 : decode prog_66_method_7_code 18 = .ok (.ldc2_w 82, 3) := by decide +kernel
theorem d1_21 : decode prog_66_method_7_code 21 = .ok (.lmul, 1) := by decide +kernel
theorem d1_22 : decode prog_66_method_7_code 22 = .ok (.iload_n 3, 1) := by decide +kernel
theorem d1_23 : decode prog_66_method_7_code 23 = .ok (.i2l, 1) := by decide +kernel
theorem d1_24 : decode prog_66_method_7_code 24 = .ok (.ladd, 1) := by decide +kernel
theorem d1_25 : decode prog_66_method_7_code 25 = .ok (.l2i, 1) := by decide +kernel
theorem d1_26 : decode prog_66_method_7_code 26 = .ok (.i2b, 1) := by decide +kernel
theorem d1_27 : decode prog_66_method_7_code 27 = .ok (.bastore, 1) := by decide +kernel
theorem d1_28 : decode prog_66_method_7_code 28 = .ok (.iinc 3 1, 3) := by decide +kernel
theorem d1_31 : decode prog_66_method_7_code 31 = .ok (.goto (-23), 3) := by decide +kernel
theorem d1_34 : decode prog_66_method_7_code 34 = .ok (.aload_n 2, 1) := by decide +kernel
theorem d1_35 : decode prog_66_method_7_code 35 = .ok (.areturn, 1) := by decide +kernel
theorem pn_com_example_fallow_fallow_PersonSet : plainName "com/example/fallow/fallow/PersonSet" = true := by first | (simp [plainName, overriddenIn]; done) | decide +kernel
theorem ef_1 (m : MethodId) (q0 : Int64) : entryFrame m #[(.long q0)] 4 = mkF m 0 #[.val (.long q0), .second, .unset, .unset] [] := by first | (simp [entryFrame, mkF, argsToLocals, Value.category]; done) | rfl
def Q1 (Z : State) (q0 : Int64) (h0 : Heap) (n0 : Nat) (v : Option Value) (h : Heap) (L : List Loc) : Prop := ∃ b : Addr, ∃ k : ClassId, v = some (.ref b) ∧ Fr n0 L ∧ Keep h0 h [] ∧ h0.size ≤ b ∧ Arv Z h b k .byte (2048 : Int32) (own_list (own_g q0) 2048) (Value.int (0 : Int32))
set_option maxRecDepth 65536 in
set_option maxHeartbeats 40000000 in
theorem rm1 (l : Launch) (Z : State) (a0 : Array Value) (hw : ∀ d ∈ tables_1, d.before a0 Z = true) (ws : List Jvm.Cond) (q0 : Int64) (h0 : Heap) (n0 : Nat) (Z0 : n0 ≤ h0.size) :
    MetFree l (⟨"com/example/fallow/fallow/PersonSet", "image", "(J)[B"⟩ : MethodName) (head1 (Jvm.Cond.code (⟨"com/example/fallow/fallow/PersonSet", "image", "(J)[B"⟩ : MethodName) prog_66_method_7_code 4 (some (.array .byte)) :: ws) ({ frames := 0, cells := 1, slots := 2048, locals := 0 } : Room)) (fun a U => a = #[(.long q0)] ∧ Z.Warmed39 U.vm ∧ U.heap = h0) (fun _ _ _ _ _ => True) (fun _ U o U' => ∃ v L, o = .returned v ∧ Q1 Z q0 h0 n0 v U'.heap L ∧ FrameEnd U o U' L ({ frames := 0, cells := 1, slots := 2048, locals := 0 } : Room).cells ({ frames := 0, cells := 1, slots := 2048, locals := 0 } : Room).slots) := by
  refine MetFree.of_bodySF (plainFor_of_name pn_com_example_fallow_fallow_PersonSet) hisR ?_
  intro p e s m args below meth c s₁ Bd hml0 hP hK
  obtain ⟨rfl, hZ, hh⟩ := hP
  have hx := Bd.exec
  have hby := Bd.bytes
  have hml : c.maxLocals = 4 := hml0
  have hown : s.vm.findClass "com/example/fallow/fallow/PersonSet" = some m.cls := findClass_of_methodNamed Bd.named
  have hnm := (name_of_methodNamed Bd.named Bd.method).1
  have X0 : Stand p l e ({ frames := 0, cells := 1, slots := 2048, locals := 0 } : Room) s m #[(.long q0)] below meth c s₁ [] 0 0 := Stand.of_body Bd
  have e0 : s₁.heap = h0 := by rw [← hh, Bd.state]; rfl
  have N0 := Fr.nil n0
  have pre0 : ∀ t, Steps p.tables e below (s₁.setTop (mkF m 0 #[.val (.long q0), .second, .unset, .unset] [])) t → Steps p.tables e below (s₁.setTop (entryFrame m #[(.long q0)] 4)) t := fun t k => castTop (ef_1 m q0) k
  obtain ⟨T1, h1, k1, X1, e1, E1, A1, st1⟩ := newP X0 hx hZ (hw _ (List.mem_of_getElem? (i := 4) rfl)) e0 (g := (mkF m 3 #[.val (.long q0), .second, .unset, .unset] [(.int (2048 : Int32))])) rfl (hb hby d1_3) rfl (by decide) (cap := 2048) (by decide) (by decide) (by decide) (by decide)
  obtain ⟨b1, g1⟩ : ∃ z, z = h0.size := ⟨_, rfl⟩
  rw [← g1] at A1 st1
  have g_b1 : n0 ≤ b1 := Nat.le_trans Z0 (Nat.le_of_eq g1.symm)
  have sz_b1 : h0.size ≤ b1 := Nat.le_trans (Keep.refl h0 []).1 (Nat.le_of_eq g1.symm)
  have V_b1 : Arv Z h1 b1 k1 .byte (2048 : Int32) [] (.int (0 : Int32)) := Arv.new A1 (by decide)
  have J1 : Keep h0 h1 [] := (Keep.refl h0 []).ext E1
  have pre2 : ∀ t, Steps p.tables e below (T1.setTop (mkF m 8 #[.val (.long q0), .second, .val (.ref b1), .val (.int (0 : Int32))] [])) t → Steps p.tables e below (s₁.setTop (entryFrame m #[(.long q0)] 4)) t := by
    intro t kt
    refine pre0 _ ?_
    show Steps p.tables e below (s₁.setTop (mkF m 0 #[.val (.long q0), .second, .unset, .unset] [])) _
    refine XS.sipush X0.here hx rfl (hb hby d1_0) ?_
    show Steps p.tables e below (s₁.setTop (mkF m 3 #[.val (.long q0), .second, .unset, .unset] [(.int (2048 : Int32))])) _
    refine st1 _ ?_
    show Steps p.tables e below (T1.setTop (mkF m 5 #[.val (.long q0), .second, .unset, .unset] [(.ref b1)])) _
    refine XS.astoreN X1.here hx rfl (hb hby d1_5) rfl rfl (l' := #[.val (.long q0), .second, .val (.ref b1), .unset]) rfl ?_
    show Steps p.tables e below (T1.setTop (mkF m 6 #[.val (.long q0), .second, .val (.ref b1), .unset] [])) _
    refine XS.iconst X1.here hx rfl (hb hby d1_6) ?_
    show Steps p.tables e below (T1.setTop (mkF m 7 #[.val (.long q0), .second, .val (.ref b1), .unset] [(.int (0 : Int32))])) _
    refine XS.istoreN X1.here hx rfl (hb hby d1_7) rfl (l' := #[.val (.long q0), .second, .val (.ref b1), .val (.int (0 : Int32))]) rfl ?_
    exact kt
  have loop3 : ∀ (k i : Nat) (T : State) (h : Heap) (locs : List Loc), i + k = 2048 → Stand p l e ({ frames := 0, cells := 1, slots := 2048, locals := 0 } : Room) s m #[(.long q0)] below meth c T locs 1 2048 → T.heap = h → Fr n0 locs → Keep h1 h [b1] → Arv Z h b1 k1 .byte (2048 : Int32) (own_list (own_g q0) i) (Value.int (0 : Int32)) → ∃ (T' : State) (h' : Heap) (locs' : List Loc), Stand p l e ({ frames := 0, cells := 1, slots := 2048, locals := 0 } : Room) s m #[(.long q0)] below meth c T' locs' 1 2048 ∧ T'.heap = h' ∧ Fr n0 locs' ∧ Keep h1 h' [b1] ∧ Arv Z h' b1 k1 .byte (2048 : Int32) (own_list (own_g q0) 2048) (Value.int (0 : Int32)) ∧ ∀ t, Steps p.tables e below (T'.setTop (mkF m 34 #[.val (.long q0), .second, .val (.ref b1), .val (.int (Int32.ofNat 2048))] [])) t → Steps p.tables e below (T.setTop (mkF m 8 #[.val (.long q0), .second, .val (.ref b1), .val (.int (Int32.ofNat i))] [])) t := by
    intro k
    induction k with
    | zero =>
      intro i T4 h4 L4 hi X4 e4 N4 K4 v0_4
      have hi' : i = 2048 := by omega
      subst hi'
      have hc12_5 : ¬ ((Int32.ofNat 2048) < (2048 : Int32)) := by decide
      refine ⟨T4, h4, _, X4, e4, N4, K4, v0_4, fun t kt => ?_⟩
      show Steps p.tables e below (T4.setTop (mkF m 8 #[.val (.long q0), .second, .val (.ref b1), .val (.int (Int32.ofNat 2048))] [])) _
      refine XS.iloadN X4.here hx rfl (hb hby d1_8) rfl ?_
      show Steps p.tables e below (T4.setTop (mkF m 9 #[.val (.long q0), .second, .val (.ref b1), .val (.int (Int32.ofNat 2048))] [(.int (Int32.ofNat 2048))])) _
      refine XS.sipush X4.here hx rfl (hb hby d1_9) ?_
      show Steps p.tables e below (T4.setTop (mkF m 12 #[.val (.long q0), .second, .val (.ref b1), .val (.int (Int32.ofNat 2048))] [(.int (2048 : Int32)), (.int (Int32.ofNat 2048))])) _
      refine XS.icmpYes X4.here hx rfl (pc0 := 12) (pc' := 34) rfl (hb hby d1_12) rfl (flt hc12_5).2.1 (by decide) (by decide) ?_
      exact kt
    | succ k ih =>
      intro i T6 h6 L6 hi X6 e6 N6 K6 v0_6
      have hi' : i < 2048 := by omega
      have hc12_7 : (Int32.ofNat i) < (2048 : Int32) := own_lt hi'
      obtain ⟨cl8, Ar8, qk8, Sz8, Nn8, Hs8, Gs8⟩ := id (v0_6.pad (pad_rep _ _ 1))
      have hin8 : ¬ ((Int32.ofNat i) < 0 ∨ cl8.slots.size ≤ ((Int32.ofNat i)).toNatClampNeg) := inb_of Sz8 ⟨own_in (by omega), own_lt hi'⟩
      obtain ⟨T9, h9, X9, e9, W9, st9⟩ := stB X6 hx hZ e6 Ar8 (j := (Int32.ofNat i)) hin8 (g := (mkF m 27 #[.val (.long q0), .second, .val (.ref b1), .val (.int (Int32.ofNat i))] [(.int ((((q0 * (31 : Int64)) + ((Int32.ofNat i).toInt64)).toInt32).toInt8.toInt32)), (.int (Int32.ofNat i)), (.ref b1)])) rfl rfl (hb hby d1_27)
      have V9 : Arv Z h9 b1 k1 .byte (2048 : Int32) ((own_list (own_g q0) i ++ [(Value.int (0 : Int32))]).set i (own_g q0 i)) (Value.int (0 : Int32)) := Arv.set Ar8 qk8 Sz8 Nn8 Hs8 Gs8 (fits_nar_byte _) W9 i (own_ic (by omega)) (by rw [List.length_append, own_len]; simp)
      have J9 : Keep h0 h9 [] := (J1.trans K6 (allS (Or.inr sz_b1) all0)).wr W9 (Or.inr sz_b1)
      have N9 := Fr.snoc X9 N6 g_b1
      obtain ⟨T10, h10, L10, X10, e10, N10, K10, w0_10, st10⟩ := ih (i + 1) T9 h9 _ (by omega) X9 e9 N9 (K6.wr W9 (Or.inl (List.mem_of_getElem? (i := 0) rfl))) (own_setl (own_g q0) i _ ▸ V9)
      refine ⟨T10, h10, L10, X10, e10, N10, K10, w0_10, fun t kt => ?_⟩
      show Steps p.tables e below (T6.setTop (mkF m 8 #[.val (.long q0), .second, .val (.ref b1), .val (.int (Int32.ofNat i))] [])) _
      refine XS.iloadN X6.here hx rfl (hb hby d1_8) rfl ?_
      show Steps p.tables e below (T6.setTop (mkF m 9 #[.val (.long q0), .second, .val (.ref b1), .val (.int (Int32.ofNat i))] [(.int (Int32.ofNat i))])) _
      refine XS.sipush X6.here hx rfl (hb hby d1_9) ?_
      show Steps p.tables e below (T6.setTop (mkF m 12 #[.val (.long q0), .second, .val (.ref b1), .val (.int (Int32.ofNat i))] [(.int (2048 : Int32)), (.int (Int32.ofNat i))])) _
      refine XS.icmpNo X6.here hx rfl (hb hby d1_12) rfl (tlt hc12_7).2.1 ?_
      show Steps p.tables e below (T6.setTop (mkF m 15 #[.val (.long q0), .second, .val (.ref b1), .val (.int (Int32.ofNat i))] [])) _
      refine XS.aloadN X6.here hx rfl (hb hby d1_15) rfl rfl ?_
      show Steps p.tables e below (T6.setTop (mkF m 16 #[.val (.long q0), .second, .val (.ref b1), .val (.int (Int32.ofNat i))] [(.ref b1)])) _
      refine XS.iloadN X6.here hx rfl (hb hby d1_16) rfl ?_
      show Steps p.tables e below (T6.setTop (mkF m 17 #[.val (.long q0), .second, .val (.ref b1), .val (.int (Int32.ofNat i))] [(.int (Int32.ofNat i)), (.ref b1)])) _
      refine XS.lloadN X6.here hx rfl (hb hby d1_17) rfl ?_
      show Steps p.tables e below (T6.setTop (mkF m 18 #[.val (.long q0), .second, .val (.ref b1), .val (.int (Int32.ofNat i))] [(.long q0), (.int (Int32.ofNat i)), (.ref b1)])) _
      refine X6.ldc2Long hx hown (mvT hZ (hw _ (List.mem_of_getElem? (i := 5) rfl))) (g := (mkF m 18 #[.val (.long q0), .second, .val (.ref b1), .val (.int (Int32.ofNat i))] [(.long q0), (.int (Int32.ofNat i)), (.ref b1)])) rfl (hb hby d1_18) _ ?_
      show Steps p.tables e below (T6.setTop (mkF m 21 #[.val (.long q0), .second, .val (.ref b1), .val (.int (Int32.ofNat i))] [(.long (31 : Int64)), (.long q0), (.int (Int32.ofNat i)), (.ref b1)])) _
      refine XS.lmul X6.here hx rfl (hb hby d1_21) rfl ?_
      show Steps p.tables e below (T6.setTop (mkF m 22 #[.val (.long q0), .second, .val (.ref b1), .val (.int (Int32.ofNat i))] [(.long (q0 * (31 : Int64))), (.int (Int32.ofNat i)), (.ref b1)])) _
      refine XS.iloadN X6.here hx rfl (hb hby d1_22) rfl ?_
      show Steps p.tables e below (T6.setTop (mkF m 23 #[.val (.long q0), .second, .val (.ref b1), .val (.int (Int32.ofNat i))] [(.int (Int32.ofNat i)), (.long (q0 * (31 : Int64))), (.int (Int32.ofNat i)), (.ref b1)])) _
      refine XS.i2l X6.here hx rfl (hb hby d1_23) rfl ?_
      show Steps p.tables e below (T6.setTop (mkF m 24 #[.val (.long q0), .second, .val (.ref b1), .val (.int (Int32.ofNat i))] [(.long ((Int32.ofNat i).toInt64)), (.long (q0 * (31 : Int64))), (.int (Int32.ofNat i)), (.ref b1)])) _
      refine XS.ladd X6.here hx rfl (hb hby d1_24) rfl ?_
      show Steps p.tables e below (T6.setTop (mkF m 25 #[.val (.long q0), .second, .val (.ref b1), .val (.int (Int32.ofNat i))] [(.long ((q0 * (31 : Int64)) + ((Int32.ofNat i).toInt64))), (.int (Int32.ofNat i)), (.ref b1)])) _
      refine XS.l2i X6.here hx rfl (hb hby d1_25) rfl ?_
      show Steps p.tables e below (T6.setTop (mkF m 26 #[.val (.long q0), .second, .val (.ref b1), .val (.int (Int32.ofNat i))] [(.int (((q0 * (31 : Int64)) + ((Int32.ofNat i).toInt64)).toInt32)), (.int (Int32.ofNat i)), (.ref b1)])) _
      refine XS.i2b X6.here hx rfl (hb hby d1_26) rfl ?_
      show Steps p.tables e below (T6.setTop (mkF m 27 #[.val (.long q0), .second, .val (.ref b1), .val (.int (Int32.ofNat i))] [(.int ((((q0 * (31 : Int64)) + ((Int32.ofNat i).toInt64)).toInt32).toInt8.toInt32)), (.int (Int32.ofNat i)), (.ref b1)])) _
      refine st9 _ ?_
      show Steps p.tables e below (T9.setTop (mkF m 28 #[.val (.long q0), .second, .val (.ref b1), .val (.int (Int32.ofNat i))] [])) _
      refine XS.iinc X9.here hx rfl (hb hby d1_28) rfl (l' := #[.val (.long q0), .second, .val (.ref b1), .val (.int ((Int32.ofNat i) + (1 : Int32)))]) rfl ?_
      show Steps p.tables e below (T9.setTop (mkF m 31 #[.val (.long q0), .second, .val (.ref b1), .val (.int ((Int32.ofNat i) + (1 : Int32)))] [])) _
      refine XS.goto X9.here hx rfl (pc0 := 31) (pc' := 8) rfl (hb hby d1_31) (by decide) (by decide) ?_
      show Steps p.tables e below (T9.setTop (mkF m 8 #[.val (.long q0), .second, .val (.ref b1), .val (.int ((Int32.ofNat i) + (1 : Int32)))] [])) _
      rw [own_one]
      exact st10 t kt
  obtain ⟨T3, h3, L3, X3, e3, N3, K3, u0_3, st3⟩ := loop3 2048 0 T1 h1 _ (by omega) X1 e1 N0 (Keep.refl _ _) (show Arv Z h1 b1 k1 .byte (2048 : Int32) (own_list (own_g q0) 0) (Value.int (0 : Int32)) from V_b1)
  have J3 : Keep h0 h3 [] := J1.trans K3 (allS (Or.inr sz_b1) all0)
  obtain ⟨fs, hr, hrun, hended, hW, hsame⟩ := X3.leave (v := some (.ref b1)) (fun h => by rw [Bd.returns] at h; cases h)
  refine ⟨_, _, pre2 _ ?_, hrun, hended, _, _, rfl, ?_, ⟨_, rfl⟩, hW, hsame.mono (by decide) (by decide)⟩
  · show Steps p.tables e below (T1.setTop (mkF m 8 #[.val (.long q0), .second, .val (.ref b1), .val (.int (0 : Int32))] [])) _
    refine st3 _ ?_
    show Steps p.tables e below (T3.setTop (mkF m 34 #[.val (.long q0), .second, .val (.ref b1), .val (.int (Int32.ofNat 2048))] [])) _
    refine XS.aloadN X3.here hx rfl (hb hby d1_34) rfl rfl ?_
    show Steps p.tables e below (T3.setTop (mkF m 35 #[.val (.long q0), .second, .val (.ref b1), .val (.int (Int32.ofNat 2048))] [(.ref b1)])) _
    jvm_step X3.here [X3.here.top, hx, (hb hby d1_35), X3.method', Bd.returns, Value.isRef, FieldType.isReference]
    first | (intro acts; rw [hr _ acts rfl rfl rfl]) | rw [hr _ _ rfl rfl rfl]
    exact Steps.refl _
  · show Q1 Z q0 h0 n0 _ T3.heap _
    rw [e3]
    exact ⟨b1, k1, rfl, N3, J3, sz_b1, u0_3⟩
theorem pn_com_example_fallow_fallow_PersonSetImagePinLaw : plainName "com/example/fallow/fallow/PersonSetImagePinLaw" = true := by first | (simp [plainName, overriddenIn]; done) | decide +kernel
theorem pd_0 : parseMethodDescriptor "(J)[B" = some ⟨[.long], some (.array .byte)⟩ := by decide +kernel
theorem ef_0 (m : MethodId) (q0 : Int64) (p1 : Int32) : entryFrame m #[(.long q0), (.int p1)] maxLocals = mkF m 0 #[.val (.long q0), .second, .val (.int p1), .unset, .unset, .unset, .unset] [] := by first | (simp [entryFrame, mkF, argsToLocals, Value.category, maxLocals]; done) | rfl
def Q0 (Z : State) (q0 : Int64) (p1 : Int32) (h0 : Heap) (n0 : Nat) (v : Option Value) (h : Heap) (L : List Loc) : Prop := v = some (.int (1 : Int32)) ∧ Fr n0 L
set_option maxRecDepth 65536 in
set_option maxHeartbeats 40000000 in
theorem rm0 (l : Launch) (Z : State) (a0 : Array Value) (hw : ∀ d ∈ tables_1, d.before a0 Z = true) (ws : List Jvm.Cond) (q0 : Int64) (p1 : Int32) (h0 : Heap) (n0 : Nat) (Z0 : n0 ≤ h0.size) :
    MetFree l x (head1 (Jvm.Cond.code x code maxLocals ret :: ws) room_1) (fun a U => a = #[(.long q0), (.int p1)] ∧ Z.Warmed39 U.vm ∧ U.heap = h0) (fun _ _ _ _ _ => True) (fun _ U o U' => ∃ v L, o = .returned v ∧ Q0 Z q0 p1 h0 n0 v U'.heap L ∧ FrameEnd U o U' L room_1.cells room_1.slots) := by
  refine MetFree.of_bodySF (plainFor_of_name pn_com_example_fallow_fallow_PersonSetImagePinLaw) hisR ?_
  intro p e s m args below meth c s₁ Bd hml0 hP hK
  obtain ⟨rfl, hZ, hh⟩ := hP
  have hx := Bd.exec
  have hby := Bd.bytes
  have hml : c.maxLocals = 7 := hml0
  have hown : s.vm.findClass "com/example/fallow/fallow/PersonSetImagePinLaw" = some m.cls := findClass_of_methodNamed Bd.named
  have hnm := (name_of_methodNamed Bd.named Bd.method).1
  have X0 : Stand p l e room_1 s m #[(.long q0), (.int p1)] below meth c s₁ [] 0 0 := Stand.of_body Bd
  have e0 : s₁.heap = h0 := by rw [← hh, Bd.state]; rfl
  have N0 := Fr.nil n0
  have pre0 : ∀ t, Steps p.tables e below (s₁.setTop (mkF m 0 #[.val (.long q0), .second, .val (.int p1), .unset, .unset, .unset, .unset] [])) t → Steps p.tables e below (s₁.setTop (entryFrame m #[(.long q0), (.int p1)] maxLocals)) t := fun t k => castTop (ef_0 m q0 p1) k
  -- pc 1: PersonSet.image by rm1
  obtain ⟨_, _, ⟨T1, L1, k1, n1⟩, -, X1, ⟨Lc1, hQ1, l1, y1, z1'⟩, st1⟩ := Jvm.LawKit.callS X0 hx (y := (⟨"com/example/fallow/fallow/PersonSet", "image", "(J)[B"⟩ : MethodName)) hown (mvT hZ (hw _ (List.mem_of_getElem? (i := 0) rfl))) (mvT hZ (hw _ (List.mem_of_getElem? (i := 1) rfl))) (mvT hZ (hw _ (List.mem_of_getElem? (i := 2) rfl))) (mvT hZ (hw _ (List.mem_of_getElem? (i := 3) rfl))) (by decide) (backOf (W := 0) (rm1 l Z a0 hw [] q0 h0 n0 Z0 ) hZ (hw _ (List.mem_of_getElem? (i := 3) rfl)) (hw _ (List.mem_of_getElem? (i := 2) rfl)) (by decide) (by decide)) (g := (mkF m 1 #[.val (.long q0), .second, .val (.int p1), .unset, .unset, .unset, .unset] [(.long q0)])) rfl (by rw [hml]; rfl) (argsL := [(.long q0)]) (rest := []) (lenOf pd_0 rfl) rfl (by show 2 * 0 + _ ≤ _; exact Nat.le_of_eq rfl) (hb hby at_1) (fun _ _ => ⟨rfl, e0, (by decide : 0 + 1 ≤ _), (by decide : 0 + 2048 ≤ _)⟩)
  dsimp only [Pt.U, Pt.locs, Pt.cells, Pt.slots] at X1 l1 y1 z1' st1 hQ1
  subst l1 y1 z1'
  obtain ⟨b_1, k_1, rfl, N1q, K1, r0_1, r1_1⟩ := hQ1
  have N1 := Fr.app N0 N1q
  have J1 : Keep h0 T1.heap [] := (Keep.refl h0 []).trans K1 all0
  have g_b_1 : n0 ≤ b_1 := Nat.le_trans Z0 r0_1
  have sz_b_1 : h0.size ≤ b_1 := Nat.le_trans (Keep.refl h0 []).1 r0_1
  obtain ⟨cl2, Ar2, -, Sz2, Nn2, -, -⟩ := id r1_1
  obtain ⟨kk, e_kk⟩ : ∃ z : Int32, z = (p1 &&& (2047 : Int32)) := ⟨_, rfl⟩
  have hk := own_kk e_kk
  obtain ⟨low, e_low⟩ : ∃ z : Int32, z = ((q0 &&& (255 : Int64)).toInt32) := ⟨_, rfl⟩
  obtain ⟨cl3, Ar3, -, Sz3, Nn3, Hs3, -⟩ := id r1_1
  have hin3 : ¬ (kk < 0 ∨ cl3.slots.size ≤ (kk).toNatClampNeg) := inb_of Sz3 (own_kin hk)
  have hat3 : cl3.slots[(kk).toNatClampNeg]? = some (.int (nar .byte (((((q0 * (31 : Int64)) + (kk.toInt64)).toInt32).toInt8.toInt32)))) := Hs3.at hin3 (own_get q0 hk _)
  have hc58_4 : ((nar .byte (((((q0 * (31 : Int64)) + (kk.toInt64)).toInt32).toInt8.toInt32))) &&& (255 : Int32)) = (((low * (31 : Int32)) + kk) - (((low * (31 : Int32)) + kk) / (256 : Int32)) * (256 : Int32)) := own_fin q0 hk e_low
  obtain ⟨fs, hr, hrun, hended, hW, hsame⟩ := X1.leave (v := some (.int (1 : Int32))) (fun h => by rw [Bd.returns] at h; cases h)
  refine ⟨_, _, pre0 _ ?_, hrun, hended, _, _, rfl, ?_, ⟨_, rfl⟩, hW, hsame.mono (by decide) (by decide)⟩
  · show Steps p.tables e below (s₁.setTop (mkF m 0 #[.val (.long q0), .second, .val (.int p1), .unset, .unset, .unset, .unset] [])) _
    refine XS.lloadN X0.here hx rfl (hb hby at_0) rfl ?_
    show Steps p.tables e below (s₁.setTop (mkF m 1 #[.val (.long q0), .second, .val (.int p1), .unset, .unset, .unset, .unset] [(.long q0)])) _
    refine st1 _ ?_
    show Steps p.tables e below (T1.setTop (mkF m 4 #[.val (.long q0), .second, .val (.int p1), .unset, .unset, .unset, .unset] [(.ref b_1)])) _
    refine XS.astoreN X1.here hx rfl (hb hby at_4) rfl rfl (l' := #[.val (.long q0), .second, .val (.int p1), .val (.ref b_1), .unset, .unset, .unset]) rfl ?_
    show Steps p.tables e below (T1.setTop (mkF m 5 #[.val (.long q0), .second, .val (.int p1), .val (.ref b_1), .unset, .unset, .unset] [])) _
    refine XS.aloadN X1.here hx rfl (hb hby at_5) rfl rfl ?_
    show Steps p.tables e below (T1.setTop (mkF m 6 #[.val (.long q0), .second, .val (.int p1), .val (.ref b_1), .unset, .unset, .unset] [(.ref b_1)])) _
    refine XS.ifnullNo X1.here hx rfl (hb hby at_6) rfl ?_
    show Steps p.tables e below (T1.setTop (mkF m 9 #[.val (.long q0), .second, .val (.int p1), .val (.ref b_1), .unset, .unset, .unset] [])) _
    refine XS.aloadN X1.here hx rfl (hb hby at_9) rfl rfl ?_
    show Steps p.tables e below (T1.setTop (mkF m 10 #[.val (.long q0), .second, .val (.int p1), .val (.ref b_1), .unset, .unset, .unset] [(.ref b_1)])) _
    refine X1.arraylength hx Ar2.1 (State.isArrayOf_alike hZ.alike Ar2.2.1) (g := (mkF m 10 #[.val (.long q0), .second, .val (.int p1), .val (.ref b_1), .unset, .unset, .unset] [(.ref b_1)])) rfl rfl (hb hby at_10) _ ?_
    rw [len_of Sz2 Nn2]
    show Steps p.tables e below (T1.setTop (mkF m 11 #[.val (.long q0), .second, .val (.int p1), .val (.ref b_1), .unset, .unset, .unset] [(.int (2048 : Int32))])) _
    refine XS.sipush X1.here hx rfl (hb hby at_11) ?_
    show Steps p.tables e below (T1.setTop (mkF m 14 #[.val (.long q0), .second, .val (.int p1), .val (.ref b_1), .unset, .unset, .unset] [(.int (2048 : Int32)), (.int (2048 : Int32))])) _
    refine XS.icmpYes X1.here hx rfl (pc0 := 14) (pc' := 19) rfl (hb hby at_14) rfl (teq (by decide)).1 (by decide) (by decide) ?_
    show Steps p.tables e below (T1.setTop (mkF m 19 #[.val (.long q0), .second, .val (.int p1), .val (.ref b_1), .unset, .unset, .unset] [])) _
    refine XS.iloadN X1.here hx rfl (hb hby at_19) rfl ?_
    show Steps p.tables e below (T1.setTop (mkF m 20 #[.val (.long q0), .second, .val (.int p1), .val (.ref b_1), .unset, .unset, .unset] [(.int p1)])) _
    refine XS.sipush X1.here hx rfl (hb hby at_20) ?_
    show Steps p.tables e below (T1.setTop (mkF m 23 #[.val (.long q0), .second, .val (.int p1), .val (.ref b_1), .unset, .unset, .unset] [(.int (2047 : Int32)), (.int p1)])) _
    refine XS.iand X1.here hx rfl (hb hby at_23) rfl ?_
    show Steps p.tables e below (T1.setTop (mkF m 24 #[.val (.long q0), .second, .val (.int p1), .val (.ref b_1), .unset, .unset, .unset] [(.int (p1 &&& (2047 : Int32)))])) _
    rw [← e_kk]
    show Steps p.tables e below (T1.setTop (mkF m 24 #[.val (.long q0), .second, .val (.int p1), .val (.ref b_1), .unset, .unset, .unset] [(.int kk)])) _
    refine XS.istore X1.here hx rfl (hb hby at_24) rfl (l' := #[.val (.long q0), .second, .val (.int p1), .val (.ref b_1), .val (.int kk), .unset, .unset]) rfl ?_
    show Steps p.tables e below (T1.setTop (mkF m 26 #[.val (.long q0), .second, .val (.int p1), .val (.ref b_1), .val (.int kk), .unset, .unset] [])) _
    refine XS.lloadN X1.here hx rfl (hb hby at_26) rfl ?_
    show Steps p.tables e below (T1.setTop (mkF m 27 #[.val (.long q0), .second, .val (.int p1), .val (.ref b_1), .val (.int kk), .unset, .unset] [(.long q0)])) _
    refine X1.ldc2Long hx hown (mvT hZ (hw _ (List.mem_of_getElem? (i := 6) rfl))) (g := (mkF m 27 #[.val (.long q0), .second, .val (.int p1), .val (.ref b_1), .val (.int kk), .unset, .unset] [(.long q0)])) rfl (hb hby at_27) _ ?_
    show Steps p.tables e below (T1.setTop (mkF m 30 #[.val (.long q0), .second, .val (.int p1), .val (.ref b_1), .val (.int kk), .unset, .unset] [(.long (255 : Int64)), (.long q0)])) _
    refine XS.land X1.here hx rfl (hb hby at_30) rfl ?_
    show Steps p.tables e below (T1.setTop (mkF m 31 #[.val (.long q0), .second, .val (.int p1), .val (.ref b_1), .val (.int kk), .unset, .unset] [(.long (q0 &&& (255 : Int64)))])) _
    refine XS.l2i X1.here hx rfl (hb hby at_31) rfl ?_
    show Steps p.tables e below (T1.setTop (mkF m 32 #[.val (.long q0), .second, .val (.int p1), .val (.ref b_1), .val (.int kk), .unset, .unset] [(.int ((q0 &&& (255 : Int64)).toInt32))])) _
    rw [← e_low]
    show Steps p.tables e below (T1.setTop (mkF m 32 #[.val (.long q0), .second, .val (.int p1), .val (.ref b_1), .val (.int kk), .unset, .unset] [(.int low)])) _
    refine XS.istore X1.here hx rfl (hb hby at_32) rfl (l' := #[.val (.long q0), .second, .val (.int p1), .val (.ref b_1), .val (.int kk), .val (.int low), .unset]) rfl ?_
    show Steps p.tables e below (T1.setTop (mkF m 34 #[.val (.long q0), .second, .val (.int p1), .val (.ref b_1), .val (.int kk), .val (.int low), .unset] [])) _
    refine XS.iload X1.here hx rfl (hb hby at_34) rfl ?_
    show Steps p.tables e below (T1.setTop (mkF m 36 #[.val (.long q0), .second, .val (.int p1), .val (.ref b_1), .val (.int kk), .val (.int low), .unset] [(.int low)])) _
    refine XS.bipush X1.here hx rfl (hb hby at_36) ?_
    show Steps p.tables e below (T1.setTop (mkF m 38 #[.val (.long q0), .second, .val (.int p1), .val (.ref b_1), .val (.int kk), .val (.int low), .unset] [(.int (31 : Int32)), (.int low)])) _
    refine XS.imul X1.here hx rfl (hb hby at_38) rfl ?_
    show Steps p.tables e below (T1.setTop (mkF m 39 #[.val (.long q0), .second, .val (.int p1), .val (.ref b_1), .val (.int kk), .val (.int low), .unset] [(.int (low * (31 : Int32)))])) _
    refine XS.iload X1.here hx rfl (hb hby at_39) rfl ?_
    show Steps p.tables e below (T1.setTop (mkF m 41 #[.val (.long q0), .second, .val (.int p1), .val (.ref b_1), .val (.int kk), .val (.int low), .unset] [(.int kk), (.int (low * (31 : Int32)))])) _
    refine XS.iadd X1.here hx rfl (hb hby at_41) rfl ?_
    show Steps p.tables e below (T1.setTop (mkF m 42 #[.val (.long q0), .second, .val (.int p1), .val (.ref b_1), .val (.int kk), .val (.int low), .unset] [(.int ((low * (31 : Int32)) + kk))])) _
    refine XS.sipush X1.here hx rfl (hb hby at_42) ?_
    show Steps p.tables e below (T1.setTop (mkF m 45 #[.val (.long q0), .second, .val (.int p1), .val (.ref b_1), .val (.int kk), .val (.int low), .unset] [(.int (256 : Int32)), (.int ((low * (31 : Int32)) + kk))])) _
    refine XS.irem X1.here hx rfl (hb hby at_45) rfl (by decide) ?_
    show Steps p.tables e below (T1.setTop (mkF m 46 #[.val (.long q0), .second, .val (.int p1), .val (.ref b_1), .val (.int kk), .val (.int low), .unset] [(.int (((low * (31 : Int32)) + kk) - (((low * (31 : Int32)) + kk) / (256 : Int32)) * (256 : Int32)))])) _
    refine XS.istore X1.here hx rfl (hb hby at_46) rfl (l' := #[.val (.long q0), .second, .val (.int p1), .val (.ref b_1), .val (.int kk), .val (.int low), .val (.int (((low * (31 : Int32)) + kk) - (((low * (31 : Int32)) + kk) / (256 : Int32)) * (256 : Int32)))]) rfl ?_
    show Steps p.tables e below (T1.setTop (mkF m 48 #[.val (.long q0), .second, .val (.int p1), .val (.ref b_1), .val (.int kk), .val (.int low), .val (.int (((low * (31 : Int32)) + kk) - (((low * (31 : Int32)) + kk) / (256 : Int32)) * (256 : Int32)))] [])) _
    refine XS.aloadN X1.here hx rfl (hb hby at_48) rfl rfl ?_
    show Steps p.tables e below (T1.setTop (mkF m 49 #[.val (.long q0), .second, .val (.int p1), .val (.ref b_1), .val (.int kk), .val (.int low), .val (.int (((low * (31 : Int32)) + kk) - (((low * (31 : Int32)) + kk) / (256 : Int32)) * (256 : Int32)))] [(.ref b_1)])) _
    refine XS.iload X1.here hx rfl (hb hby at_49) rfl ?_
    show Steps p.tables e below (T1.setTop (mkF m 51 #[.val (.long q0), .second, .val (.int p1), .val (.ref b_1), .val (.int kk), .val (.int low), .val (.int (((low * (31 : Int32)) + kk) - (((low * (31 : Int32)) + kk) / (256 : Int32)) * (256 : Int32)))] [(.int kk), (.ref b_1)])) _
    refine X1.baloadBytes hx (j := kk) (v := (.int (nar .byte (((((q0 * (31 : Int64)) + (kk.toInt64)).toInt32).toInt8.toInt32))))) Ar3.1 (State.isArrayOf_alike hZ.alike Ar3.2.1) Ar3.2.2 hin3 hat3 (g := (mkF m 51 #[.val (.long q0), .second, .val (.int p1), .val (.ref b_1), .val (.int kk), .val (.int low), .val (.int (((low * (31 : Int32)) + kk) - (((low * (31 : Int32)) + kk) / (256 : Int32)) * (256 : Int32)))] [(.int kk), (.ref b_1)])) rfl rfl (hb hby at_51) _ ?_
    show Steps p.tables e below (T1.setTop (mkF m 52 #[.val (.long q0), .second, .val (.int p1), .val (.ref b_1), .val (.int kk), .val (.int low), .val (.int (((low * (31 : Int32)) + kk) - (((low * (31 : Int32)) + kk) / (256 : Int32)) * (256 : Int32)))] [(.int (nar .byte (((((q0 * (31 : Int64)) + (kk.toInt64)).toInt32).toInt8.toInt32))))])) _
    refine XS.sipush X1.here hx rfl (hb hby at_52) ?_
    show Steps p.tables e below (T1.setTop (mkF m 55 #[.val (.long q0), .second, .val (.int p1), .val (.ref b_1), .val (.int kk), .val (.int low), .val (.int (((low * (31 : Int32)) + kk) - (((low * (31 : Int32)) + kk) / (256 : Int32)) * (256 : Int32)))] [(.int (255 : Int32)), (.int (nar .byte (((((q0 * (31 : Int64)) + (kk.toInt64)).toInt32).toInt8.toInt32))))])) _
    refine XS.iand X1.here hx rfl (hb hby at_55) rfl ?_
    show Steps p.tables e below (T1.setTop (mkF m 56 #[.val (.long q0), .second, .val (.int p1), .val (.ref b_1), .val (.int kk), .val (.int low), .val (.int (((low * (31 : Int32)) + kk) - (((low * (31 : Int32)) + kk) / (256 : Int32)) * (256 : Int32)))] [(.int ((nar .byte (((((q0 * (31 : Int64)) + (kk.toInt64)).toInt32).toInt8.toInt32))) &&& (255 : Int32)))])) _
    refine XS.iload X1.here hx rfl (hb hby at_56) rfl ?_
    show Steps p.tables e below (T1.setTop (mkF m 58 #[.val (.long q0), .second, .val (.int p1), .val (.ref b_1), .val (.int kk), .val (.int low), .val (.int (((low * (31 : Int32)) + kk) - (((low * (31 : Int32)) + kk) / (256 : Int32)) * (256 : Int32)))] [(.int (((low * (31 : Int32)) + kk) - (((low * (31 : Int32)) + kk) / (256 : Int32)) * (256 : Int32))), (.int ((nar .byte (((((q0 * (31 : Int64)) + (kk.toInt64)).toInt32).toInt8.toInt32))) &&& (255 : Int32)))])) _
    refine XS.icmpNo X1.here hx rfl (hb hby at_58) rfl (teq hc58_4).2 ?_
    show Steps p.tables e below (T1.setTop (mkF m 61 #[.val (.long q0), .second, .val (.int p1), .val (.ref b_1), .val (.int kk), .val (.int low), .val (.int (((low * (31 : Int32)) + kk) - (((low * (31 : Int32)) + kk) / (256 : Int32)) * (256 : Int32)))] [])) _
    refine XS.iconst X1.here hx rfl (hb hby at_61) ?_
    show Steps p.tables e below (T1.setTop (mkF m 62 #[.val (.long q0), .second, .val (.int p1), .val (.ref b_1), .val (.int kk), .val (.int low), .val (.int (((low * (31 : Int32)) + kk) - (((low * (31 : Int32)) + kk) / (256 : Int32)) * (256 : Int32)))] [(.int (1 : Int32))])) _
    refine XS.goto X1.here hx rfl (pc0 := 62) (pc' := 66) rfl (hb hby at_62) (by decide) (by decide) ?_
    show Steps p.tables e below (T1.setTop (mkF m 66 #[.val (.long q0), .second, .val (.int p1), .val (.ref b_1), .val (.int kk), .val (.int low), .val (.int (((low * (31 : Int32)) + kk) - (((low * (31 : Int32)) + kk) / (256 : Int32)) * (256 : Int32)))] [(.int (1 : Int32))])) _
    exact retN X1 hx (t := .boolean) Bd.returns (by simp) (hb hby at_66) hr
  · show Q0 Z q0 p1 h0 n0 _ T1.heap _
    exact ⟨rfl, N1⟩
set_option maxRecDepth 65536 in
set_option maxHeartbeats 40000000 in
theorem comes_1 {Post : Tables → Env → Array Value → State → Outcome → State → Prop} (hpost : ∀ tb e args s v u, (limb_1_1.after args s (.returned v) u = true ∧ limb_1_2.after args s (.returned v) u = true ∧ True) → FrameEnd s (.returned v) u (Jvm.fieldLocs frame_1_writes args s ++ Jvm.arrayLocs frame_1_arrays args s ++ Jvm.staticLocs frame_1_statics s) 16 4160 → Post tb e args s (.returned v) u) :
    ArmFor flags0 classFile x code maxLocals ret World_1 tables_1 room_1 Calls_1 rest_1 Pre_1 Post := by
  intro l hfl _ _ p e ha hc hk s m args below hf hA hF happ hP
  obtain ⟨hcalls, hrest, hpre⟩ := hP
  obtain ⟨-, -, -, hnamed, -, -, -, hat⟩ := (Spec.applies_iff hf).mp happ
  obtain ⟨hg, hn⟩ := and_e (Cond.before_iff.mp (show (Jvm.Cond.and given_1 narrow_1).before args s = true from hpre))
  obtain ⟨g1, g2⟩ := and_e hg
  obtain ⟨g3, g4⟩ := and_e g2
  obtain ⟨w0, w1, rfl⟩ : ∃ w0 w1 : Value, args = #[w0, w1] := by
    have hs : args.size = 2 := by simpa [Cond.value, given_1] using g1
    obtain ⟨L⟩ := args
    match L, hs with
    | [w0, w1], _ => exact ⟨w0, w1, rfl⟩
  have hw := fun d (hd : d ∈ tables_1) => atoms_spec (ws := Jvm.Cond.code x code maxLocals ret :: tables_1) hat d (List.mem_cons_of_mem _ hd)
  have hfit : Fit s := fun {y c} hc i hi => by
    obtain ⟨ha, rfl⟩ := Array.getElem?_eq_some_iff.mp hc
    have q := List.all_eq_true.mp ((Array.all_eq_true_iff_forall_mem.mp hF) _ (Array.getElem_mem ha)) i (List.mem_range.mpr hi)
    simpa [Array.getElem?_eq_getElem hi] using q
  obtain ⟨i0, ei0⟩ := isL_v g3
  obtain rfl : w0 = (.long i0) := Option.some.inj ei0
  obtain ⟨i1, ei1⟩ := is_v g4
  obtain rfl : w1 = (.int i1) := Option.some.inj ei1
  obtain ⟨n, o, h1, h2, h3, _, L, rfl, ⟨rfl, N⟩, hq⟩ := rm0 l s _ hw tables_1 i0 i1 s.heap s.heap.size (Nat.le_refl _) p e ha hc hk s m _ below hf ((Spec.applies_iff_loose hf).mp happ).1 ⟨rfl, State.Warmed39.refl s, rfl⟩ trivial
  refine ⟨n, _, h1, h2, h3, hpost _ _ _ _ _ _ ⟨Cond.after_iff.mpr rfl, Cond.after_iff.mpr (eq_i res_at (Term.int_eval (1)) rfl), trivial⟩ ⟨hq.1, hq.2.1, (hq.2.2.sift fun y hy => Or.inr (N y hy)).mono (by decide) (by decide)⟩⟩
theorem main_1_1 : Claimed_1_1 := comes_1 fun _ _ _ _ _ _ h hF => ⟨h.1, hF⟩
theorem main_1_2 : Claimed_1_2 := comes_1 fun _ _ _ _ _ _ h hF => ⟨h.2.1, hF⟩
end Jvm.Pilot.@@N@@
namespace Jvm.Pilot.@@N@@
open Jvm Jvm.ClassFile Sem Op Lib Jvm.Free Jvm.Stand Jvm.Pilot.@@N@@.Jvm.D
/-! MADE BY PROGRAM (witnessworld.py) out of the Statement's table words and the real class files: 9 classes; the members and pool entries that the words name. The judged class is class 1, her method 1. -/
namespace start1
open Jvm.ClassFile
def u (s : String) : CpInfo := .utf8 (stringToUtf16 s)
/-- a pool by its gaps: so many unusable entries, then the entry; so many at the end -/
def gap : Nat → List CpInfo → List CpInfo
  | 0, r => r
  | n + 1, r => .unusable :: gap n r
def poolList (es : List (Nat × CpInfo)) (last : Nat) : List CpInfo := es.foldr (fun e r => gap e.1 (e.2 :: r)) (gap last [])
def pool (es : List (Nat × CpInfo)) (last : Nat) : Array CpInfo := ⟨poolList es last⟩
def fileOf (pool : Array CpInfo) (this : Nat) (attrs : Array Attribute := #[]) (ms : Array MethodInfo := #[]) (fl : Nat := 33) (sup : Nat := 0) (ifs : Array Nat := #[]) (fds : Array FieldInfo := #[]) : ClassFile where
  minorVersion := 0
  majorVersion := 65
  constantPool := pool
  accessFlags := fl
  thisClass := this
  superClass := sup
  interfaces := ifs
  fields := fds
  methods := ms
  attributes := attrs
def plain (name : String) (sup : Option ClassId) : Class where
  name := name
  kind := .ordinary
  loader := none
  accessFlags := 33
  super := sup
  interfaces := #[]
  cf := none
  fields := #[]
  methods := #[]
  instanceTypes := #[]
  staticTypes := #[]
  resolved := #[]
  callSites := []
  init := .initialized
  statics := none
  mirror := none

def pool0 : Array CpInfo := pool [(5, u "<init>"), (0, u "()V"), (1, .class_ 10), (1, u "java/lang/Object")] 113

def k0m0 : Method := { name := "<init>", desc := "()V", sig := { parameters := [], returnType := none }, accessFlags := 1, code := none }
/-- java/lang/Object -/
def k0 : Class := { plain "java/lang/Object" none with
  accessFlags := 33
  interfaces := #[]
  cf := some (fileOf pool0 8 #[] #[{ accessFlags := 1, nameIndex := 5, descriptorIndex := 6, attributes := #[] }] 33 0 #[] #[])
  fields := #[]
  methods := #[k0m0]
  instanceTypes := #[]
  staticTypes := #[]
  resolved := Array.replicate 124 none
  statics := none }

def pool1 : Array CpInfo := pool [(2, .class_ 4), (1, u "java/lang/Object"), (0, u "<init>"), (0, u "()V"), (0, .methodref 8 9), (0, .class_ 10), (0, .nameAndType 11 12), (0, u "com/example/fallow/fallow/PersonSet"), (0, u "image"), (0, u "(J)[B"), (0, .long 255), (1, .class_ 16), (0, u "com/example/fallow/fallow/PersonSetImagePinLaw"), (2, u "law"), (0, u "(JI)Z")] 5

def k1m0 : Method := { name := "<init>", desc := "()V", sig := { parameters := [], returnType := none }, accessFlags := 2, code := none }
def k1c1 : Code := { maxStack := 4, maxLocals := 7, code := code, exceptionTable := #[], attributes := #[] }
def k1m1 : Method := { name := "law", desc := "(JI)Z", sig := { parameters := [.long, .int], returnType := some .boolean }, accessFlags := 9, code := some k1c1 }
/-- com/example/fallow/fallow/PersonSetImagePinLaw -/
def k1 : Class := { plain "com/example/fallow/fallow/PersonSetImagePinLaw" (some 0) with
  accessFlags := 49
  interfaces := #[]
  cf := some (fileOf pool1 15 #[] #[{ accessFlags := 2, nameIndex := 5, descriptorIndex := 6, attributes := #[] }, { accessFlags := 9, nameIndex := 19, descriptorIndex := 20, attributes := #[] }] 49 2 #[] #[])
  fields := #[]
  methods := #[k1m0, k1m1]
  instanceTypes := #[]
  staticTypes := #[]
  resolved := Array.replicate 26 none
  statics := none }

def pool2 : Array CpInfo := pool [(1, .class_ 2), (0, u "com/example/fallow/fallow/PersonSet"), (1, .class_ 6), (1, u "java/lang/Object"), (0, u "<init>"), (0, u "()V"), (12, u "image"), (0, u "(J)[B"), (59, .long 31), (1, u "IMAGE_BYTES"), (0, u "I"), (2, u "NAME_DIGITS"), (1, u "NAME_FORMAT"), (0, u "Ljava/lang/String;"), (0, u "BASE_SALARY"), (0, u "J"), (0, u "SALARY_PER_YEAR"), (0, u "SALARY_SPREAD_FACTOR"), (0, u "SALARY_SPREAD"), (0, u "AGES"), (0, u "X_VALUES"), (0, u "GAMMA")] 9

def k2m0 : Method := { name := "<init>", desc := "()V", sig := { parameters := [], returnType := none }, accessFlags := 2, code := none }
def k2c1 : Code := { maxStack := 6, maxLocals := 4, code := prog_66_method_7_code, exceptionTable := #[], attributes := #[] }
def k2m1 : Method := { name := "image", desc := "(J)[B", sig := { parameters := [.long], returnType := some (.array .byte) }, accessFlags := 8, code := some k2c1 }
/-- com/example/fallow/fallow/PersonSet -/
def k2 : Class := { plain "com/example/fallow/fallow/PersonSet" (some 0) with
  accessFlags := 48
  interfaces := #[]
  cf := some (fileOf pool2 1 #[] #[{ accessFlags := 2, nameIndex := 7, descriptorIndex := 8, attributes := #[] }, { accessFlags := 8, nameIndex := 21, descriptorIndex := 22, attributes := #[] }] 48 4 #[] #[{ accessFlags := 24, nameIndex := 84, descriptorIndex := 85, attributes := #[] }, { accessFlags := 24, nameIndex := 88, descriptorIndex := 85, attributes := #[] }, { accessFlags := 26, nameIndex := 90, descriptorIndex := 91, attributes := #[] }, { accessFlags := 26, nameIndex := 92, descriptorIndex := 93, attributes := #[] }, { accessFlags := 26, nameIndex := 94, descriptorIndex := 93, attributes := #[] }, { accessFlags := 26, nameIndex := 95, descriptorIndex := 93, attributes := #[] }, { accessFlags := 26, nameIndex := 96, descriptorIndex := 93, attributes := #[] }, { accessFlags := 26, nameIndex := 97, descriptorIndex := 93, attributes := #[] }, { accessFlags := 26, nameIndex := 98, descriptorIndex := 93, attributes := #[] }, { accessFlags := 26, nameIndex := 99, descriptorIndex := 93, attributes := #[] }])
  fields := #[{ name := "IMAGE_BYTES", type := .int, accessFlags := 24, slot := 0, constantValue := 0 }, { name := "NAME_DIGITS", type := .int, accessFlags := 24, slot := 1, constantValue := 0 }, { name := "NAME_FORMAT", type := (.object "java/lang/String"), accessFlags := 26, slot := 2, constantValue := 0 }, { name := "BASE_SALARY", type := .long, accessFlags := 26, slot := 3, constantValue := 0 }, { name := "SALARY_PER_YEAR", type := .long, accessFlags := 26, slot := 4, constantValue := 0 }, { name := "SALARY_SPREAD_FACTOR", type := .long, accessFlags := 26, slot := 5, constantValue := 0 }, { name := "SALARY_SPREAD", type := .long, accessFlags := 26, slot := 6, constantValue := 0 }, { name := "AGES", type := .long, accessFlags := 26, slot := 7, constantValue := 0 }, { name := "X_VALUES", type := .long, accessFlags := 26, slot := 8, constantValue := 0 }, { name := "GAMMA", type := .long, accessFlags := 26, slot := 9, constantValue := 0 }]
  methods := #[k2m0, k2m1]
  instanceTypes := #[]
  staticTypes := #[.int, .int, (.object "java/lang/String"), .long, .long, .long, .long, .long, .long, .long]
  resolved := Array.replicate 109 none
  statics := none }

def pool3 : Array CpInfo := pool [(1, u "java/lang/Cloneable"), (0, .class_ 1), (0, u "java/lang/Object"), (0, .class_ 3)] 3

/-- java/lang/Cloneable -/
def k3 : Class := { plain "java/lang/Cloneable" (some 0) with
  accessFlags := 1537
  interfaces := #[]
  cf := some (fileOf pool3 2 #[] #[] 1537 4 #[] #[])
  fields := #[]
  methods := #[]
  instanceTypes := #[]
  staticTypes := #[]
  resolved := Array.replicate 8 none
  statics := none }

def pool4 : Array CpInfo := pool [(1, u "java/io/Serializable"), (0, .class_ 1), (0, u "java/lang/Object"), (0, .class_ 3)] 3

/-- java/io/Serializable -/
def k4 : Class := { plain "java/io/Serializable" (some 0) with
  accessFlags := 1537
  interfaces := #[]
  cf := some (fileOf pool4 2 #[] #[] 1537 4 #[] #[])
  fields := #[]
  methods := #[]
  instanceTypes := #[]
  staticTypes := #[]
  resolved := Array.replicate 8 none
  statics := none }

/-- the primitive byte -/
def k5 : Class := { plain "byte" none with kind := .primitive 'B', accessFlags := 0x411 }
/-- [B -/
def k6 : Class := { plain "[B" (some 0) with kind := .array 5 .byte, interfaces := #[3, 4], accessFlags := 1041 }

/-- the primitive int -/
def k7 : Class := { plain "int" none with kind := .primitive 'I', accessFlags := 0x411 }
/-- [I -/
def k8 : Class := { plain "[I" (some 0) with kind := .array 7 .int, interfaces := #[3, 4], accessFlags := 1041 }

def heap : Heap := #[]
def classes : Array Class := #[k0, k1, k2, k3, k4, k5, k6, k7, k8]
def interned : List (Array UInt16 × Addr) := []
def slotsUsed : Nat := 0
def theMethod : MethodId := ⟨1, 1⟩
def args0 : Array Value := #[.long 5, .int 7]
def aboutOver (below : List Frame) : State where
  vm := { classes := classes, interned := interned.toArray }
  heap := heap
  slotsUsed := slotsUsed
  threads := #[{ frames := .invoking theMethod args0 :: below }]
def below0 : List Frame := [.native { method := ⟨0, 0⟩, args := #[] }]
def about1 : State := aboutOver below0
def p0 : Program := .bare "" "" ""
def e0 : Env := launch0.env 0 0 0
theorem w_frames : about1.frames = Frame.invoking theMethod args0 :: below0 := rfl
set_option maxRecDepth 65536 in
theorem w_args : argsFit about1.vm theMethod args0 = true := by decide +kernel
set_option maxRecDepth 65536 in
theorem w_heap : heapFits about1 = true := by decide +kernel
set_option maxRecDepth 65536 in
theorem w_runnable : about1.curStatus? = some .runnable := by decide +kernel
set_option maxRecDepth 65536 in
theorem w_alone : about1.alone = true := by decide +kernel
set_option maxRecDepth 65536 in
theorem w_named : about1.methodNamed? x = some theMethod := by decide +kernel
set_option maxRecDepth 65536 in
theorem w_hears : about1.hears theMethod below0 = true := by decide +kernel
set_option maxRecDepth 65536 in
theorem w_ripe : about1.ripe theMethod args0 below0 = true := by decide +kernel
theorem w_running : about1.status = .running := rfl
set_option maxRecDepth 65536 in
theorem w_room : about1.hasRoom e0.platform room_1 = true :=
  launch0.hasRoom_least _ room_1 (by decide +kernel) (by decide +kernel) (by decide +kernel) (by decide +kernel) (by decide +kernel) (by decide +kernel)
theorem allAtoms_all (ts : List Jvm.Cond) (a : Array Jvm.Value) (st : Jvm.State) : (allAtoms ts).before a st = ts.all (fun c => c.before a st) := by
  induction ts with
  | nil => rfl
  | cons c t ih =>
    show (Jvm.Cond.and c (allAtoms t)).before a st = _
    rw [Jvm.Cond.before_and, ih, List.all_cons]
def words1 : List Jvm.Cond := Jvm.Cond.code x code maxLocals ret :: tables_1
/-- a 'code' word, met by the world's own term for the bytes: nothing is compared byte by byte -/
theorem code_word {y : MethodName} {bytes : ByteArray} {mx : Nat} {rt : Option FieldType} {a : Array Value} {s : State} {m : MethodId} {meth : Method} {c : Code} (h1 : s.methodNamed? y = some m) (h2 : s.vm.method? m = some meth) (h3 : meth.code = some c) (h4 : c.code = bytes)
    (h5 : (c.maxLocals == mx && c.exceptionTable.isEmpty && decide (c.maxStack ≤ mostOperands) && decide (meth.sig.returnType = rt) && !meth.locks && decide (parseMethodDescriptor y.desc = some meth.sig)) = true) : (Jvm.Cond.code y bytes mx rt).before a s = true := by
  simp only [Bool.and_eq_true, beq_iff_eq, Bool.not_eq_true', decide_eq_true_eq] at h5
  obtain ⟨⟨⟨⟨⟨g1, g2⟩, g3⟩, g4⟩, g5⟩, g6⟩ := h5
  simp [Cond.before, Cond.holds, Cond.value, h1, h2, h3, h4, g1, g2, g3, g4, g5, g6]
def isCode : Jvm.Cond → Bool
  | .code _ _ _ _ => true
  | _ => false
theorem all_split {L : List Jvm.Cond} {P : Jvm.Cond → Bool} (h1 : L.all (fun c => isCode c || P c) = true) (h2 : ∀ c ∈ L.filter isCode, P c = true) : L.all P = true := by
  refine List.all_eq_true.mpr fun c hc => ?_
  have h := List.all_eq_true.mp h1 c hc
  rcases Bool.eq_false_or_eq_true (isCode c) with hi | hi
  · exact h2 c (List.mem_filter.mpr ⟨hc, hi⟩)
  · simpa [hi] using h
set_option maxRecDepth 65536 in
theorem w_c0 : (Jvm.Cond.code x code maxLocals ret).before args0 about1 = true := code_word (m := ⟨1, 1⟩) (meth := k1m1) (c := k1c1) (by decide +kernel) rfl rfl rfl (by decide +kernel)
set_option maxRecDepth 65536 in
theorem w_c1 : (Jvm.Cond.code ({ cls := "com/example/fallow/fallow/PersonSet", name := "image", desc := "(J)[B" } : Jvm.MethodName) prog_66_method_7_code (4 : Nat) (Option.some (Jvm.ClassFile.FieldType.array Jvm.ClassFile.FieldType.byte))).before args0 about1 = true := code_word (m := ⟨2, 1⟩) (meth := k2m1) (c := k2c1) (by decide +kernel) rfl rfl rfl (by decide +kernel)
def codes1 : List Jvm.Cond := [Jvm.Cond.code x code maxLocals ret, Jvm.Cond.code ({ cls := "com/example/fallow/fallow/PersonSet", name := "image", desc := "(J)[B" } : Jvm.MethodName) prog_66_method_7_code (4 : Nat) (Option.some (Jvm.ClassFile.FieldType.array Jvm.ClassFile.FieldType.byte))]
set_option maxRecDepth 65536 in
theorem codes_eq : words1.filter isCode = codes1 := rfl
theorem w_codes : ∀ c ∈ words1.filter isCode, c.before args0 about1 = true := by
  rw [codes_eq]
  intro c hc
  simp only [codes1, List.mem_cons, List.not_mem_nil, or_false] at hc
  rcases hc with rfl | rfl
  · exact w_c0
  · exact w_c1
set_option maxRecDepth 65536 in
theorem w_t1 : words1.all (fun c => isCode c || c.before args0 about1) = true := by decide +kernel
theorem w_tables : (allAtoms (Jvm.Cond.code x code maxLocals ret :: tables_1)).before args0 about1 = true := by
  rw [allAtoms_all]
  show words1.all (fun c => c.before args0 about1) = true
  refine all_split ?_ w_codes
  rw [w_t1]
set_option maxRecDepth 65536 in
theorem w_case : (Jvm.Cond.and given_1 narrow_1).before args0 about1 = true := by decide +kernel
theorem w_applies : (headSpec (Jvm.Cond.code x code maxLocals ret :: tables_1) room_1).applies x e0.platform about1 = true :=
  (Spec.applies_iff w_frames).mpr ⟨w_running, w_runnable, w_alone, w_named, w_hears, w_ripe, w_room, w_tables⟩
theorem atStart : AtStart classFile x code maxLocals ret World_1 tables_1 room_1 Calls_1 rest_1 Pre_1 launch0 p0 e0 about1 theMethod args0 below0 :=
  ⟨lists_1, trivial, launch0.admits_env _ _ _, launch0.least_env, fairChoices_fair.cas, fairChoices_fair.clock, w_frames, w_args, w_heap, w_applies, trivial, trivial, w_case⟩
end start1
theorem witness_1 : WitnessClaimed_1 := ⟨start1.p0, start1.e0, start1.about1, start1.theMethod, start1.args0, start1.below0, start1.atStart⟩
end Jvm.Pilot.@@N@@
