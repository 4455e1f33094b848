import JvmDerived
import JvmDerived.Pilot.@@N@@Statement
import JvmDerived.Pilot.@@N@@Code
set_option linter.unusedVariables false
set_option linter.unusedSimpArgs false
namespace Jvm.RoadKit
open Sem ClassFile Op Lib Jvm.Stand Jvm.Free Jvm.LawKit
section New
variable {p : Program} {l : Launch} {e : Env} {R : Room} {s : State} {m : MethodId} {args : Array Value} {below : List Frame} {meth : Method} {c : Code} {T : State} {locs : List Loc} {cells slots : Nat}
theorem retI (X : Stand p l e R s m args below meth c T locs cells slots) (hx : p.tables.exec = Jvm.exec) {pc : Nat} {Ls : Array Slot} {z : Int32} {rest : List Value} (hret : meth.sig.returnType = some .int) (hd : decode c.code pc = .ok (.ireturn, 1)) {fs : List Frame}
    (hl : ∀ (f : JFrame) (acts : List Action), f.method = m → f.locked = none → f.entered = [] → (doReturn e (T.setTop f) acts (some (.int z))).1 = T.setFrames fs) : Steps p.tables e below (T.setTop (mkF m pc Ls (.int z :: rest))) (T.setFrames fs) := by
  have hm' : T.vm.method? m = some meth := X.method'
  have hn : narrow .int (.int z) = .int z := rfl
  show Steps p.tables e below (T.setTop { method := m, pc := pc, locals := Ls, stack := _ :: rest, locked := none }) _
  jvm_step X.here [X.here.top, hx, hd, hm', hret, hn]
  first | (intro acts; rw [hl _ acts rfl rfl rfl]) | rw [hl _ _ rfl rfl rfl]
  exact Steps.refl _
end New
end Jvm.RoadKit
namespace Jvm.Pilot.@@N@@
open Jvm Jvm.ClassFile Sem Op Lib Jvm.Free Jvm.Stand Jvm.LawKit Jvm.RoadKit Bundle Jvm.Pilot.@@N@@.Jvm.D
theorem own_b10n {P : Prop} [Decidable P] (h : P) : ¬ (if P then (1 : Int32) else 0) = 0 := by rw [if_pos h]; decide
theorem own_b10z {P : Prop} [Decidable P] (h : ¬ P) : (if P then (1 : Int32) else 0) = 0 := if_neg h
theorem own_b01z {P : Prop} [Decidable P] (h : P) : (if P then (0 : Int32) else 1) = 0 := if_pos h
theorem own_b01n {P : Prop} [Decidable P] (h : ¬ P) : ¬ (if P then (0 : Int32) else 1) = 0 := by rw [if_neg h]; decide
theorem own_nb10 {P : Prop} [Decidable P] : nar .boolean (if P then (1 : Int32) else 0) = (if P then (1 : Int32) else 0) := by by_cases h : P <;> simp [h, nar]
theorem own_nb01 {P : Prop} [Decidable P] : nar .boolean (if P then (0 : Int32) else 1) = (if P then (0 : Int32) else 1) := by by_cases h : P <;> simp [h, nar]
theorem own_selP {Z s : State} {a0 args : Array Value} {y : MethodName} {n : Nat} (hZ : Z.Warmed39 s.vm) (wi : (Jvm.Cond.instantiable y.cls n).before a0 Z = true) (wp : (Jvm.Cond.privateMethod y).before a0 Z = true) (wm : (Jvm.Cond.instanceMethod y).before a0 Z = true)
    (hy : y.cls ≠ "java/lang/invoke/MethodHandle" ∧ y.cls ≠ "java/lang/invoke/VarHandle") : (Jvm.Cond.selects y.cls y y).before args s = true := by
  obtain ⟨c, k, hc, hk, -, hf, -⟩ := Cond.instantiable_spec (mv hZ wi (args := args))
  have hi : k.isInterface = false := by
    cases q : k.isInterface
    · rfl
    · simp [q] at hf
  exact Jvm.Stand.selects_self_of_private hc hk hi (Cond.privateMethod_at (mvP hZ wp (args := args))) (mv hZ wm) hy
theorem own_one (i : Nat) : Int32.ofNat i + (1 : Int32) = Int32.ofNat (i + 1) := (Int32.ofNat_add i 1).symm
def own_list (g : Nat → Value) (i : Nat) : List Value := (List.range i).map g
theorem own_len (g : Nat → Value) (i : Nat) : (own_list g i).length = i := by simp [own_list]
theorem own_at (g : Nat → Value) {i j : Nat} (h : j < i) (d : Value) : (own_list g i).getD j d = g j := by simp [own_list, List.getD_eq_getElem?_getD, h]
theorem own_setl (g : Nat → Value) (i : Nat) (x : Value) : (own_list g i ++ [x]).set i (g i) = own_list g (i + 1) := by
  have h := own_len g i
  have e : (own_list g i ++ [x]).set (own_list g i).length (g i) = own_list g i ++ [g i] := by simp
  rw [h] at e
  rw [e]; simp [own_list, List.range_succ]
theorem own_il {i : Nat} (h : i < 2147483648) : (Int32.ofNat i).toInt = i := Int32.toInt_ofNat_of_lt h
theorem own_in {i : Nat} (h : i < 2147483648) : ¬ Int32.ofNat i < 0 := by
  rw [Int32.lt_iff_toInt_lt, own_il h, show (0 : Int32).toInt = 0 from rfl]; omega
theorem own_ic {i : Nat} (h : i < 2147483648) : (Int32.ofNat i).toNatClampNeg = i := by
  rw [Int32.toNatClampNeg, own_il h]; rfl
section OwnDia
variable {tb : Tables} [Ours tb] {e : Env} {below : List Frame} {T target : State} {m : MethodId} {c : Code} {g : JFrame}
/-- a boolean written out: if .. goto the 0; 1; goto behind; 0 -/
theorem own_dia (h : At T m c below) (hx : tb.exec = Jvm.exec) (hg : g.method = m) {pc0 : Nat} {P : Prop} [Decidable P] {u w : Int32} {rest : List Value} (huw : u = 0 ∧ w = 1 ∨ u = 1 ∧ w = 0)
    (hd1 : decode c.code (pc0 + 3) = .ok (.iconst 1, 1)) (hd2 : decode c.code (pc0 + 4) = .ok (.goto 4, 3)) (hd3 : decode c.code (pc0 + 7) = .ok (.iconst 0, 1))
    (s1 : ∀ t, (P ∧ u = 0 ∨ ¬ P ∧ w = 0) → Steps tb e below (T.setTop { g with pc := pc0 + 7, stack := rest }) t → Steps tb e below (T.setTop g) t)
    (s2 : ∀ t, (P ∧ u = 1 ∨ ¬ P ∧ w = 1) → Steps tb e below (T.setTop { g with pc := pc0 + 3, stack := rest }) t → Steps tb e below (T.setTop g) t)
    (hr : Steps tb e below (T.setTop { g with pc := pc0 + 8, stack := .int (if P then u else w) :: rest }) target) : Steps tb e below (T.setTop g) target := by
  have z : (if P then u else w) = 0 → (P ∧ u = 0 ∨ ¬ P ∧ w = 0) := fun q => by
    by_cases hp : P
    · rw [if_pos hp] at q; exact Or.inl ⟨hp, q⟩
    · rw [if_neg hp] at q; exact Or.inr ⟨hp, q⟩
  have o : (if P then u else w) = 1 → (P ∧ u = 1 ∨ ¬ P ∧ w = 1) := fun q => by
    by_cases hp : P
    · rw [if_pos hp] at q; exact Or.inl ⟨hp, q⟩
    · rw [if_neg hp] at q; exact Or.inr ⟨hp, q⟩
  have b : (if P then u else w) = 0 ∨ (if P then u else w) = 1 := by
    rcases huw with ⟨rfl, rfl⟩ | ⟨rfl, rfl⟩ <;> by_cases hp : P <;> simp [hp]
  rcases b with q | q
  · refine s1 _ (z q) ?_
    refine Free.XS.iconst h hx hg hd3 ?_
    rw [q] at hr
    exact hr
  · refine s2 _ (o q) ?_
    refine Free.XS.iconst h hx hg hd1 ?_
    refine Free.XS.goto h hx hg (pc0 := pc0 + 4) (pc' := pc0 + 8) rfl hd2 (by omega) (by omega) ?_
    rw [q] at hr
    exact hr
theorem own_diaT (h : At T m c below) (hx : tb.exec = Jvm.exec) (hg : g.method = m) {pc0 : Nat} (hpc : g.pc = pc0) {P : Prop} [Decidable P] {cd : ClassFile.Cond} {x : Int32} {rest : List Value}
    (hd0 : decode c.code pc0 = .ok (.ifCond cd 7, 3)) (hd1 : decode c.code (pc0 + 3) = .ok (.iconst 1, 1)) (hd2 : decode c.code (pc0 + 4) = .ok (.goto 4, 3)) (hd3 : decode c.code (pc0 + 7) = .ok (.iconst 0, 1))
    (hs : g.stack = .int x :: rest) (hy : P → ifCond.holds cd x = true) (hn : ¬ P → ifCond.holds cd x = false)
    (hr : Steps tb e below (T.setTop { g with pc := pc0 + 8, stack := .int (if P then (0 : Int32) else 1) :: rest }) target) : Steps tb e below (T.setTop g) target := by
  subst hpc
  refine own_dia h hx hg (P := P) (u := 0) (w := 1) (rest := rest) (Or.inl ⟨rfl, rfl⟩) hd1 hd2 hd3 (fun t q k => ?_) (fun t q k => ?_) hr
  · have hp : P := q.elim (·.1) fun z => absurd z.2 (by decide)
    exact Free.XS.ifYes h hx hg (pc' := g.pc + 7) rfl hd0 hs (hy hp) (by omega) (by omega) k
  · have hp : ¬ P := q.elim (fun z => absurd z.2 (by decide)) (·.1)
    exact Free.XS.ifNo h hx hg hd0 hs (hn hp) k
theorem own_diaF (h : At T m c below) (hx : tb.exec = Jvm.exec) (hg : g.method = m) {pc0 : Nat} (hpc : g.pc = pc0) {P : Prop} [Decidable P] {cd : ClassFile.Cond} {x : Int32} {rest : List Value}
    (hd0 : decode c.code pc0 = .ok (.ifCond cd 7, 3)) (hd1 : decode c.code (pc0 + 3) = .ok (.iconst 1, 1)) (hd2 : decode c.code (pc0 + 4) = .ok (.goto 4, 3)) (hd3 : decode c.code (pc0 + 7) = .ok (.iconst 0, 1))
    (hs : g.stack = .int x :: rest) (hy : P → ifCond.holds cd x = false) (hn : ¬ P → ifCond.holds cd x = true)
    (hr : Steps tb e below (T.setTop { g with pc := pc0 + 8, stack := .int (if P then (1 : Int32) else 0) :: rest }) target) : Steps tb e below (T.setTop g) target := by
  subst hpc
  refine own_dia h hx hg (P := P) (u := 1) (w := 0) (rest := rest) (Or.inr ⟨rfl, rfl⟩) hd1 hd2 hd3 (fun t q k => ?_) (fun t q k => ?_) hr
  · have hp : ¬ P := q.elim (fun z => absurd z.2 (by decide)) (·.1)
    exact Free.XS.ifYes h hx hg (pc' := g.pc + 7) rfl hd0 hs (hn hp) (by omega) (by omega) k
  · have hp : P := q.elim (·.1) fun z => absurd z.2 (by decide)
    exact Free.XS.ifNo h hx hg hd0 hs (hy hp) k
theorem own_diaT2 (h : At T m c below) (hx : tb.exec = Jvm.exec) (hg : g.method = m) {pc0 : Nat} (hpc : g.pc = pc0) {P : Prop} [Decidable P] {cd : ClassFile.Cond} {x y : Int32} {rest : List Value}
    (hd0 : decode c.code pc0 = .ok (.if_icmp cd 7, 3)) (hd1 : decode c.code (pc0 + 3) = .ok (.iconst 1, 1)) (hd2 : decode c.code (pc0 + 4) = .ok (.goto 4, 3)) (hd3 : decode c.code (pc0 + 7) = .ok (.iconst 0, 1))
    (hs : g.stack = .int y :: .int x :: rest) (hy : P → if_icmp.holds cd x y = true) (hn : ¬ P → if_icmp.holds cd x y = false)
    (hr : Steps tb e below (T.setTop { g with pc := pc0 + 8, stack := .int (if P then (0 : Int32) else 1) :: rest }) target) : Steps tb e below (T.setTop g) target := by
  subst hpc
  refine own_dia h hx hg (P := P) (u := 0) (w := 1) (rest := rest) (Or.inl ⟨rfl, rfl⟩) hd1 hd2 hd3 (fun t q k => ?_) (fun t q k => ?_) hr
  · have hp : P := q.elim (·.1) fun z => absurd z.2 (by decide)
    exact Free.XS.icmpYes h hx hg (pc' := g.pc + 7) rfl hd0 hs (hy hp) (by omega) (by omega) k
  · have hp : ¬ P := q.elim (fun z => absurd z.2 (by decide)) (·.1)
    exact Free.XS.icmpNo h hx hg hd0 hs (hn hp) k
theorem own_diaF2 (h : At T m c below) (hx : tb.exec = Jvm.exec) (hg : g.method = m) {pc0 : Nat} (hpc : g.pc = pc0) {P : Prop} [Decidable P] {cd : ClassFile.Cond} {x y : Int32} {rest : List Value}
    (hd0 : decode c.code pc0 = .ok (.if_icmp cd 7, 3)) (hd1 : decode c.code (pc0 + 3) = .ok (.iconst 1, 1)) (hd2 : decode c.code (pc0 + 4) = .ok (.goto 4, 3)) (hd3 : decode c.code (pc0 + 7) = .ok (.iconst 0, 1))
    (hs : g.stack = .int y :: .int x :: rest) (hy : P → if_icmp.holds cd x y = false) (hn : ¬ P → if_icmp.holds cd x y = true)
    (hr : Steps tb e below (T.setTop { g with pc := pc0 + 8, stack := .int (if P then (1 : Int32) else 0) :: rest }) target) : Steps tb e below (T.setTop g) target := by
  subst hpc
  refine own_dia h hx hg (P := P) (u := 1) (w := 0) (rest := rest) (Or.inr ⟨rfl, rfl⟩) hd1 hd2 hd3 (fun t q k => ?_) (fun t q k => ?_) hr
  · have hp : ¬ P := q.elim (fun z => absurd z.2 (by decide)) (·.1)
    exact Free.XS.icmpYes h hx hg (pc' := g.pc + 7) rfl hd0 hs (hn hp) (by omega) (by omega) k
  · have hp : P := q.elim (·.1) fun z => absurd z.2 (by decide)
    exact Free.XS.icmpNo h hx hg hd0 hs (hy hp) k
end OwnDia

theorem own_z32 : (0 : Int32).toInt = 0 := rfl
theorem own_o32 : (1 : Int32).toInt = 1 := rfl
theorem own_z64 : (0 : Int64).toInt = 0 := rfl
theorem own_mk (a : Int32) : 0 ≤ (a &&& (2147483647 : Int32)).toInt := (c_andS a (2147483647 : Int32)).2.2 (by decide)
theorem own_mkL (a : Int64) : 0 ≤ (a &&& (9223372036854775807 : Int64)).toInt := (c_andSL a (9223372036854775807 : Int64)).2.2 (by decide)
theorem own_r32 (x y : Int32) (hx : 0 ≤ x.toInt) (hy : 0 < y.toInt) : 0 ≤ (x - (x / y) * y).toInt ∧ (x - (x / y) * y).toInt < y.toInt := by
  have e := irem_eq_mod x y
  rw [e]
  obtain ⟨a, b, -⟩ := (c_iremV x y).1 hx hy
  exact ⟨a, b⟩
theorem own_r64 (x y : Int64) (hx : 0 ≤ x.toInt) (hy : 0 < y.toInt) : 0 ≤ (x - (x / y) * y).toInt ∧ (x - (x / y) * y).toInt < y.toInt := by
  have h := (c_lrem x y y.toInt rfl).1 hx
  rw [h]
  exact ⟨Int.emod_nonneg _ (by omega), Int.emod_lt_of_pos _ hy⟩
theorem own_e {e a : Int32} (h : e = ((a &&& (2147483647 : Int32)) - ((a &&& (2147483647 : Int32)) / (17 : Int32)) * (17 : Int32))) : 0 ≤ e.toInt ∧ e.toInt < 17 := by
  rw [h]; exact own_r32 _ _ (own_mk a) (by decide)
theorem own_e1 {e : Int32} (h : 0 ≤ e.toInt ∧ e.toInt < 17) : (e + (1 : Int32)).toInt = e.toInt + 1 := by
  have q := c_iadd e 1
  have r := rng32 (e + 1)
  rw [own_o32] at q
  omega
theorem own_nz {e : Int32} (h : 0 ≤ e.toInt ∧ e.toInt < 17) : (e + (1 : Int32)) ≠ 0 := fun q => by
  have r := own_e1 h
  rw [q, own_z32] at r
  omega
theorem own_p {e b w : Int32} (he : 0 ≤ e.toInt ∧ e.toInt < 17) (h : w = ((b &&& (2147483647 : Int32)) - ((b &&& (2147483647 : Int32)) / (e + (1 : Int32))) * (e + (1 : Int32)))) : 0 ≤ w.toInt ∧ w.toInt ≤ e.toInt := by
  have q := own_r32 (b &&& (2147483647 : Int32)) (e + 1) (own_mk b) (by rw [own_e1 he]; omega)
  rw [own_e1 he] at q
  rw [h]; omega
theorem own_l {e w lf : Int32} (he : 0 ≤ e.toInt ∧ e.toInt < 17) (hp : 0 ≤ w.toInt ∧ w.toInt ≤ e.toInt) (h : lf = (e - w)) : lf.toInt = e.toInt - w.toInt := by
  have q := c_isub e w
  have r := rng32 (e - w)
  rw [h]; omega
theorem own_lr {e w lf : Int32} (he : 0 ≤ e.toInt ∧ e.toInt < 17) (hp : 0 ≤ w.toInt ∧ w.toInt ≤ e.toInt) (h : lf = (e - w)) : 0 ≤ lf.toInt ∧ lf.toInt < 17 := by
  have := own_l he hp h
  omega
theorem own_nzL {lf : Int32} (h : 0 ≤ lf.toInt ∧ lf.toInt < 17) : ((lf + (1 : Int32)).toInt64) ≠ 0 := fun q => by
  have r := own_e1 h
  rw [← c_i2l, q, own_z64] at r
  omega
theorem own_k {lf : Int32} {c k : Int64} (hl : 0 ≤ lf.toInt ∧ lf.toInt < 17) (h : k = ((c &&& (9223372036854775807 : Int64)) - ((c &&& (9223372036854775807 : Int64)) / ((lf + (1 : Int32)).toInt64)) * ((lf + (1 : Int32)).toInt64))) : 0 ≤ k.toInt ∧ k.toInt ≤ lf.toInt := by
  have q := own_r64 (c &&& (9223372036854775807 : Int64)) ((lf + (1 : Int32)).toInt64) (own_mkL c) (by rw [c_i2l, own_e1 hl]; omega)
  rw [c_i2l, own_e1 hl] at q
  rw [h]; omega
theorem own_ks {k : Int64} (h : 0 ≤ k.toInt ∧ k.toInt < 17) : k.toInt32.toInt = k.toInt := by
  have q := c_l2i k
  have r := rng32 k.toInt32
  omega
theorem own_pk {w : Int32} {k : Int64} {e : Int32} (he : e.toInt < 17) (hp : 0 ≤ w.toInt) (hk : 0 ≤ k.toInt ∧ w.toInt + k.toInt ≤ e.toInt) : (w + k.toInt32).toInt = w.toInt + k.toInt := by
  have q := own_ks (k := k) (by omega)
  have r := c_iadd w k.toInt32
  have t := rng32 (w + k.toInt32)
  omega
theorem own_s1 {e w lf : Int32} {k : Int64} (he : 0 ≤ e.toInt ∧ e.toInt < 17) (hp : 0 ≤ w.toInt ∧ w.toInt ≤ e.toInt) (h : lf = (e - w)) (hk : 0 ≤ k.toInt ∧ k.toInt ≤ lf.toInt) : ¬ ((e - w).toInt64) < k := by
  have := own_l he hp h
  rw [← h, Int64.lt_iff_toInt_lt, c_i2l]; omega
theorem own_lk {lf : Int32} {k : Int64} (hl : 0 ≤ lf.toInt ∧ lf.toInt < 17) (hk : 0 ≤ k.toInt ∧ k.toInt ≤ lf.toInt) : ((lf.toInt64) - k).toInt = lf.toInt - k.toInt := by
  have q := c_lsub lf.toInt64 k
  have r := rng64 (lf.toInt64 - k)
  rw [c_i2l] at q
  omega
theorem own_s2 {e w lf : Int32} {k : Int64} (he : 0 ≤ e.toInt ∧ e.toInt < 17) (hp : 0 ≤ w.toInt ∧ w.toInt ≤ e.toInt) (h : lf = (e - w)) (hk : 0 ≤ k.toInt ∧ k.toInt ≤ lf.toInt) : ¬ ((e - (w + (k.toInt32))).toInt64) < ((lf.toInt64) - k) := by
  have a := own_l he hp h
  have b := own_pk (e := e) he.2 hp.1 (k := k) (by omega)
  have q := c_isub e (w + k.toInt32)
  have r := rng32 (e - (w + k.toInt32))
  rw [Int64.lt_iff_toInt_lt, c_i2l, own_lk (own_lr he hp h) hk]; omega
theorem own_m {e w lf : Int32} {k : Int64} (he : 0 ≤ e.toInt ∧ e.toInt < 17) (hp : 0 ≤ w.toInt ∧ w.toInt ≤ e.toInt) (h : lf = (e - w)) (hk : 0 ≤ k.toInt ∧ k.toInt ≤ lf.toInt) : (if (w + (k.toInt32)) = e then (1 : Int32) else 0) = (if k = (lf.toInt64) then (1 : Int32) else 0) := by
  have a := own_l he hp h
  have b := own_pk (e := e) he.2 hp.1 (k := k) (by omega)
  have q : (w + (k.toInt32)) = e ↔ k = (lf.toInt64) := by
    rw [← Int32.toInt_inj, ← Int64.toInt_inj, b, c_i2l]; omega
  by_cases z : k = (lf.toInt64)
  · rw [if_pos z, if_pos (q.mpr z)]
  · rw [if_neg z, if_neg (fun y => z (q.mp y))]
theorem own_f {e w lf : Int32} {k : Int64} (he : 0 ≤ e.toInt ∧ e.toInt < 17) (hp : 0 ≤ w.toInt ∧ w.toInt ≤ e.toInt) (h : lf = (e - w)) (hk : 0 ≤ k.toInt ∧ k.toInt ≤ lf.toInt) : ((w + (k.toInt32)) + (((lf.toInt64) - k).toInt32)) = e := by
  have a := own_l he hp h
  have b := own_pk (e := e) he.2 hp.1 (k := k) (by omega)
  have c := own_lk (own_lr he hp h) hk
  have d := own_pk (e := e) (w := w + k.toInt32) (k := (lf.toInt64) - k) he.2 (by omega) (by omega)
  rw [← Int32.toInt_inj, d, b, c]; omega
theorem d1_0 : decode prog_1_method_2_code 0 = .ok (.aload_n 0, 1) := by decide +kernel
theorem d1_1 : decode prog_1_method_2_code 1 = .ok (.invokespecial 7, 3) := by decide +kernel
theorem d1_4 : decode prog_1_method_2_code 4 = .ok (.aload_n 0, 1) := by decide +kernel
theorem d1_5 : decode prog_1_method_2_code 5 = .ok (.aload_n 1, 1) := by decide +kernel
theorem d1_6 : decode prog_1_method_2_code 6 = .ok (.putfield 12, 3) := by decide +kernel
theorem d1_9 : decode prog_1_method_2_code 9 = .ok (.aload_n 0, 1) := by decide +kernel
theorem d1_10 : decode prog_1_method_2_code 10 = .ok (.iload_n 2, 1) := by decide +kernel
theorem d1_11 : decode prog_1_method_2_code 11 = .ok (.putfield 16, 3) := by decide +kernel
theorem d1_14 : decode prog_1_method_2_code 14 = .ok (.aload_n 0, 1) := by decide +kernel
theorem d1_15 : decode prog_1_method_2_code 15 = .ok (.iload_n 3, 1) := by decide +kernel
theorem d1_16 : decode prog_1_method_2_code 16 = .ok (.putfield 20, 3) := by decide +kernel
theorem d1_19 : decode prog_1_method_2_code 19 = .ok (.return_, 1) := by decide +kernel
theorem pn_com_example_wicol_wicol_ByteReader : plainName "com/example/wicol/wicol/ByteReader" = true := by first | (simp [plainName, overriddenIn]; done) | decide +kernel
theorem ef_1 (m : MethodId) (o0 : Addr) (o1 : Addr) (p2 : Int32) (p3 : Int32) : entryFrame m #[(.ref o0), (.ref o1), (.int p2), (.int p3)] 4 = mkF m 0 #[.val (.ref o0), .val (.ref o1), .val (.int p2), .val (.int p3)] [] := by first | (simp [entryFrame, mkF, argsToLocals, Value.category]; done) | rfl
def Q1 (Z : State) (o0 : Addr) (o1 : Addr) (p2 : Int32) (p3 : Int32) (h0 : Heap) (n0 : Nat) (v : Option Value) (h : Heap) (L : List Loc) : Prop := v = none ∧ Fr n0 L ∧ Keep h0 h [o0] ∧ Fld Z h o0 "com/example/wicol/wicol/ByteReader" "position" "I" (.int p2) ∧ Fld Z h o0 "com/example/wicol/wicol/ByteReader" "end" "I" (.int p3)
set_option maxRecDepth 65536 in
set_option maxHeartbeats 40000000 in
theorem rm1 (l : Launch) (Z : State) (a0 : Array Value) (hw : ∀ d ∈ tables_1, d.before a0 Z = true) (ws : List Jvm.Cond) (o0 : Addr) (o1 : Addr) (p2 : Int32) (p3 : Int32) (h0 : Heap) (n0 : Nat) (Z0 : n0 ≤ h0.size) (E_o0 : Exa Z h0 o0 "com/example/wicol/wicol/ByteReader") (F_bytes_o0 : Fld Z h0 o0 "com/example/wicol/wicol/ByteReader" "bytes" "[B" .null) (F_position_o0 : Fld Z h0 o0 "com/example/wicol/wicol/ByteReader" "position" "I" (.int (0 : Int32))) (F_end_o0 : Fld Z h0 o0 "com/example/wicol/wicol/ByteReader" "end" "I" (.int (0 : Int32))) (g_o0 : n0 ≤ o0) :
    MetFree l (⟨"com/example/wicol/wicol/ByteReader", "<init>", "([BII)V"⟩ : MethodName) (head1 (Jvm.Cond.code (⟨"com/example/wicol/wicol/ByteReader", "<init>", "([BII)V"⟩ : MethodName) prog_1_method_2_code 4 none :: ws) ({ frames := 1, cells := 0, slots := 0, locals := 12 } : Room)) (fun a U => a = #[(.ref o0), (.ref o1), (.int p2), (.int p3)] ∧ Z.Warmed39 U.vm ∧ U.heap = h0) (fun _ _ _ _ _ => True) (fun _ U o U' => ∃ v L, o = .returned v ∧ Q1 Z o0 o1 p2 p3 h0 n0 v U'.heap L ∧ FrameEnd U o U' L ({ frames := 1, cells := 0, slots := 0, locals := 12 } : Room).cells ({ frames := 1, cells := 0, slots := 0, locals := 12 } : Room).slots) := by
  refine MetFree.of_bodySF (plainFor_of_name pn_com_example_wicol_wicol_ByteReader) hisR ?_
  intro p e s m args below meth c s₁ Bd hml0 hP hK
  obtain ⟨rfl, hZ, hh⟩ := hP
  have hx := Bd.exec
  have hby := Bd.bytes
  have hml : c.maxLocals = 4 := hml0
  have hown : s.vm.findClass "com/example/wicol/wicol/ByteReader" = some m.cls := findClass_of_methodNamed Bd.named
  have hnm := (name_of_methodNamed Bd.named Bd.method).1
  have X0 : Stand p l e ({ frames := 1, cells := 0, slots := 0, locals := 12 } : Room) s m #[(.ref o0), (.ref o1), (.int p2), (.int p3)] below meth c s₁ [] 0 0 := Stand.of_body Bd
  have e0 : s₁.heap = h0 := by rw [← hh, Bd.state]; rfl
  have N0 := Fr.nil n0
  have pre0 : ∀ t, Steps p.tables e below (s₁.setTop (mkF m 0 #[.val (.ref o0), .val (.ref o1), .val (.int p2), .val (.int p3)] [])) t → Steps p.tables e below (s₁.setTop (entryFrame m #[(.ref o0), (.ref o1), (.int p2), (.int p3)] 4)) t := fun t k => castTop (ef_1 m o0 o1 p2 p3) k
  obtain ⟨T1, X1, e1, st1⟩ := initO X0 hx hZ hown (hw _ (List.mem_of_getElem? (i := 9) rfl)) (hw _ (List.mem_of_getElem? (i := 10) rfl)) (hw _ (List.mem_of_getElem? (i := 11) rfl)) e0 (g := (mkF m 1 #[.val (.ref o0), .val (.ref o1), .val (.int p2), .val (.int p3)] [(.ref o0)])) rfl (by rw [hml]; rfl) rfl (hb hby d1_1) (by decide) (W := 0) (by show 2 * 0 + _ ≤ _; exact Nat.le_of_eq rfl) (by decide)
  obtain ⟨T2, h2, X2, e2, W2, st2⟩ := putF X1 hx hZ hown (host := "") (Or.inl (hw _ (List.mem_of_getElem? (i := 12) rfl))) Via.refl e1 F_bytes_o0 E_o0 (Or.inr ⟨(hw _ (List.mem_of_getElem? (i := 13) rfl)), rfl, hnm⟩) (hw _ (List.mem_of_getElem? (i := 4) rfl)) (ty := (.array .byte)) (by decide) rfl rfl (g := (mkF m 6 #[.val (.ref o0), .val (.ref o1), .val (.int p2), .val (.int p3)] [(.ref o1), (.ref o0)])) rfl rfl (hb hby d1_6)
  have Fw2 : Fld Z h2 o0 "com/example/wicol/wicol/ByteReader" "bytes" "[B" (.ref o1) := F_bytes_o0.same W2
  have J2 : Keep h0 h2 [o0] := (Keep.refl h0 [o0]).wr W2 (Or.inl (List.mem_of_getElem? (i := 0) rfl))
  have N2 := Fr.snoc X2 N0 g_o0
  have c3 : Fld Z h2 o0 "com/example/wicol/wicol/ByteReader" "position" "I" (.int (0 : Int32)) := (F_position_o0.other W2 (Or.inr (slot_ne (Or.inl (hw _ (List.mem_of_getElem? (i := 15) rfl))) (Or.inr (hw _ (List.mem_of_getElem? (i := 13) rfl))) (by decide) (t := .int) (t' := (.array .byte)) (by decide) (by decide))))
  have c4 : Exa Z h2 o0 "com/example/wicol/wicol/ByteReader" := (E_o0.wr W2)
  obtain ⟨T5, h5, X5, e5, W5, st5⟩ := putF X2 hx hZ hown (host := "") (Or.inl (hw _ (List.mem_of_getElem? (i := 14) rfl))) Via.refl e2 c3 c4 (Or.inl (hw _ (List.mem_of_getElem? (i := 15) rfl))) (hw _ (List.mem_of_getElem? (i := 4) rfl)) (ty := .int) (by decide) rfl rfl (g := (mkF m 11 #[.val (.ref o0), .val (.ref o1), .val (.int p2), .val (.int p3)] [(.int p2), (.ref o0)])) rfl rfl (hb hby d1_11)
  have Fw5 : Fld Z h5 o0 "com/example/wicol/wicol/ByteReader" "position" "I" (.int p2) := c3.same W5
  have J5 : Keep h0 h5 [o0] := J2.wr W5 (Or.inl (List.mem_of_getElem? (i := 0) rfl))
  have N5 := Fr.snoc X5 N2 g_o0
  have c6 : Fld Z h5 o0 "com/example/wicol/wicol/ByteReader" "end" "I" (.int (0 : Int32)) := ((F_end_o0.other W2 (Or.inr (slot_ne (Or.inr (hw _ (List.mem_of_getElem? (i := 17) rfl))) (Or.inr (hw _ (List.mem_of_getElem? (i := 13) rfl))) (by decide) (t := .int) (t' := (.array .byte)) (by decide) (by decide)))).other W5 (Or.inr (slot_ne (Or.inr (hw _ (List.mem_of_getElem? (i := 17) rfl))) (Or.inl (hw _ (List.mem_of_getElem? (i := 15) rfl))) (by decide) (t := .int) (t' := .int) (by decide) (by decide))))
  have c7 : Exa Z h5 o0 "com/example/wicol/wicol/ByteReader" := (c4.wr W5)
  obtain ⟨T8, h8, X8, e8, W8, st8⟩ := putF X5 hx hZ hown (host := "") (Or.inl (hw _ (List.mem_of_getElem? (i := 16) rfl))) Via.refl e5 c6 c7 (Or.inr ⟨(hw _ (List.mem_of_getElem? (i := 17) rfl)), rfl, hnm⟩) (hw _ (List.mem_of_getElem? (i := 4) rfl)) (ty := .int) (by decide) rfl rfl (g := (mkF m 16 #[.val (.ref o0), .val (.ref o1), .val (.int p2), .val (.int p3)] [(.int p3), (.ref o0)])) rfl rfl (hb hby d1_16)
  have Fw8 : Fld Z h8 o0 "com/example/wicol/wicol/ByteReader" "end" "I" (.int p3) := c6.same W8
  have J8 : Keep h0 h8 [o0] := J5.wr W8 (Or.inl (List.mem_of_getElem? (i := 0) rfl))
  have N8 := Fr.snoc X8 N5 g_o0
  have c9 : Fld Z h8 o0 "com/example/wicol/wicol/ByteReader" "position" "I" (.int p2) := (Fw5.other W8 (Or.inr (slot_ne (Or.inl (hw _ (List.mem_of_getElem? (i := 15) rfl))) (Or.inr (hw _ (List.mem_of_getElem? (i := 17) rfl))) (by decide) (t := .int) (t' := .int) (by decide) (by decide))))
  obtain ⟨fs, hr, hrun, hended, hW, hsame⟩ := X8.leave (v := none) (fun _ => rfl)
  refine ⟨_, _, pre0 _ ?_, hrun, hended, _, _, rfl, ?_, ⟨_, rfl⟩, hW, hsame.mono (by decide) (by decide)⟩
  · show Steps p.tables e below (s₁.setTop (mkF m 0 #[.val (.ref o0), .val (.ref o1), .val (.int p2), .val (.int p3)] [])) _
    refine XS.aloadN X0.here hx rfl (hb hby d1_0) rfl rfl ?_
    show Steps p.tables e below (s₁.setTop (mkF m 1 #[.val (.ref o0), .val (.ref o1), .val (.int p2), .val (.int p3)] [(.ref o0)])) _
    refine st1 _ ?_
    show Steps p.tables e below (T1.setTop (mkF m 4 #[.val (.ref o0), .val (.ref o1), .val (.int p2), .val (.int p3)] [])) _
    refine XS.aloadN X1.here hx rfl (hb hby d1_4) rfl rfl ?_
    show Steps p.tables e below (T1.setTop (mkF m 5 #[.val (.ref o0), .val (.ref o1), .val (.int p2), .val (.int p3)] [(.ref o0)])) _
    refine XS.aloadN X1.here hx rfl (hb hby d1_5) rfl rfl ?_
    show Steps p.tables e below (T1.setTop (mkF m 6 #[.val (.ref o0), .val (.ref o1), .val (.int p2), .val (.int p3)] [(.ref o1), (.ref o0)])) _
    refine st2 _ ?_
    show Steps p.tables e below (T2.setTop (mkF m 9 #[.val (.ref o0), .val (.ref o1), .val (.int p2), .val (.int p3)] [])) _
    refine XS.aloadN X2.here hx rfl (hb hby d1_9) rfl rfl ?_
    show Steps p.tables e below (T2.setTop (mkF m 10 #[.val (.ref o0), .val (.ref o1), .val (.int p2), .val (.int p3)] [(.ref o0)])) _
    refine XS.iloadN X2.here hx rfl (hb hby d1_10) rfl ?_
    show Steps p.tables e below (T2.setTop (mkF m 11 #[.val (.ref o0), .val (.ref o1), .val (.int p2), .val (.int p3)] [(.int p2), (.ref o0)])) _
    refine st5 _ ?_
    show Steps p.tables e below (T5.setTop (mkF m 14 #[.val (.ref o0), .val (.ref o1), .val (.int p2), .val (.int p3)] [])) _
    refine XS.aloadN X5.here hx rfl (hb hby d1_14) rfl rfl ?_
    show Steps p.tables e below (T5.setTop (mkF m 15 #[.val (.ref o0), .val (.ref o1), .val (.int p2), .val (.int p3)] [(.ref o0)])) _
    refine XS.iloadN X5.here hx rfl (hb hby d1_15) rfl ?_
    show Steps p.tables e below (T5.setTop (mkF m 16 #[.val (.ref o0), .val (.ref o1), .val (.int p2), .val (.int p3)] [(.int p3), (.ref o0)])) _
    refine st8 _ ?_
    show Steps p.tables e below (T8.setTop (mkF m 19 #[.val (.ref o0), .val (.ref o1), .val (.int p2), .val (.int p3)] [])) _
    exact X8.returnOut hx Bd.returns (hb hby d1_19) hr
  · show Q1 Z o0 o1 p2 p3 h0 n0 _ T8.heap _
    rw [e8]
    exact ⟨rfl, N8, J8, c9, Fw8⟩
theorem d14_0 : decode prog_1_method_14_code 0 = .ok (.aload_n 0, 1) := by decide +kernel
theorem d14_1 : decode prog_1_method_14_code 1 = .ok (.getfield 16, 3) := by decide +kernel
theorem d14_4 : decode prog_1_method_14_code 4 = .ok (.aload_n 0, 1) := by decide +kernel
theorem d14_5 : decode prog_1_method_14_code 5 = .ok (.getfield 20, 3) := by decide +kernel
theorem d14_8 : decode prog_1_method_14_code 8 = .ok (.if_icmp .ne 7, 3) := by decide +kernel
theorem d14_11 : decode prog_1_method_14_code 11 = .ok (.iconst 1, 1) := by decide +kernel
theorem d14_12 : decode prog_1_method_14_code 12 = .ok (.goto 4, 3) := by decide +kernel
theorem d14_15 : decode prog_1_method_14_code 15 = .ok (.iconst 0, 1) := by decide +kernel
theorem d14_16 : decode prog_1_method_14_code 16 = .ok (.ireturn, 1) := by decide +kernel
theorem ef_14 (m : MethodId) (o0 : Addr) : entryFrame m #[(.ref o0)] 1 = mkF m 0 #[.val (.ref o0)] [] := by first | (simp [entryFrame, mkF, argsToLocals, Value.category]; done) | rfl
def Q14 (Z : State) (o0 : Addr) (ps : Int32) (en : Int32) (h0 : Heap) (n0 : Nat) (v : Option Value) (h : Heap) (L : List Loc) : Prop := v = some (.int (if ps = en then (1 : Int32) else 0)) ∧ Fr n0 L ∧ Keep h0 h []
set_option maxRecDepth 65536 in
set_option maxHeartbeats 40000000 in
theorem rm14 (l : Launch) (Z : State) (a0 : Array Value) (hw : ∀ d ∈ tables_1, d.before a0 Z = true) (ws : List Jvm.Cond) (o0 : Addr) (ps : Int32) (en : Int32) (h0 : Heap) (n0 : Nat) (Z0 : n0 ≤ h0.size) (F_position_o0 : Fld Z h0 o0 "com/example/wicol/wicol/ByteReader" "position" "I" (.int ps)) (F_end_o0 : Fld Z h0 o0 "com/example/wicol/wicol/ByteReader" "end" "I" (.int en)) :
    MetFree l (⟨"com/example/wicol/wicol/ByteReader", "atEnd", "()Z"⟩ : MethodName) (head1 (Jvm.Cond.code (⟨"com/example/wicol/wicol/ByteReader", "atEnd", "()Z"⟩ : MethodName) prog_1_method_14_code 1 (some .boolean) :: ws) ({ frames := 0, cells := 0, slots := 0, locals := 0 } : Room)) (fun a U => a = #[(.ref o0)] ∧ Z.Warmed39 U.vm ∧ U.heap = h0) (fun _ _ _ _ _ => True) (fun _ U o U' => ∃ v L, o = .returned v ∧ Q14 Z o0 ps en h0 n0 v U'.heap L ∧ FrameEnd U o U' L ({ frames := 0, cells := 0, slots := 0, locals := 0 } : Room).cells ({ frames := 0, cells := 0, slots := 0, locals := 0 } : Room).slots) := by
  refine MetFree.of_bodySF (plainFor_of_name pn_com_example_wicol_wicol_ByteReader) hisR ?_
  intro p e s m args below meth c s₁ Bd hml0 hP hK
  obtain ⟨rfl, hZ, hh⟩ := hP
  have hx := Bd.exec
  have hby := Bd.bytes
  have hml : c.maxLocals = 1 := hml0
  have hown : s.vm.findClass "com/example/wicol/wicol/ByteReader" = some m.cls := findClass_of_methodNamed Bd.named
  have hnm := (name_of_methodNamed Bd.named Bd.method).1
  have X0 : Stand p l e ({ frames := 0, cells := 0, slots := 0, locals := 0 } : Room) s m #[(.ref o0)] below meth c s₁ [] 0 0 := Stand.of_body Bd
  have e0 : s₁.heap = h0 := by rw [← hh, Bd.state]; rfl
  have N0 := Fr.nil n0
  have pre0 : ∀ t, Steps p.tables e below (s₁.setTop (mkF m 0 #[.val (.ref o0)] [])) t → Steps p.tables e below (s₁.setTop (entryFrame m #[(.ref o0)] 1)) t := fun t k => castTop (ef_14 m o0) k
  obtain ⟨T1, X1, e1, st1⟩ := getF X0 hx hZ hown (host := "") (Or.inl (hw _ (List.mem_of_getElem? (i := 14) rfl))) Via.refl e0 F_position_o0 (g := (mkF m 1 #[.val (.ref o0)] [(.ref o0)])) rfl rfl (hb hby d14_1)
  obtain ⟨T2, X2, e2, st2⟩ := getF X1 hx hZ hown (host := "") (Or.inl (hw _ (List.mem_of_getElem? (i := 16) rfl))) Via.refl e1 F_end_o0 (g := (mkF m 5 #[.val (.ref o0)] [(.ref o0), (.int ps)])) rfl rfl (hb hby d14_5)
  obtain ⟨fs, hr, hrun, hended, hW, hsame⟩ := X2.leave (v := some (.int (nar .boolean (if ps = en then (1 : Int32) else 0)))) (fun h => by rw [Bd.returns] at h; cases h)
  refine ⟨_, _, pre0 _ ?_, hrun, hended, _, _, rfl, ?_, ⟨_, rfl⟩, hW, hsame.mono (by decide) (by decide)⟩
  · show Steps p.tables e below (s₁.setTop (mkF m 0 #[.val (.ref o0)] [])) _
    refine XS.aloadN X0.here hx rfl (hb hby d14_0) rfl rfl ?_
    show Steps p.tables e below (s₁.setTop (mkF m 1 #[.val (.ref o0)] [(.ref o0)])) _
    refine st1 _ ?_
    show Steps p.tables e below (T1.setTop (mkF m 4 #[.val (.ref o0)] [(.int ps)])) _
    refine XS.aloadN X1.here hx rfl (hb hby d14_4) rfl rfl ?_
    show Steps p.tables e below (T1.setTop (mkF m 5 #[.val (.ref o0)] [(.ref o0), (.int ps)])) _
    refine st2 _ ?_
    show Steps p.tables e below (T2.setTop (mkF m 8 #[.val (.ref o0)] [(.int en), (.int ps)])) _
    refine own_diaF2 X2.here hx rfl (pc0 := 8) rfl (hb hby d14_8) (hb hby d14_11) (hb hby d14_12) (hb hby d14_15) rfl (fun hq => (teq hq).2) (fun hq => (feq hq).2) ?_
    show Steps p.tables e below (T2.setTop (mkF m 16 #[.val (.ref o0)] [(.int (if ps = en then (1 : Int32) else 0))])) _
    exact retN X2 hx (t := .boolean) Bd.returns (by simp) (hb hby d14_16) hr
  · show Q14 Z o0 ps en h0 n0 _ T2.heap _
    rw [e2]
    exact ⟨by rw [own_nb10], N0, (Keep.refl h0 [])⟩
theorem d15_0 : decode prog_1_method_15_code 0 = .ok (.lload_n 1, 1) := by decide +kernel
theorem d15_1 : decode prog_1_method_15_code 1 = .ok (.aload_n 0, 1) := by decide +kernel
theorem d15_2 : decode prog_1_method_15_code 2 = .ok (.getfield 20, 3) := by decide +kernel
theorem d15_5 : decode prog_1_method_15_code 5 = .ok (.aload_n 0, 1) := by decide +kernel
theorem d15_6 : decode prog_1_method_15_code 6 = .ok (.getfield 16, 3) := by decide +kernel
theorem d15_9 : decode prog_1_method_15_code 9 = .ok (.isub, 1) := by decide +kernel
theorem d15_10 : decode prog_1_method_15_code 10 = .ok (.i2l, 1) := by decide +kernel
theorem d15_11 : decode prog_1_method_15_code 11 = .ok (.lcmp, 1) := by decide +kernel
theorem d15_12 : decode prog_1_method_15_code 12 = .ok (.ifCond .le 8, 3) := by decide +kernel
theorem d15_20 : decode prog_1_method_15_code 20 = .ok (.return_, 1) := by decide +kernel
theorem ef_15 (m : MethodId) (o0 : Addr) (q1 : Int64) : entryFrame m #[(.ref o0), (.long q1)] 3 = mkF m 0 #[.val (.ref o0), .val (.long q1), .second] [] := by first | (simp [entryFrame, mkF, argsToLocals, Value.category]; done) | rfl
def Q15 (Z : State) (o0 : Addr) (q1 : Int64) (ps : Int32) (en : Int32) (h0 : Heap) (n0 : Nat) (v : Option Value) (h : Heap) (L : List Loc) : Prop := v = none ∧ Fr n0 L ∧ Keep h0 h []
set_option maxRecDepth 65536 in
set_option maxHeartbeats 40000000 in
theorem rm15 (l : Launch) (Z : State) (a0 : Array Value) (hw : ∀ d ∈ tables_1, d.before a0 Z = true) (ws : List Jvm.Cond) (o0 : Addr) (q1 : Int64) (ps : Int32) (en : Int32) (h0 : Heap) (n0 : Nat) (Z0 : n0 ≤ h0.size) (F_position_o0 : Fld Z h0 o0 "com/example/wicol/wicol/ByteReader" "position" "I" (.int ps)) (F_end_o0 : Fld Z h0 o0 "com/example/wicol/wicol/ByteReader" "end" "I" (.int en)) (hle : ¬ ((en - ps).toInt64) < q1) :
    MetFree l (⟨"com/example/wicol/wicol/ByteReader", "require", "(J)V"⟩ : MethodName) (head1 (Jvm.Cond.code (⟨"com/example/wicol/wicol/ByteReader", "require", "(J)V"⟩ : MethodName) prog_1_method_15_code 3 none :: ws) ({ frames := 0, cells := 0, slots := 0, locals := 0 } : Room)) (fun a U => a = #[(.ref o0), (.long q1)] ∧ Z.Warmed39 U.vm ∧ U.heap = h0) (fun _ _ _ _ _ => True) (fun _ U o U' => ∃ v L, o = .returned v ∧ Q15 Z o0 q1 ps en h0 n0 v U'.heap L ∧ FrameEnd U o U' L ({ frames := 0, cells := 0, slots := 0, locals := 0 } : Room).cells ({ frames := 0, cells := 0, slots := 0, locals := 0 } : Room).slots) := by
  refine MetFree.of_bodySF (plainFor_of_name pn_com_example_wicol_wicol_ByteReader) hisR ?_
  intro p e s m args below meth c s₁ Bd hml0 hP hK
  obtain ⟨rfl, hZ, hh⟩ := hP
  have hx := Bd.exec
  have hby := Bd.bytes
  have hml : c.maxLocals = 3 := hml0
  have hown : s.vm.findClass "com/example/wicol/wicol/ByteReader" = some m.cls := findClass_of_methodNamed Bd.named
  have hnm := (name_of_methodNamed Bd.named Bd.method).1
  have X0 : Stand p l e ({ frames := 0, cells := 0, slots := 0, locals := 0 } : Room) s m #[(.ref o0), (.long q1)] below meth c s₁ [] 0 0 := Stand.of_body Bd
  have e0 : s₁.heap = h0 := by rw [← hh, Bd.state]; rfl
  have N0 := Fr.nil n0
  have pre0 : ∀ t, Steps p.tables e below (s₁.setTop (mkF m 0 #[.val (.ref o0), .val (.long q1), .second] [])) t → Steps p.tables e below (s₁.setTop (entryFrame m #[(.ref o0), (.long q1)] 3)) t := fun t k => castTop (ef_15 m o0 q1) k
  obtain ⟨T1, X1, e1, st1⟩ := getF X0 hx hZ hown (host := "") (Or.inl (hw _ (List.mem_of_getElem? (i := 16) rfl))) Via.refl e0 F_end_o0 (g := (mkF m 2 #[.val (.ref o0), .val (.long q1), .second] [(.ref o0), (.long q1)])) rfl rfl (hb hby d15_2)
  obtain ⟨T2, X2, e2, st2⟩ := getF X1 hx hZ hown (host := "") (Or.inl (hw _ (List.mem_of_getElem? (i := 14) rfl))) Via.refl e1 F_position_o0 (g := (mkF m 6 #[.val (.ref o0), .val (.long q1), .second] [(.ref o0), (.int en), (.long q1)])) rfl rfl (hb hby d15_6)
  obtain ⟨fs, hr, hrun, hended, hW, hsame⟩ := X2.leave (v := none) (fun _ => rfl)
  refine ⟨_, _, pre0 _ ?_, hrun, hended, _, _, rfl, ?_, ⟨_, rfl⟩, hW, hsame.mono (by decide) (by decide)⟩
  · show Steps p.tables e below (s₁.setTop (mkF m 0 #[.val (.ref o0), .val (.long q1), .second] [])) _
    refine XS.lloadN X0.here hx rfl (hb hby d15_0) rfl ?_
    show Steps p.tables e below (s₁.setTop (mkF m 1 #[.val (.ref o0), .val (.long q1), .second] [(.long q1)])) _
    refine XS.aloadN X0.here hx rfl (hb hby d15_1) rfl rfl ?_
    show Steps p.tables e below (s₁.setTop (mkF m 2 #[.val (.ref o0), .val (.long q1), .second] [(.ref o0), (.long q1)])) _
    refine st1 _ ?_
    show Steps p.tables e below (T1.setTop (mkF m 5 #[.val (.ref o0), .val (.long q1), .second] [(.int en), (.long q1)])) _
    refine XS.aloadN X1.here hx rfl (hb hby d15_5) rfl rfl ?_
    show Steps p.tables e below (T1.setTop (mkF m 6 #[.val (.ref o0), .val (.long q1), .second] [(.ref o0), (.int en), (.long q1)])) _
    refine st2 _ ?_
    show Steps p.tables e below (T2.setTop (mkF m 9 #[.val (.ref o0), .val (.long q1), .second] [(.int ps), (.int en), (.long q1)])) _
    refine XS.isub X2.here hx rfl (hb hby d15_9) rfl ?_
    show Steps p.tables e below (T2.setTop (mkF m 10 #[.val (.ref o0), .val (.long q1), .second] [(.int (en - ps)), (.long q1)])) _
    refine XS.i2l X2.here hx rfl (hb hby d15_10) rfl ?_
    show Steps p.tables e below (T2.setTop (mkF m 11 #[.val (.ref o0), .val (.long q1), .second] [(.long ((en - ps).toInt64)), (.long q1)])) _
    refine XS.lcmp X2.here hx rfl (hb hby d15_11) rfl ?_
    show Steps p.tables e below (T2.setTop (mkF m 12 #[.val (.ref o0), .val (.long q1), .second] [(.int (lcmpW q1 ((en - ps).toInt64)))])) _
    refine XS.ifYes X2.here hx rfl (pc0 := 12) (pc' := 20) rfl (hb hby d15_12) rfl ((if0 _ _).trans (flt (mt (lw_gt _ _).mp hle)).2.2.2) (by decide) (by decide) ?_
    show Steps p.tables e below (T2.setTop (mkF m 20 #[.val (.ref o0), .val (.long q1), .second] [])) _
    exact X2.returnOut hx Bd.returns (hb hby d15_20) hr
  · show Q15 Z o0 q1 ps en h0 n0 _ T2.heap _
    rw [e2]
    exact ⟨rfl, N0, (Keep.refl h0 [])⟩
theorem d5_0 : decode prog_1_method_5_code 0 = .ok (.aload_n 0, 1) := by decide +kernel
theorem d5_1 : decode prog_1_method_5_code 1 = .ok (.lload_n 1, 1) := by decide +kernel
theorem d5_2 : decode prog_1_method_5_code 2 = .ok (.invokevirtual 23, 3) := by decide +kernel
theorem d5_5 : decode prog_1_method_5_code 5 = .ok (.aload_n 0, 1) := by decide +kernel
theorem d5_6 : decode prog_1_method_5_code 6 = .ok (.dup, 1) := by decide +kernel
theorem d5_7 : decode prog_1_method_5_code 7 = .ok (.getfield 16, 3) := by decide +kernel
theorem d5_10 : decode prog_1_method_5_code 10 = .ok (.lload_n 1, 1) := by decide +kernel
theorem d5_11 : decode prog_1_method_5_code 11 = .ok (.l2i, 1) := by decide +kernel
theorem d5_12 : decode prog_1_method_5_code 12 = .ok (.iadd, 1) := by decide +kernel
theorem d5_13 : decode prog_1_method_5_code 13 = .ok (.putfield 16, 3) := by decide +kernel
theorem d5_16 : decode prog_1_method_5_code 16 = .ok (.return_, 1) := by decide +kernel
theorem pd_0 : parseMethodDescriptor "(J)V" = some ⟨[.long], none⟩ := by decide +kernel
theorem ef_5 (m : MethodId) (o0 : Addr) (q1 : Int64) : entryFrame m #[(.ref o0), (.long q1)] 3 = mkF m 0 #[.val (.ref o0), .val (.long q1), .second] [] := by first | (simp [entryFrame, mkF, argsToLocals, Value.category]; done) | rfl
def Q5 (Z : State) (o0 : Addr) (q1 : Int64) (ps : Int32) (en : Int32) (h0 : Heap) (n0 : Nat) (v : Option Value) (h : Heap) (L : List Loc) : Prop := v = none ∧ Fr n0 L ∧ Keep h0 h [o0] ∧ Fld Z h o0 "com/example/wicol/wicol/ByteReader" "position" "I" (.int (ps + (q1.toInt32))) ∧ Fld Z h o0 "com/example/wicol/wicol/ByteReader" "end" "I" (.int en)
set_option maxRecDepth 65536 in
set_option maxHeartbeats 40000000 in
theorem rm5 (l : Launch) (Z : State) (a0 : Array Value) (hw : ∀ d ∈ tables_1, d.before a0 Z = true) (ws : List Jvm.Cond) (o0 : Addr) (q1 : Int64) (ps : Int32) (en : Int32) (h0 : Heap) (n0 : Nat) (Z0 : n0 ≤ h0.size) (E_o0 : Exa Z h0 o0 "com/example/wicol/wicol/ByteReader") (F_position_o0 : Fld Z h0 o0 "com/example/wicol/wicol/ByteReader" "position" "I" (.int ps)) (F_end_o0 : Fld Z h0 o0 "com/example/wicol/wicol/ByteReader" "end" "I" (.int en)) (g_o0 : n0 ≤ o0) (hle : ¬ ((en - ps).toInt64) < q1) :
    MetFree l (⟨"com/example/wicol/wicol/ByteReader", "skip", "(J)V"⟩ : MethodName) (head1 (Jvm.Cond.code (⟨"com/example/wicol/wicol/ByteReader", "skip", "(J)V"⟩ : MethodName) prog_1_method_5_code 3 none :: ws) ({ frames := 1, cells := 0, slots := 0, locals := 14 } : Room)) (fun a U => a = #[(.ref o0), (.long q1)] ∧ Z.Warmed39 U.vm ∧ U.heap = h0) (fun _ _ _ _ _ => True) (fun _ U o U' => ∃ v L, o = .returned v ∧ Q5 Z o0 q1 ps en h0 n0 v U'.heap L ∧ FrameEnd U o U' L ({ frames := 1, cells := 0, slots := 0, locals := 14 } : Room).cells ({ frames := 1, cells := 0, slots := 0, locals := 14 } : Room).slots) := by
  refine MetFree.of_bodySF (plainFor_of_name pn_com_example_wicol_wicol_ByteReader) hisR ?_
  intro p e s m args below meth c s₁ Bd hml0 hP hK
  obtain ⟨rfl, hZ, hh⟩ := hP
  have hx := Bd.exec
  have hby := Bd.bytes
  have hml : c.maxLocals = 3 := hml0
  have hown : s.vm.findClass "com/example/wicol/wicol/ByteReader" = some m.cls := findClass_of_methodNamed Bd.named
  have hnm := (name_of_methodNamed Bd.named Bd.method).1
  have X0 : Stand p l e ({ frames := 1, cells := 0, slots := 0, locals := 14 } : Room) s m #[(.ref o0), (.long q1)] below meth c s₁ [] 0 0 := Stand.of_body Bd
  have e0 : s₁.heap = h0 := by rw [← hh, Bd.state]; rfl
  have N0 := Fr.nil n0
  have pre0 : ∀ t, Steps p.tables e below (s₁.setTop (mkF m 0 #[.val (.ref o0), .val (.long q1), .second] [])) t → Steps p.tables e below (s₁.setTop (entryFrame m #[(.ref o0), (.long q1)] 3)) t := fun t k => castTop (ef_5 m o0 q1) k
  obtain ⟨cq1, qh1, qh1'⟩ := E_o0.cell
  -- pc 2: ByteReader.require by rm15
  obtain ⟨_, _, ⟨T1, L1, k1, n1⟩, -, X1, ⟨Lc1, hQ1, l1, y1, z1'⟩, st1⟩ := X0.privateBack hx (y := (⟨"com/example/wicol/wicol/ByteReader", "require", "(J)V"⟩ : MethodName)) hown (mvT hZ (hw _ (List.mem_of_getElem? (i := 28) rfl))) (mvT hZ (hw _ (List.mem_of_getElem? (i := 29) rfl))) (own_selP hZ (hw _ (List.mem_of_getElem? (i := 4) rfl)) (hw _ (List.mem_of_getElem? (i := 30) rfl)) (hw _ (List.mem_of_getElem? (i := 29) rfl)) (by decide)) (Cond.privateMethod_at (mvP hZ (hw _ (List.mem_of_getElem? (i := 30) rfl)) (args := #[]))) (mvT hZ (hw _ (List.mem_of_getElem? (i := 31) rfl))) (by decide) (backOf (W := 0) (rm15 l Z a0 hw [] o0 q1 ps en h0 n0 Z0 F_position_o0 F_end_o0 hle) hZ (hw _ (List.mem_of_getElem? (i := 31) rfl)) (hw _ (List.mem_of_getElem? (i := 5) rfl)) (by decide) (by decide)) (g := (mkF m 2 #[.val (.ref o0), .val (.long q1), .second] [(.long q1), (.ref o0)])) rfl (by rw [hml]; rfl) (Steps.refl _) (a := o0) (by rw [e0]; exact qh1) qh1' (argsL := [(.long q1)]) (rest := []) (lenOf pd_0 rfl) rfl (by show 2 * 0 + _ ≤ _; exact Nat.le_of_eq rfl) (hb hby d5_2) (fun _ _ => ⟨rfl, e0, (by decide : 0 + 0 ≤ _), (by decide : 0 + 0 ≤ _)⟩)
  dsimp only [Pt.U, Pt.locs, Pt.cells, Pt.slots] at X1 l1 y1 z1' st1 hQ1
  subst l1 y1 z1'
  obtain ⟨rfl, N1q, K1⟩ := hQ1
  have N1 := Fr.app N0 N1q
  have J1 : Keep h0 T1.heap [o0] := (Keep.refl h0 [o0]).trans K1 all0
  have c2 : Fld Z T1.heap o0 "com/example/wicol/wicol/ByteReader" "position" "I" (.int ps) := (F_position_o0.keep K1 nin0)
  obtain ⟨T3, X3, e3, st3⟩ := getF X1 hx hZ hown (host := "") (Or.inl (hw _ (List.mem_of_getElem? (i := 14) rfl))) Via.refl rfl c2 (g := (mkF m 7 #[.val (.ref o0), .val (.long q1), .second] [(.ref o0), (.ref o0)])) rfl rfl (hb hby d5_7)
  have c4 : Exa Z T1.heap o0 "com/example/wicol/wicol/ByteReader" := (E_o0.keep K1)
  obtain ⟨T5, h5, X5, e5, W5, st5⟩ := putF X3 hx hZ hown (host := "") (Or.inl (hw _ (List.mem_of_getElem? (i := 14) rfl))) Via.refl e3 c2 c4 (Or.inl (hw _ (List.mem_of_getElem? (i := 15) rfl))) (hw _ (List.mem_of_getElem? (i := 4) rfl)) (ty := .int) (by decide) rfl rfl (g := (mkF m 13 #[.val (.ref o0), .val (.long q1), .second] [(.int (ps + (q1.toInt32))), (.ref o0)])) rfl rfl (hb hby d5_13)
  have Fw5 : Fld Z h5 o0 "com/example/wicol/wicol/ByteReader" "position" "I" (.int (ps + (q1.toInt32))) := c2.same W5
  have J5 : Keep h0 h5 [o0] := J1.wr W5 (Or.inl (List.mem_of_getElem? (i := 0) rfl))
  have N5 := Fr.snoc X5 N1 g_o0
  have c6 : Fld Z h5 o0 "com/example/wicol/wicol/ByteReader" "end" "I" (.int en) := ((F_end_o0.keep K1 nin0).other W5 (Or.inr (slot_ne (Or.inr (hw _ (List.mem_of_getElem? (i := 17) rfl))) (Or.inl (hw _ (List.mem_of_getElem? (i := 15) rfl))) (by decide) (t := .int) (t' := .int) (by decide) (by decide))))
  obtain ⟨fs, hr, hrun, hended, hW, hsame⟩ := X5.leave (v := none) (fun _ => rfl)
  refine ⟨_, _, pre0 _ ?_, hrun, hended, _, _, rfl, ?_, ⟨_, rfl⟩, hW, hsame.mono (by decide) (by decide)⟩
  · show Steps p.tables e below (s₁.setTop (mkF m 0 #[.val (.ref o0), .val (.long q1), .second] [])) _
    refine XS.aloadN X0.here hx rfl (hb hby d5_0) rfl rfl ?_
    show Steps p.tables e below (s₁.setTop (mkF m 1 #[.val (.ref o0), .val (.long q1), .second] [(.ref o0)])) _
    refine XS.lloadN X0.here hx rfl (hb hby d5_1) rfl ?_
    show Steps p.tables e below (s₁.setTop (mkF m 2 #[.val (.ref o0), .val (.long q1), .second] [(.long q1), (.ref o0)])) _
    refine st1.trans ?_
    show Steps p.tables e below (T1.setTop (mkF m 5 #[.val (.ref o0), .val (.long q1), .second] [])) _
    refine XS.aloadN X1.here hx rfl (hb hby d5_5) rfl rfl ?_
    show Steps p.tables e below (T1.setTop (mkF m 6 #[.val (.ref o0), .val (.long q1), .second] [(.ref o0)])) _
    refine XS.dup X1.here hx rfl (hb hby d5_6) rfl rfl ?_
    show Steps p.tables e below (T1.setTop (mkF m 7 #[.val (.ref o0), .val (.long q1), .second] [(.ref o0), (.ref o0)])) _
    refine st3 _ ?_
    show Steps p.tables e below (T3.setTop (mkF m 10 #[.val (.ref o0), .val (.long q1), .second] [(.int ps), (.ref o0)])) _
    refine XS.lloadN X3.here hx rfl (hb hby d5_10) rfl ?_
    show Steps p.tables e below (T3.setTop (mkF m 11 #[.val (.ref o0), .val (.long q1), .second] [(.long q1), (.int ps), (.ref o0)])) _
    refine XS.l2i X3.here hx rfl (hb hby d5_11) rfl ?_
    show Steps p.tables e below (T3.setTop (mkF m 12 #[.val (.ref o0), .val (.long q1), .second] [(.int (q1.toInt32)), (.int ps), (.ref o0)])) _
    refine XS.iadd X3.here hx rfl (hb hby d5_12) rfl ?_
    show Steps p.tables e below (T3.setTop (mkF m 13 #[.val (.ref o0), .val (.long q1), .second] [(.int (ps + (q1.toInt32))), (.ref o0)])) _
    refine st5 _ ?_
    show Steps p.tables e below (T5.setTop (mkF m 16 #[.val (.ref o0), .val (.long q1), .second] [])) _
    exact X5.returnOut hx Bd.returns (hb hby d5_16) hr
  · show Q5 Z o0 q1 ps en h0 n0 _ T5.heap _
    rw [e5]
    exact ⟨rfl, N5, J5, Fw5, c6⟩
theorem pn_com_example_wicol_wicol_ByteReaderAtEndPinLaw : plainName "com/example/wicol/wicol/ByteReaderAtEndPinLaw" = true := by first | (simp [plainName, overriddenIn]; done) | decide +kernel
theorem pd_1 : parseMethodDescriptor "([BII)V" = some ⟨[(.array .byte), .int, .int], none⟩ := by decide +kernel
theorem pd_2 : parseMethodDescriptor "()Z" = some ⟨[], some .boolean⟩ := by decide +kernel
theorem ef_0 (m : MethodId) (p0 : Int32) (p1 : Int32) (q2 : Int64) : entryFrame m #[(.int p0), (.int p1), (.long q2)] maxLocals = mkF m 0 #[.val (.int p0), .val (.int p1), .val (.long q2), .second, .unset, .unset, .unset, .unset, .unset, .unset, .unset, .unset, .unset, .unset] [] := by first | (simp [entryFrame, mkF, argsToLocals, Value.category, maxLocals]; done) | rfl
def Q0 (Z : State) (p0 : Int32) (p1 : Int32) (q2 : Int64) (h0 : Heap) (n0 : Nat) (v : Option Value) (h : Heap) (L : List Loc) : Prop := v = some (.int (1 : Int32)) ∧ Fr n0 L
set_option maxRecDepth 65536 in
set_option maxHeartbeats 40000000 in
theorem rm0 (l : Launch) (Z : State) (a0 : Array Value) (hw : ∀ d ∈ tables_1, d.before a0 Z = true) (ws : List Jvm.Cond) (p0 : Int32) (p1 : Int32) (q2 : Int64) (h0 : Heap) (n0 : Nat) (Z0 : n0 ≤ h0.size) :
    MetFree l x (head1 (Jvm.Cond.code x code maxLocals ret :: ws) room_1) (fun a U => a = #[(.int p0), (.int p1), (.long q2)] ∧ Z.Warmed39 U.vm ∧ U.heap = h0) (fun _ _ _ _ _ => True) (fun _ U o U' => ∃ v L, o = .returned v ∧ Q0 Z p0 p1 q2 h0 n0 v U'.heap L ∧ FrameEnd U o U' L room_1.cells room_1.slots) := by
  refine MetFree.of_bodySF (plainFor_of_name pn_com_example_wicol_wicol_ByteReaderAtEndPinLaw) hisR ?_
  intro p e s m args below meth c s₁ Bd hml0 hP hK
  obtain ⟨rfl, hZ, hh⟩ := hP
  have hx := Bd.exec
  have hby := Bd.bytes
  have hml : c.maxLocals = 14 := hml0
  have hown : s.vm.findClass "com/example/wicol/wicol/ByteReaderAtEndPinLaw" = some m.cls := findClass_of_methodNamed Bd.named
  have hnm := (name_of_methodNamed Bd.named Bd.method).1
  have X0 : Stand p l e room_1 s m #[(.int p0), (.int p1), (.long q2)] below meth c s₁ [] 0 0 := Stand.of_body Bd
  have e0 : s₁.heap = h0 := by rw [← hh, Bd.state]; rfl
  have N0 := Fr.nil n0
  have pre0 : ∀ t, Steps p.tables e below (s₁.setTop (mkF m 0 #[.val (.int p0), .val (.int p1), .val (.long q2), .second, .unset, .unset, .unset, .unset, .unset, .unset, .unset, .unset, .unset, .unset] [])) t → Steps p.tables e below (s₁.setTop (entryFrame m #[(.int p0), (.int p1), (.long q2)] maxLocals)) t := fun t k => castTop (ef_0 m p0 p1 q2) k
  obtain ⟨T1, h1, k1, X1, e1, E1, A1, st1⟩ := newP X0 hx hZ (hw _ (List.mem_of_getElem? (i := 0) rfl)) e0 (g := (mkF m 2 #[.val (.int p0), .val (.int p1), .val (.long q2), .second, .unset, .unset, .unset, .unset, .unset, .unset, .unset, .unset, .unset, .unset] [(.int (16 : Int32))])) rfl (hb hby at_2) rfl (by decide) (cap := 16) (by decide) (by decide) (by decide) (by decide)
  obtain ⟨b1, g1⟩ : ∃ z, z = h0.size := ⟨_, rfl⟩
  rw [← g1] at A1 st1
  have g_b1 : n0 ≤ b1 := Nat.le_trans Z0 (Nat.le_of_eq g1.symm)
  have sz_b1 : h0.size ≤ b1 := Nat.le_trans (Keep.refl h0 []).1 (Nat.le_of_eq g1.symm)
  have V_b1 : Arv Z h1 b1 k1 .byte (16 : Int32) [] (.int (0 : Int32)) := Arv.new A1 (by decide)
  have J1 : Keep h0 h1 [] := (Keep.refl h0 []).ext E1
  obtain ⟨ee, e_ee⟩ : ∃ z : Int32, z = ((p0 &&& (2147483647 : Int32)) - ((p0 &&& (2147483647 : Int32)) / (17 : Int32)) * (17 : Int32)) := ⟨_, rfl⟩
  have he := own_e e_ee
  obtain ⟨pp, e_pp⟩ : ∃ z : Int32, z = ((p1 &&& (2147483647 : Int32)) - ((p1 &&& (2147483647 : Int32)) / (ee + (1 : Int32))) * (ee + (1 : Int32))) := ⟨_, rfl⟩
  have hp := own_p he e_pp
  obtain ⟨lf, e_lf⟩ : ∃ z : Int32, z = (ee - pp) := ⟨_, rfl⟩
  have hl := own_lr he hp e_lf
  obtain ⟨kk, e_kk⟩ : ∃ z : Int64, z = ((q2 &&& (9223372036854775807 : Int64)) - ((q2 &&& (9223372036854775807 : Int64)) / ((lf + (1 : Int32)).toInt64)) * ((lf + (1 : Int32)).toInt64)) := ⟨_, rfl⟩
  have hk := own_k hl e_kk
  have z2 : n0 ≤ h1.size := (Nat.le_trans Z0 E1.1)
  obtain ⟨T3, h3, X3, e3, E3, A3, D3, U3, st3⟩ := newO X1 hx hZ hown (hw _ (List.mem_of_getElem? (i := 3) rfl)) (hw _ (List.mem_of_getElem? (i := 4) rfl)) (hw _ (List.mem_of_getElem? (i := 5) rfl)) e1 (g := (mkF m 46 #[.val (.int p0), .val (.int p1), .val (.long q2), .second, .val (.ref b1), .val (.int ee), .val (.int pp), .val (.int lf), .val (.long kk), .second, .unset, .unset, .unset, .unset] [])) rfl (hb hby at_46) (by decide) (by decide)
  obtain ⟨b3, g3⟩ : ∃ z, z = h1.size := ⟨_, rfl⟩
  rw [← g3] at A3 D3 U3 st3
  have g_b3 : n0 ≤ b3 := Nat.le_trans z2 (Nat.le_of_eq g3.symm)
  have sz_b3 : h0.size ≤ b3 := Nat.le_trans J1.1 (Nat.le_of_eq g3.symm)
  have ne4 : b1 ≠ b3 := Nat.ne_of_lt (Nat.lt_of_lt_of_le V_b1.lt (Nat.le_of_eq g3.symm))
  have F_bytes_b3 : Fld Z h3 b3 "com/example/wicol/wicol/ByteReader" "bytes" "[B" .null := D3 (Or.inr (hw _ (List.mem_of_getElem? (i := 13) rfl))) (ty := (.array .byte)) (by decide)
  have F_position_b3 : Fld Z h3 b3 "com/example/wicol/wicol/ByteReader" "position" "I" (.int (0 : Int32)) := D3 (Or.inl (hw _ (List.mem_of_getElem? (i := 15) rfl))) (ty := .int) (by decide)
  have F_end_b3 : Fld Z h3 b3 "com/example/wicol/wicol/ByteReader" "end" "I" (.int (0 : Int32)) := D3 (Or.inr (hw _ (List.mem_of_getElem? (i := 17) rfl))) (ty := .int) (by decide)
  have J3 : Keep h0 h3 [] := J1.ext E3
  have z5 : n0 ≤ h3.size := (Nat.le_trans z2 E3.1)
  -- pc 56: ByteReader.<init> by rm1
  obtain ⟨_, _, ⟨T6, L6, k6, n6⟩, -, X6, ⟨Lc6, hQ6, l6, y6, z6'⟩, st6⟩ := X3.specialBack hx (y := (⟨"com/example/wicol/wicol/ByteReader", "<init>", "([BII)V"⟩ : MethodName)) rfl hown (mvT hZ (hw _ (List.mem_of_getElem? (i := 6) rfl))) (mvT hZ (hw _ (List.mem_of_getElem? (i := 7) rfl))) (mvT hZ (hw _ (List.mem_of_getElem? (i := 8) rfl))) (by decide) (backOf (W := 1) (rm1 l Z a0 hw [] b3 b1 pp ee h3 n0 z5 A3 F_bytes_b3 F_position_b3 F_end_b3 g_b3) hZ (hw _ (List.mem_of_getElem? (i := 8) rfl)) (hw _ (List.mem_of_getElem? (i := 5) rfl)) (by decide) (by decide)) (g := (mkF m 56 #[.val (.int p0), .val (.int p1), .val (.long q2), .second, .val (.ref b1), .val (.int ee), .val (.int pp), .val (.int lf), .val (.long kk), .second, .unset, .unset, .unset, .unset] [(.int ee), (.int pp), (.ref b1), (.ref b3), (.ref b3)])) rfl (by rw [hml]; rfl) (Steps.refl _) (a := b3) (argsL := [(.ref b1), (.int pp), (.int ee)]) (rest := [(.ref b3)]) (lenOf pd_1 rfl) rfl (by show 2 * 0 + _ ≤ _; exact Nat.le_of_eq rfl) (hb hby at_56) (fun _ _ => ⟨rfl, e3, (by decide : 2 + 0 ≤ _), (by decide : 19 + 0 ≤ _)⟩)
  dsimp only [Pt.U, Pt.locs, Pt.cells, Pt.slots] at X6 l6 y6 z6' st6 hQ6
  subst l6 y6 z6'
  obtain ⟨rfl, N6q, K6, r0_6, r1_6⟩ := hQ6
  have N6 := Fr.app N0 N6q
  have J6 : Keep h0 T6.heap [] := J3.trans K6 (allS (Or.inr sz_b3) all0)
  have z7 : n0 ≤ T6.heap.size := (Nat.le_trans z5 K6.1)
  have c9 : Exa Z T6.heap b3 "com/example/wicol/wicol/ByteReader" := (A3.keep K6)
  obtain ⟨cq8, kq8, q8a, q8b, q8c⟩ := isOf hZ rfl c9
  -- pc 63: ByteReader.atEnd by rm14
  obtain ⟨_, _, ⟨T8, L8, k8, n8⟩, -, X8, ⟨Lc8, hQ8, l8, y8, z8'⟩, st8⟩ := X6.virtualBack hx (y := (⟨"com/example/wicol/wicol/ByteReader", "atEnd", "()Z"⟩ : MethodName)) (z := (⟨"com/example/wicol/wicol/ByteReader", "atEnd", "()Z"⟩ : MethodName)) hown (mvT hZ (hw _ (List.mem_of_getElem? (i := 18) rfl))) (mvT hZ (hw _ (List.mem_of_getElem? (i := 19) rfl))) (notFace_of_selects (args := #[]) (mvT hZ (hw _ (List.mem_of_getElem? (i := 21) rfl)))) (mvT hZ (hw _ (List.mem_of_getElem? (i := 21) rfl))) (mvT hZ (hw _ (List.mem_of_getElem? (i := 20) rfl))) (by decide) (backOf (W := 0) (rm14 l Z a0 hw [] b3 pp ee T6.heap n0 z7 r0_6 r1_6) hZ (hw _ (List.mem_of_getElem? (i := 22) rfl)) (hw _ (List.mem_of_getElem? (i := 5) rfl)) (by decide) (by decide)) q8a q8c (g := (mkF m 63 #[.val (.int p0), .val (.int p1), .val (.long q2), .second, .val (.ref b1), .val (.int ee), .val (.int pp), .val (.int lf), .val (.long kk), .second, .val (.ref b3), .unset, .unset, .unset] [(.ref b3)])) rfl (by rw [hml]; rfl) (Steps.refl _) (argsL := []) (rest := []) (lenOf pd_2 rfl) rfl (by show 2 * 0 + _ ≤ _; exact Nat.le_of_eq rfl) (hb hby at_63) (fun _ _ => ⟨rfl, rfl, (by decide : 2 + 0 ≤ _), (by decide : 19 + 0 ≤ _)⟩)
  dsimp only [Pt.U, Pt.locs, Pt.cells, Pt.slots] at X8 l8 y8 z8' st8 hQ8
  subst l8 y8 z8'
  obtain ⟨rfl, N8q, K8⟩ := hQ8
  have N8 := Fr.app N6 N8q
  have J8 : Keep h0 T8.heap [] := J6.trans K8 all0
  have c10 : Exa Z T8.heap b3 "com/example/wicol/wicol/ByteReader" := (c9.keep K8)
  have c11 : Fld Z T8.heap b3 "com/example/wicol/wicol/ByteReader" "position" "I" (.int pp) := (r0_6.keep K8 nin0)
  have c12 : Fld Z T8.heap b3 "com/example/wicol/wicol/ByteReader" "end" "I" (.int ee) := (r1_6.keep K8 nin0)
  have z13 : n0 ≤ T8.heap.size := (Nat.le_trans z7 K8.1)
  obtain ⟨cq14, kq14, q14a, q14b, q14c⟩ := isOf hZ rfl c10
  -- pc 92: ByteReader.skip by rm5
  obtain ⟨_, _, ⟨T14, L14, k14, n14⟩, -, X14, ⟨Lc14, hQ14, l14, y14, z14'⟩, st14⟩ := X8.virtualBack hx (y := (⟨"com/example/wicol/wicol/ByteReader", "skip", "(J)V"⟩ : MethodName)) (z := (⟨"com/example/wicol/wicol/ByteReader", "skip", "(J)V"⟩ : MethodName)) hown (mvT hZ (hw _ (List.mem_of_getElem? (i := 23) rfl))) (mvT hZ (hw _ (List.mem_of_getElem? (i := 24) rfl))) (notFace_of_selects (args := #[]) (mvT hZ (hw _ (List.mem_of_getElem? (i := 26) rfl)))) (mvT hZ (hw _ (List.mem_of_getElem? (i := 26) rfl))) (mvT hZ (hw _ (List.mem_of_getElem? (i := 25) rfl))) (by decide) (backOf (W := 0) (rm5 l Z a0 hw [] b3 kk pp ee T8.heap n0 z13 c10 c11 c12 g_b3 (own_s1 he hp e_lf hk)) hZ (hw _ (List.mem_of_getElem? (i := 27) rfl)) (hw _ (List.mem_of_getElem? (i := 5) rfl)) (by decide) (by decide)) q14a q14c (g := (mkF m 92 #[.val (.int p0), .val (.int p1), .val (.long q2), .second, .val (.ref b1), .val (.int ee), .val (.int pp), .val (.int lf), .val (.long kk), .second, .val (.ref b3), .val (.int (if (if pp = ee then (1 : Int32) else 0) = (if pp = ee then (1 : Int32) else 0) then (1 : Int32) else 0)), .unset, .unset] [(.long kk), (.ref b3)])) rfl (by rw [hml]; rfl) (Steps.refl _) (argsL := [(.long kk)]) (rest := []) (lenOf pd_0 rfl) rfl (by show 2 * 0 + _ ≤ _; exact Nat.le_of_eq rfl) (hb hby at_92) (fun _ _ => ⟨rfl, rfl, (by decide : 2 + 0 ≤ _), (by decide : 19 + 0 ≤ _)⟩)
  dsimp only [Pt.U, Pt.locs, Pt.cells, Pt.slots] at X14 l14 y14 z14' st14 hQ14
  subst l14 y14 z14'
  obtain ⟨rfl, N14q, K14, r0_14, r1_14⟩ := hQ14
  have N14 := Fr.app N8 N14q
  have J14 : Keep h0 T14.heap [] := J8.trans K14 (allS (Or.inr sz_b3) all0)
  have z15 : n0 ≤ T14.heap.size := (Nat.le_trans z13 K14.1)
  have c17 : Exa Z T14.heap b3 "com/example/wicol/wicol/ByteReader" := (c10.keep K14)
  obtain ⟨cq16, kq16, q16a, q16b, q16c⟩ := isOf hZ rfl c17
  -- pc 97: ByteReader.atEnd by rm14
  obtain ⟨_, _, ⟨T16, L16, k16, n16⟩, -, X16, ⟨Lc16, hQ16, l16, y16, z16'⟩, st16⟩ := X14.virtualBack hx (y := (⟨"com/example/wicol/wicol/ByteReader", "atEnd", "()Z"⟩ : MethodName)) (z := (⟨"com/example/wicol/wicol/ByteReader", "atEnd", "()Z"⟩ : MethodName)) hown (mvT hZ (hw _ (List.mem_of_getElem? (i := 18) rfl))) (mvT hZ (hw _ (List.mem_of_getElem? (i := 19) rfl))) (notFace_of_selects (args := #[]) (mvT hZ (hw _ (List.mem_of_getElem? (i := 21) rfl)))) (mvT hZ (hw _ (List.mem_of_getElem? (i := 21) rfl))) (mvT hZ (hw _ (List.mem_of_getElem? (i := 20) rfl))) (by decide) (backOf (W := 0) (rm14 l Z a0 hw [] b3 (pp + (kk.toInt32)) ee T14.heap n0 z15 r0_14 r1_14) hZ (hw _ (List.mem_of_getElem? (i := 22) rfl)) (hw _ (List.mem_of_getElem? (i := 5) rfl)) (by decide) (by decide)) q16a q16c (g := (mkF m 97 #[.val (.int p0), .val (.int p1), .val (.long q2), .second, .val (.ref b1), .val (.int ee), .val (.int pp), .val (.int lf), .val (.long kk), .second, .val (.ref b3), .val (.int (if (if pp = ee then (1 : Int32) else 0) = (if pp = ee then (1 : Int32) else 0) then (1 : Int32) else 0)), .unset, .unset] [(.ref b3)])) rfl (by rw [hml]; rfl) (Steps.refl _) (argsL := []) (rest := []) (lenOf pd_2 rfl) rfl (by show 2 * 0 + _ ≤ _; exact Nat.le_of_eq rfl) (hb hby at_97) (fun _ _ => ⟨rfl, rfl, (by decide : 2 + 0 ≤ _), (by decide : 19 + 0 ≤ _)⟩)
  dsimp only [Pt.U, Pt.locs, Pt.cells, Pt.slots] at X16 l16 y16 z16' st16 hQ16
  subst l16 y16 z16'
  obtain ⟨rfl, N16q, K16⟩ := hQ16
  have N16 := Fr.app N14 N16q
  have J16 : Keep h0 T16.heap [] := J14.trans K16 all0
  have c18 : Exa Z T16.heap b3 "com/example/wicol/wicol/ByteReader" := (c17.keep K16)
  have c19 : Fld Z T16.heap b3 "com/example/wicol/wicol/ByteReader" "position" "I" (.int (pp + (kk.toInt32))) := (r0_14.keep K16 nin0)
  have c20 : Fld Z T16.heap b3 "com/example/wicol/wicol/ByteReader" "end" "I" (.int ee) := (r1_14.keep K16 nin0)
  have z21 : n0 ≤ T16.heap.size := (Nat.le_trans z15 K16.1)
  obtain ⟨cq22, kq22, q22a, q22b, q22c⟩ := isOf hZ rfl c18
  -- pc 132: ByteReader.skip by rm5
  obtain ⟨_, _, ⟨T22, L22, k22, n22⟩, -, X22, ⟨Lc22, hQ22, l22, y22, z22'⟩, st22⟩ := X16.virtualBack hx (y := (⟨"com/example/wicol/wicol/ByteReader", "skip", "(J)V"⟩ : MethodName)) (z := (⟨"com/example/wicol/wicol/ByteReader", "skip", "(J)V"⟩ : MethodName)) hown (mvT hZ (hw _ (List.mem_of_getElem? (i := 23) rfl))) (mvT hZ (hw _ (List.mem_of_getElem? (i := 24) rfl))) (notFace_of_selects (args := #[]) (mvT hZ (hw _ (List.mem_of_getElem? (i := 26) rfl)))) (mvT hZ (hw _ (List.mem_of_getElem? (i := 26) rfl))) (mvT hZ (hw _ (List.mem_of_getElem? (i := 25) rfl))) (by decide) (backOf (W := 0) (rm5 l Z a0 hw [] b3 ((lf.toInt64) - kk) (pp + (kk.toInt32)) ee T16.heap n0 z21 c18 c19 c20 g_b3 (own_s2 he hp e_lf hk)) hZ (hw _ (List.mem_of_getElem? (i := 27) rfl)) (hw _ (List.mem_of_getElem? (i := 5) rfl)) (by decide) (by decide)) q22a q22c (g := (mkF m 132 #[.val (.int p0), .val (.int p1), .val (.long q2), .second, .val (.ref b1), .val (.int ee), .val (.int pp), .val (.int lf), .val (.long kk), .second, .val (.ref b3), .val (.int (if (if pp = ee then (1 : Int32) else 0) = (if pp = ee then (1 : Int32) else 0) then (1 : Int32) else 0)), .val (.int (if (if (pp + (kk.toInt32)) = ee then (1 : Int32) else 0) = (if kk = (lf.toInt64) then (1 : Int32) else 0) then (1 : Int32) else 0)), .unset] [(.long ((lf.toInt64) - kk)), (.ref b3)])) rfl (by rw [hml]; rfl) (Steps.refl _) (argsL := [(.long ((lf.toInt64) - kk))]) (rest := []) (lenOf pd_0 rfl) rfl (by show 2 * 0 + _ ≤ _; exact Nat.le_of_eq rfl) (hb hby at_132) (fun _ _ => ⟨rfl, rfl, (by decide : 2 + 0 ≤ _), (by decide : 19 + 0 ≤ _)⟩)
  dsimp only [Pt.U, Pt.locs, Pt.cells, Pt.slots] at X22 l22 y22 z22' st22 hQ22
  subst l22 y22 z22'
  obtain ⟨rfl, N22q, K22, r0_22, r1_22⟩ := hQ22
  have N22 := Fr.app N16 N22q
  have J22 : Keep h0 T22.heap [] := J16.trans K22 (allS (Or.inr sz_b3) all0)
  have z23 : n0 ≤ T22.heap.size := (Nat.le_trans z21 K22.1)
  have c25 : Exa Z T22.heap b3 "com/example/wicol/wicol/ByteReader" := (c18.keep K22)
  obtain ⟨cq24, kq24, q24a, q24b, q24c⟩ := isOf hZ rfl c25
  -- pc 137: ByteReader.atEnd by rm14
  obtain ⟨_, _, ⟨T24, L24, k24, n24⟩, -, X24, ⟨Lc24, hQ24, l24, y24, z24'⟩, st24⟩ := X22.virtualBack hx (y := (⟨"com/example/wicol/wicol/ByteReader", "atEnd", "()Z"⟩ : MethodName)) (z := (⟨"com/example/wicol/wicol/ByteReader", "atEnd", "()Z"⟩ : MethodName)) hown (mvT hZ (hw _ (List.mem_of_getElem? (i := 18) rfl))) (mvT hZ (hw _ (List.mem_of_getElem? (i := 19) rfl))) (notFace_of_selects (args := #[]) (mvT hZ (hw _ (List.mem_of_getElem? (i := 21) rfl)))) (mvT hZ (hw _ (List.mem_of_getElem? (i := 21) rfl))) (mvT hZ (hw _ (List.mem_of_getElem? (i := 20) rfl))) (by decide) (backOf (W := 0) (rm14 l Z a0 hw [] b3 ((pp + (kk.toInt32)) + (((lf.toInt64) - kk).toInt32)) ee T22.heap n0 z23 r0_22 r1_22) hZ (hw _ (List.mem_of_getElem? (i := 22) rfl)) (hw _ (List.mem_of_getElem? (i := 5) rfl)) (by decide) (by decide)) q24a q24c (g := (mkF m 137 #[.val (.int p0), .val (.int p1), .val (.long q2), .second, .val (.ref b1), .val (.int ee), .val (.int pp), .val (.int lf), .val (.long kk), .second, .val (.ref b3), .val (.int (if (if pp = ee then (1 : Int32) else 0) = (if pp = ee then (1 : Int32) else 0) then (1 : Int32) else 0)), .val (.int (if (if (pp + (kk.toInt32)) = ee then (1 : Int32) else 0) = (if kk = (lf.toInt64) then (1 : Int32) else 0) then (1 : Int32) else 0)), .unset] [(.ref b3)])) rfl (by rw [hml]; rfl) (Steps.refl _) (argsL := []) (rest := []) (lenOf pd_2 rfl) rfl (by show 2 * 0 + _ ≤ _; exact Nat.le_of_eq rfl) (hb hby at_137) (fun _ _ => ⟨rfl, rfl, (by decide : 2 + 0 ≤ _), (by decide : 19 + 0 ≤ _)⟩)
  dsimp only [Pt.U, Pt.locs, Pt.cells, Pt.slots] at X24 l24 y24 z24' st24 hQ24
  subst l24 y24 z24'
  obtain ⟨rfl, N24q, K24⟩ := hQ24
  have N24 := Fr.app N22 N24q
  have J24 : Keep h0 T24.heap [] := J22.trans K24 all0
  have hc144_26 : (if pp = ee then (1 : Int32) else 0) = (if pp = ee then (1 : Int32) else 0) := rfl
  have hc149_27 : (if (pp + (kk.toInt32)) = ee then (1 : Int32) else 0) = (if kk = (lf.toInt64) then (1 : Int32) else 0) := own_m he hp e_lf hk
  have hc154_28 : ((pp + (kk.toInt32)) + (((lf.toInt64) - kk).toInt32)) = ee := own_f he hp e_lf hk
  obtain ⟨fs, hr, hrun, hended, hW, hsame⟩ := X24.leave (v := some (.int (1 : Int32))) (fun h => by rw [Bd.returns] at h; cases h)
  refine ⟨_, _, pre0 _ ?_, hrun, hended, _, _, rfl, ?_, ⟨_, rfl⟩, hW, hsame.mono (by decide) (by decide)⟩
  · show Steps p.tables e below (s₁.setTop (mkF m 0 #[.val (.int p0), .val (.int p1), .val (.long q2), .second, .unset, .unset, .unset, .unset, .unset, .unset, .unset, .unset, .unset, .unset] [])) _
    refine XS.bipush X0.here hx rfl (hb hby at_0) ?_
    show Steps p.tables e below (s₁.setTop (mkF m 2 #[.val (.int p0), .val (.int p1), .val (.long q2), .second, .unset, .unset, .unset, .unset, .unset, .unset, .unset, .unset, .unset, .unset] [(.int (16 : Int32))])) _
    refine st1 _ ?_
    show Steps p.tables e below (T1.setTop (mkF m 4 #[.val (.int p0), .val (.int p1), .val (.long q2), .second, .unset, .unset, .unset, .unset, .unset, .unset, .unset, .unset, .unset, .unset] [(.ref b1)])) _
    refine XS.astore X1.here hx rfl (hb hby at_4) rfl rfl (l' := #[.val (.int p0), .val (.int p1), .val (.long q2), .second, .val (.ref b1), .unset, .unset, .unset, .unset, .unset, .unset, .unset, .unset, .unset]) rfl ?_
    show Steps p.tables e below (T1.setTop (mkF m 6 #[.val (.int p0), .val (.int p1), .val (.long q2), .second, .val (.ref b1), .unset, .unset, .unset, .unset, .unset, .unset, .unset, .unset, .unset] [])) _
    refine XS.iloadN X1.here hx rfl (hb hby at_6) rfl ?_
    show Steps p.tables e below (T1.setTop (mkF m 7 #[.val (.int p0), .val (.int p1), .val (.long q2), .second, .val (.ref b1), .unset, .unset, .unset, .unset, .unset, .unset, .unset, .unset, .unset] [(.int p0)])) _
    refine X1.ldcInt hx hown (mvT hZ (hw _ (List.mem_of_getElem? (i := 1) rfl))) (g := (mkF m 7 #[.val (.int p0), .val (.int p1), .val (.long q2), .second, .val (.ref b1), .unset, .unset, .unset, .unset, .unset, .unset, .unset, .unset, .unset] [(.int p0)])) rfl (hb hby at_7) _ ?_
    show Steps p.tables e below (T1.setTop (mkF m 9 #[.val (.int p0), .val (.int p1), .val (.long q2), .second, .val (.ref b1), .unset, .unset, .unset, .unset, .unset, .unset, .unset, .unset, .unset] [(.int (2147483647 : Int32)), (.int p0)])) _
    refine XS.iand X1.here hx rfl (hb hby at_9) rfl ?_
    show Steps p.tables e below (T1.setTop (mkF m 10 #[.val (.int p0), .val (.int p1), .val (.long q2), .second, .val (.ref b1), .unset, .unset, .unset, .unset, .unset, .unset, .unset, .unset, .unset] [(.int (p0 &&& (2147483647 : Int32)))])) _
    refine XS.bipush X1.here hx rfl (hb hby at_10) ?_
    show Steps p.tables e below (T1.setTop (mkF m 12 #[.val (.int p0), .val (.int p1), .val (.long q2), .second, .val (.ref b1), .unset, .unset, .unset, .unset, .unset, .unset, .unset, .unset, .unset] [(.int (17 : Int32)), (.int (p0 &&& (2147483647 : Int32)))])) _
    refine XS.irem X1.here hx rfl (hb hby at_12) rfl (by decide) ?_
    show Steps p.tables e below (T1.setTop (mkF m 13 #[.val (.int p0), .val (.int p1), .val (.long q2), .second, .val (.ref b1), .unset, .unset, .unset, .unset, .unset, .unset, .unset, .unset, .unset] [(.int ((p0 &&& (2147483647 : Int32)) - ((p0 &&& (2147483647 : Int32)) / (17 : Int32)) * (17 : Int32)))])) _
    rw [← e_ee]
    show Steps p.tables e below (T1.setTop (mkF m 13 #[.val (.int p0), .val (.int p1), .val (.long q2), .second, .val (.ref b1), .unset, .unset, .unset, .unset, .unset, .unset, .unset, .unset, .unset] [(.int ee)])) _
    refine XS.istore X1.here hx rfl (hb hby at_13) rfl (l' := #[.val (.int p0), .val (.int p1), .val (.long q2), .second, .val (.ref b1), .val (.int ee), .unset, .unset, .unset, .unset, .unset, .unset, .unset, .unset]) rfl ?_
    show Steps p.tables e below (T1.setTop (mkF m 15 #[.val (.int p0), .val (.int p1), .val (.long q2), .second, .val (.ref b1), .val (.int ee), .unset, .unset, .unset, .unset, .unset, .unset, .unset, .unset] [])) _
    refine XS.iloadN X1.here hx rfl (hb hby at_15) rfl ?_
    show Steps p.tables e below (T1.setTop (mkF m 16 #[.val (.int p0), .val (.int p1), .val (.long q2), .second, .val (.ref b1), .val (.int ee), .unset, .unset, .unset, .unset, .unset, .unset, .unset, .unset] [(.int p1)])) _
    refine X1.ldcInt hx hown (mvT hZ (hw _ (List.mem_of_getElem? (i := 1) rfl))) (g := (mkF m 16 #[.val (.int p0), .val (.int p1), .val (.long q2), .second, .val (.ref b1), .val (.int ee), .unset, .unset, .unset, .unset, .unset, .unset, .unset, .unset] [(.int p1)])) rfl (hb hby at_16) _ ?_
    show Steps p.tables e below (T1.setTop (mkF m 18 #[.val (.int p0), .val (.int p1), .val (.long q2), .second, .val (.ref b1), .val (.int ee), .unset, .unset, .unset, .unset, .unset, .unset, .unset, .unset] [(.int (2147483647 : Int32)), (.int p1)])) _
    refine XS.iand X1.here hx rfl (hb hby at_18) rfl ?_
    show Steps p.tables e below (T1.setTop (mkF m 19 #[.val (.int p0), .val (.int p1), .val (.long q2), .second, .val (.ref b1), .val (.int ee), .unset, .unset, .unset, .unset, .unset, .unset, .unset, .unset] [(.int (p1 &&& (2147483647 : Int32)))])) _
    refine XS.iload X1.here hx rfl (hb hby at_19) rfl ?_
    show Steps p.tables e below (T1.setTop (mkF m 21 #[.val (.int p0), .val (.int p1), .val (.long q2), .second, .val (.ref b1), .val (.int ee), .unset, .unset, .unset, .unset, .unset, .unset, .unset, .unset] [(.int ee), (.int (p1 &&& (2147483647 : Int32)))])) _
    refine XS.iconst X1.here hx rfl (hb hby at_21) ?_
    show Steps p.tables e below (T1.setTop (mkF m 22 #[.val (.int p0), .val (.int p1), .val (.long q2), .second, .val (.ref b1), .val (.int ee), .unset, .unset, .unset, .unset, .unset, .unset, .unset, .unset] [(.int (1 : Int32)), (.int ee), (.int (p1 &&& (2147483647 : Int32)))])) _
    refine XS.iadd X1.here hx rfl (hb hby at_22) rfl ?_
    show Steps p.tables e below (T1.setTop (mkF m 23 #[.val (.int p0), .val (.int p1), .val (.long q2), .second, .val (.ref b1), .val (.int ee), .unset, .unset, .unset, .unset, .unset, .unset, .unset, .unset] [(.int (ee + (1 : Int32))), (.int (p1 &&& (2147483647 : Int32)))])) _
    refine XS.irem X1.here hx rfl (hb hby at_23) rfl (own_nz he) ?_
    show Steps p.tables e below (T1.setTop (mkF m 24 #[.val (.int p0), .val (.int p1), .val (.long q2), .second, .val (.ref b1), .val (.int ee), .unset, .unset, .unset, .unset, .unset, .unset, .unset, .unset] [(.int ((p1 &&& (2147483647 : Int32)) - ((p1 &&& (2147483647 : Int32)) / (ee + (1 : Int32))) * (ee + (1 : Int32))))])) _
    rw [← e_pp]
    show Steps p.tables e below (T1.setTop (mkF m 24 #[.val (.int p0), .val (.int p1), .val (.long q2), .second, .val (.ref b1), .val (.int ee), .unset, .unset, .unset, .unset, .unset, .unset, .unset, .unset] [(.int pp)])) _
    refine XS.istore X1.here hx rfl (hb hby at_24) rfl (l' := #[.val (.int p0), .val (.int p1), .val (.long q2), .second, .val (.ref b1), .val (.int ee), .val (.int pp), .unset, .unset, .unset, .unset, .unset, .unset, .unset]) rfl ?_
    show Steps p.tables e below (T1.setTop (mkF m 26 #[.val (.int p0), .val (.int p1), .val (.long q2), .second, .val (.ref b1), .val (.int ee), .val (.int pp), .unset, .unset, .unset, .unset, .unset, .unset, .unset] [])) _
    refine XS.iload X1.here hx rfl (hb hby at_26) rfl ?_
    show Steps p.tables e below (T1.setTop (mkF m 28 #[.val (.int p0), .val (.int p1), .val (.long q2), .second, .val (.ref b1), .val (.int ee), .val (.int pp), .unset, .unset, .unset, .unset, .unset, .unset, .unset] [(.int ee)])) _
    refine XS.iload X1.here hx rfl (hb hby at_28) rfl ?_
    show Steps p.tables e below (T1.setTop (mkF m 30 #[.val (.int p0), .val (.int p1), .val (.long q2), .second, .val (.ref b1), .val (.int ee), .val (.int pp), .unset, .unset, .unset, .unset, .unset, .unset, .unset] [(.int pp), (.int ee)])) _
    refine XS.isub X1.here hx rfl (hb hby at_30) rfl ?_
    show Steps p.tables e below (T1.setTop (mkF m 31 #[.val (.int p0), .val (.int p1), .val (.long q2), .second, .val (.ref b1), .val (.int ee), .val (.int pp), .unset, .unset, .unset, .unset, .unset, .unset, .unset] [(.int (ee - pp))])) _
    rw [← e_lf]
    show Steps p.tables e below (T1.setTop (mkF m 31 #[.val (.int p0), .val (.int p1), .val (.long q2), .second, .val (.ref b1), .val (.int ee), .val (.int pp), .unset, .unset, .unset, .unset, .unset, .unset, .unset] [(.int lf)])) _
    refine XS.istore X1.here hx rfl (hb hby at_31) rfl (l' := #[.val (.int p0), .val (.int p1), .val (.long q2), .second, .val (.ref b1), .val (.int ee), .val (.int pp), .val (.int lf), .unset, .unset, .unset, .unset, .unset, .unset]) rfl ?_
    show Steps p.tables e below (T1.setTop (mkF m 33 #[.val (.int p0), .val (.int p1), .val (.long q2), .second, .val (.ref b1), .val (.int ee), .val (.int pp), .val (.int lf), .unset, .unset, .unset, .unset, .unset, .unset] [])) _
    refine XS.lloadN X1.here hx rfl (hb hby at_33) rfl ?_
    show Steps p.tables e below (T1.setTop (mkF m 34 #[.val (.int p0), .val (.int p1), .val (.long q2), .second, .val (.ref b1), .val (.int ee), .val (.int pp), .val (.int lf), .unset, .unset, .unset, .unset, .unset, .unset] [(.long q2)])) _
    refine X1.ldc2Long hx hown (mvT hZ (hw _ (List.mem_of_getElem? (i := 2) rfl))) (g := (mkF m 34 #[.val (.int p0), .val (.int p1), .val (.long q2), .second, .val (.ref b1), .val (.int ee), .val (.int pp), .val (.int lf), .unset, .unset, .unset, .unset, .unset, .unset] [(.long q2)])) rfl (hb hby at_34) _ ?_
    show Steps p.tables e below (T1.setTop (mkF m 37 #[.val (.int p0), .val (.int p1), .val (.long q2), .second, .val (.ref b1), .val (.int ee), .val (.int pp), .val (.int lf), .unset, .unset, .unset, .unset, .unset, .unset] [(.long (9223372036854775807 : Int64)), (.long q2)])) _
    refine XS.land X1.here hx rfl (hb hby at_37) rfl ?_
    show Steps p.tables e below (T1.setTop (mkF m 38 #[.val (.int p0), .val (.int p1), .val (.long q2), .second, .val (.ref b1), .val (.int ee), .val (.int pp), .val (.int lf), .unset, .unset, .unset, .unset, .unset, .unset] [(.long (q2 &&& (9223372036854775807 : Int64)))])) _
    refine XS.iload X1.here hx rfl (hb hby at_38) rfl ?_
    show Steps p.tables e below (T1.setTop (mkF m 40 #[.val (.int p0), .val (.int p1), .val (.long q2), .second, .val (.ref b1), .val (.int ee), .val (.int pp), .val (.int lf), .unset, .unset, .unset, .unset, .unset, .unset] [(.int lf), (.long (q2 &&& (9223372036854775807 : Int64)))])) _
    refine XS.iconst X1.here hx rfl (hb hby at_40) ?_
    show Steps p.tables e below (T1.setTop (mkF m 41 #[.val (.int p0), .val (.int p1), .val (.long q2), .second, .val (.ref b1), .val (.int ee), .val (.int pp), .val (.int lf), .unset, .unset, .unset, .unset, .unset, .unset] [(.int (1 : Int32)), (.int lf), (.long (q2 &&& (9223372036854775807 : Int64)))])) _
    refine XS.iadd X1.here hx rfl (hb hby at_41) rfl ?_
    show Steps p.tables e below (T1.setTop (mkF m 42 #[.val (.int p0), .val (.int p1), .val (.long q2), .second, .val (.ref b1), .val (.int ee), .val (.int pp), .val (.int lf), .unset, .unset, .unset, .unset, .unset, .unset] [(.int (lf + (1 : Int32))), (.long (q2 &&& (9223372036854775807 : Int64)))])) _
    refine XS.i2l X1.here hx rfl (hb hby at_42) rfl ?_
    show Steps p.tables e below (T1.setTop (mkF m 43 #[.val (.int p0), .val (.int p1), .val (.long q2), .second, .val (.ref b1), .val (.int ee), .val (.int pp), .val (.int lf), .unset, .unset, .unset, .unset, .unset, .unset] [(.long ((lf + (1 : Int32)).toInt64)), (.long (q2 &&& (9223372036854775807 : Int64)))])) _
    refine XS.lrem X1.here hx rfl (hb hby at_43) rfl (own_nzL hl) ?_
    show Steps p.tables e below (T1.setTop (mkF m 44 #[.val (.int p0), .val (.int p1), .val (.long q2), .second, .val (.ref b1), .val (.int ee), .val (.int pp), .val (.int lf), .unset, .unset, .unset, .unset, .unset, .unset] [(.long ((q2 &&& (9223372036854775807 : Int64)) - ((q2 &&& (9223372036854775807 : Int64)) / ((lf + (1 : Int32)).toInt64)) * ((lf + (1 : Int32)).toInt64)))])) _
    rw [← e_kk]
    show Steps p.tables e below (T1.setTop (mkF m 44 #[.val (.int p0), .val (.int p1), .val (.long q2), .second, .val (.ref b1), .val (.int ee), .val (.int pp), .val (.int lf), .unset, .unset, .unset, .unset, .unset, .unset] [(.long kk)])) _
    refine XS.lstore X1.here hx rfl (hb hby at_44) rfl (l' := #[.val (.int p0), .val (.int p1), .val (.long q2), .second, .val (.ref b1), .val (.int ee), .val (.int pp), .val (.int lf), .val (.long kk), .second, .unset, .unset, .unset, .unset]) rfl ?_
    show Steps p.tables e below (T1.setTop (mkF m 46 #[.val (.int p0), .val (.int p1), .val (.long q2), .second, .val (.ref b1), .val (.int ee), .val (.int pp), .val (.int lf), .val (.long kk), .second, .unset, .unset, .unset, .unset] [])) _
    refine st3 _ ?_
    show Steps p.tables e below (T3.setTop (mkF m 49 #[.val (.int p0), .val (.int p1), .val (.long q2), .second, .val (.ref b1), .val (.int ee), .val (.int pp), .val (.int lf), .val (.long kk), .second, .unset, .unset, .unset, .unset] [(.ref b3)])) _
    refine XS.dup X3.here hx rfl (hb hby at_49) rfl rfl ?_
    show Steps p.tables e below (T3.setTop (mkF m 50 #[.val (.int p0), .val (.int p1), .val (.long q2), .second, .val (.ref b1), .val (.int ee), .val (.int pp), .val (.int lf), .val (.long kk), .second, .unset, .unset, .unset, .unset] [(.ref b3), (.ref b3)])) _
    refine XS.aload X3.here hx rfl (hb hby at_50) rfl rfl ?_
    show Steps p.tables e below (T3.setTop (mkF m 52 #[.val (.int p0), .val (.int p1), .val (.long q2), .second, .val (.ref b1), .val (.int ee), .val (.int pp), .val (.int lf), .val (.long kk), .second, .unset, .unset, .unset, .unset] [(.ref b1), (.ref b3), (.ref b3)])) _
    refine XS.iload X3.here hx rfl (hb hby at_52) rfl ?_
    show Steps p.tables e below (T3.setTop (mkF m 54 #[.val (.int p0), .val (.int p1), .val (.long q2), .second, .val (.ref b1), .val (.int ee), .val (.int pp), .val (.int lf), .val (.long kk), .second, .unset, .unset, .unset, .unset] [(.int pp), (.ref b1), (.ref b3), (.ref b3)])) _
    refine XS.iload X3.here hx rfl (hb hby at_54) rfl ?_
    show Steps p.tables e below (T3.setTop (mkF m 56 #[.val (.int p0), .val (.int p1), .val (.long q2), .second, .val (.ref b1), .val (.int ee), .val (.int pp), .val (.int lf), .val (.long kk), .second, .unset, .unset, .unset, .unset] [(.int ee), (.int pp), (.ref b1), (.ref b3), (.ref b3)])) _
    refine st6.trans ?_
    show Steps p.tables e below (T6.setTop (mkF m 59 #[.val (.int p0), .val (.int p1), .val (.long q2), .second, .val (.ref b1), .val (.int ee), .val (.int pp), .val (.int lf), .val (.long kk), .second, .unset, .unset, .unset, .unset] [(.ref b3)])) _
    refine XS.astore X6.here hx rfl (hb hby at_59) rfl rfl (l' := #[.val (.int p0), .val (.int p1), .val (.long q2), .second, .val (.ref b1), .val (.int ee), .val (.int pp), .val (.int lf), .val (.long kk), .second, .val (.ref b3), .unset, .unset, .unset]) rfl ?_
    show Steps p.tables e below (T6.setTop (mkF m 61 #[.val (.int p0), .val (.int p1), .val (.long q2), .second, .val (.ref b1), .val (.int ee), .val (.int pp), .val (.int lf), .val (.long kk), .second, .val (.ref b3), .unset, .unset, .unset] [])) _
    refine XS.aload X6.here hx rfl (hb hby at_61) rfl rfl ?_
    show Steps p.tables e below (T6.setTop (mkF m 63 #[.val (.int p0), .val (.int p1), .val (.long q2), .second, .val (.ref b1), .val (.int ee), .val (.int pp), .val (.int lf), .val (.long kk), .second, .val (.ref b3), .unset, .unset, .unset] [(.ref b3)])) _
    refine st8.trans ?_
    show Steps p.tables e below (T8.setTop (mkF m 66 #[.val (.int p0), .val (.int p1), .val (.long q2), .second, .val (.ref b1), .val (.int ee), .val (.int pp), .val (.int lf), .val (.long kk), .second, .val (.ref b3), .unset, .unset, .unset] [(.int (if pp = ee then (1 : Int32) else 0))])) _
    refine XS.iload X8.here hx rfl (hb hby at_66) rfl ?_
    show Steps p.tables e below (T8.setTop (mkF m 68 #[.val (.int p0), .val (.int p1), .val (.long q2), .second, .val (.ref b1), .val (.int ee), .val (.int pp), .val (.int lf), .val (.long kk), .second, .val (.ref b3), .unset, .unset, .unset] [(.int pp), (.int (if pp = ee then (1 : Int32) else 0))])) _
    refine XS.iload X8.here hx rfl (hb hby at_68) rfl ?_
    show Steps p.tables e below (T8.setTop (mkF m 70 #[.val (.int p0), .val (.int p1), .val (.long q2), .second, .val (.ref b1), .val (.int ee), .val (.int pp), .val (.int lf), .val (.long kk), .second, .val (.ref b3), .unset, .unset, .unset] [(.int ee), (.int pp), (.int (if pp = ee then (1 : Int32) else 0))])) _
    refine own_diaF2 X8.here hx rfl (pc0 := 70) rfl (hb hby at_70) (hb hby at_73) (hb hby at_74) (hb hby at_77) rfl (fun hq => (teq hq).2) (fun hq => (feq hq).2) ?_
    show Steps p.tables e below (T8.setTop (mkF m 78 #[.val (.int p0), .val (.int p1), .val (.long q2), .second, .val (.ref b1), .val (.int ee), .val (.int pp), .val (.int lf), .val (.long kk), .second, .val (.ref b3), .unset, .unset, .unset] [(.int (if pp = ee then (1 : Int32) else 0)), (.int (if pp = ee then (1 : Int32) else 0))])) _
    refine own_diaF2 X8.here hx rfl (pc0 := 78) rfl (hb hby at_78) (hb hby at_81) (hb hby at_82) (hb hby at_85) rfl (fun hq => (teq hq).2) (fun hq => (feq hq).2) ?_
    show Steps p.tables e below (T8.setTop (mkF m 86 #[.val (.int p0), .val (.int p1), .val (.long q2), .second, .val (.ref b1), .val (.int ee), .val (.int pp), .val (.int lf), .val (.long kk), .second, .val (.ref b3), .unset, .unset, .unset] [(.int (if (if pp = ee then (1 : Int32) else 0) = (if pp = ee then (1 : Int32) else 0) then (1 : Int32) else 0))])) _
    refine XS.istore X8.here hx rfl (hb hby at_86) rfl (l' := #[.val (.int p0), .val (.int p1), .val (.long q2), .second, .val (.ref b1), .val (.int ee), .val (.int pp), .val (.int lf), .val (.long kk), .second, .val (.ref b3), .val (.int (if (if pp = ee then (1 : Int32) else 0) = (if pp = ee then (1 : Int32) else 0) then (1 : Int32) else 0)), .unset, .unset]) rfl ?_
    show Steps p.tables e below (T8.setTop (mkF m 88 #[.val (.int p0), .val (.int p1), .val (.long q2), .second, .val (.ref b1), .val (.int ee), .val (.int pp), .val (.int lf), .val (.long kk), .second, .val (.ref b3), .val (.int (if (if pp = ee then (1 : Int32) else 0) = (if pp = ee then (1 : Int32) else 0) then (1 : Int32) else 0)), .unset, .unset] [])) _
    refine XS.aload X8.here hx rfl (hb hby at_88) rfl rfl ?_
    show Steps p.tables e below (T8.setTop (mkF m 90 #[.val (.int p0), .val (.int p1), .val (.long q2), .second, .val (.ref b1), .val (.int ee), .val (.int pp), .val (.int lf), .val (.long kk), .second, .val (.ref b3), .val (.int (if (if pp = ee then (1 : Int32) else 0) = (if pp = ee then (1 : Int32) else 0) then (1 : Int32) else 0)), .unset, .unset] [(.ref b3)])) _
    refine XS.lload X8.here hx rfl (hb hby at_90) rfl ?_
    show Steps p.tables e below (T8.setTop (mkF m 92 #[.val (.int p0), .val (.int p1), .val (.long q2), .second, .val (.ref b1), .val (.int ee), .val (.int pp), .val (.int lf), .val (.long kk), .second, .val (.ref b3), .val (.int (if (if pp = ee then (1 : Int32) else 0) = (if pp = ee then (1 : Int32) else 0) then (1 : Int32) else 0)), .unset, .unset] [(.long kk), (.ref b3)])) _
    refine st14.trans ?_
    show Steps p.tables e below (T14.setTop (mkF m 95 #[.val (.int p0), .val (.int p1), .val (.long q2), .second, .val (.ref b1), .val (.int ee), .val (.int pp), .val (.int lf), .val (.long kk), .second, .val (.ref b3), .val (.int (if (if pp = ee then (1 : Int32) else 0) = (if pp = ee then (1 : Int32) else 0) then (1 : Int32) else 0)), .unset, .unset] [])) _
    refine XS.aload X14.here hx rfl (hb hby at_95) rfl rfl ?_
    show Steps p.tables e below (T14.setTop (mkF m 97 #[.val (.int p0), .val (.int p1), .val (.long q2), .second, .val (.ref b1), .val (.int ee), .val (.int pp), .val (.int lf), .val (.long kk), .second, .val (.ref b3), .val (.int (if (if pp = ee then (1 : Int32) else 0) = (if pp = ee then (1 : Int32) else 0) then (1 : Int32) else 0)), .unset, .unset] [(.ref b3)])) _
    refine st16.trans ?_
    show Steps p.tables e below (T16.setTop (mkF m 100 #[.val (.int p0), .val (.int p1), .val (.long q2), .second, .val (.ref b1), .val (.int ee), .val (.int pp), .val (.int lf), .val (.long kk), .second, .val (.ref b3), .val (.int (if (if pp = ee then (1 : Int32) else 0) = (if pp = ee then (1 : Int32) else 0) then (1 : Int32) else 0)), .unset, .unset] [(.int (if (pp + (kk.toInt32)) = ee then (1 : Int32) else 0))])) _
    refine XS.lload X16.here hx rfl (hb hby at_100) rfl ?_
    show Steps p.tables e below (T16.setTop (mkF m 102 #[.val (.int p0), .val (.int p1), .val (.long q2), .second, .val (.ref b1), .val (.int ee), .val (.int pp), .val (.int lf), .val (.long kk), .second, .val (.ref b3), .val (.int (if (if pp = ee then (1 : Int32) else 0) = (if pp = ee then (1 : Int32) else 0) then (1 : Int32) else 0)), .unset, .unset] [(.long kk), (.int (if (pp + (kk.toInt32)) = ee then (1 : Int32) else 0))])) _
    refine XS.iload X16.here hx rfl (hb hby at_102) rfl ?_
    show Steps p.tables e below (T16.setTop (mkF m 104 #[.val (.int p0), .val (.int p1), .val (.long q2), .second, .val (.ref b1), .val (.int ee), .val (.int pp), .val (.int lf), .val (.long kk), .second, .val (.ref b3), .val (.int (if (if pp = ee then (1 : Int32) else 0) = (if pp = ee then (1 : Int32) else 0) then (1 : Int32) else 0)), .unset, .unset] [(.int lf), (.long kk), (.int (if (pp + (kk.toInt32)) = ee then (1 : Int32) else 0))])) _
    refine XS.i2l X16.here hx rfl (hb hby at_104) rfl ?_
    show Steps p.tables e below (T16.setTop (mkF m 105 #[.val (.int p0), .val (.int p1), .val (.long q2), .second, .val (.ref b1), .val (.int ee), .val (.int pp), .val (.int lf), .val (.long kk), .second, .val (.ref b3), .val (.int (if (if pp = ee then (1 : Int32) else 0) = (if pp = ee then (1 : Int32) else 0) then (1 : Int32) else 0)), .unset, .unset] [(.long (lf.toInt64)), (.long kk), (.int (if (pp + (kk.toInt32)) = ee then (1 : Int32) else 0))])) _
    refine XS.lcmp X16.here hx rfl (hb hby at_105) rfl ?_
    show Steps p.tables e below (T16.setTop (mkF m 106 #[.val (.int p0), .val (.int p1), .val (.long q2), .second, .val (.ref b1), .val (.int ee), .val (.int pp), .val (.int lf), .val (.long kk), .second, .val (.ref b3), .val (.int (if (if pp = ee then (1 : Int32) else 0) = (if pp = ee then (1 : Int32) else 0) then (1 : Int32) else 0)), .unset, .unset] [(.int (lcmpW kk (lf.toInt64))), (.int (if (pp + (kk.toInt32)) = ee then (1 : Int32) else 0))])) _
    refine own_diaF X16.here hx rfl (pc0 := 106) rfl (hb hby at_106) (hb hby at_109) (hb hby at_110) (hb hby at_113) rfl (fun hq => ((if0 _ _).trans (teq ((lw_eq _ _).mpr hq)).2)) (fun hq => ((if0 _ _).trans (feq (mt (lw_eq _ _).mp hq)).2)) ?_
    show Steps p.tables e below (T16.setTop (mkF m 114 #[.val (.int p0), .val (.int p1), .val (.long q2), .second, .val (.ref b1), .val (.int ee), .val (.int pp), .val (.int lf), .val (.long kk), .second, .val (.ref b3), .val (.int (if (if pp = ee then (1 : Int32) else 0) = (if pp = ee then (1 : Int32) else 0) then (1 : Int32) else 0)), .unset, .unset] [(.int (if kk = (lf.toInt64) then (1 : Int32) else 0)), (.int (if (pp + (kk.toInt32)) = ee then (1 : Int32) else 0))])) _
    refine own_diaF2 X16.here hx rfl (pc0 := 114) rfl (hb hby at_114) (hb hby at_117) (hb hby at_118) (hb hby at_121) rfl (fun hq => (teq hq).2) (fun hq => (feq hq).2) ?_
    show Steps p.tables e below (T16.setTop (mkF m 122 #[.val (.int p0), .val (.int p1), .val (.long q2), .second, .val (.ref b1), .val (.int ee), .val (.int pp), .val (.int lf), .val (.long kk), .second, .val (.ref b3), .val (.int (if (if pp = ee then (1 : Int32) else 0) = (if pp = ee then (1 : Int32) else 0) then (1 : Int32) else 0)), .unset, .unset] [(.int (if (if (pp + (kk.toInt32)) = ee then (1 : Int32) else 0) = (if kk = (lf.toInt64) then (1 : Int32) else 0) then (1 : Int32) else 0))])) _
    refine XS.istore X16.here hx rfl (hb hby at_122) rfl (l' := #[.val (.int p0), .val (.int p1), .val (.long q2), .second, .val (.ref b1), .val (.int ee), .val (.int pp), .val (.int lf), .val (.long kk), .second, .val (.ref b3), .val (.int (if (if pp = ee then (1 : Int32) else 0) = (if pp = ee then (1 : Int32) else 0) then (1 : Int32) else 0)), .val (.int (if (if (pp + (kk.toInt32)) = ee then (1 : Int32) else 0) = (if kk = (lf.toInt64) then (1 : Int32) else 0) then (1 : Int32) else 0)), .unset]) rfl ?_
    show Steps p.tables e below (T16.setTop (mkF m 124 #[.val (.int p0), .val (.int p1), .val (.long q2), .second, .val (.ref b1), .val (.int ee), .val (.int pp), .val (.int lf), .val (.long kk), .second, .val (.ref b3), .val (.int (if (if pp = ee then (1 : Int32) else 0) = (if pp = ee then (1 : Int32) else 0) then (1 : Int32) else 0)), .val (.int (if (if (pp + (kk.toInt32)) = ee then (1 : Int32) else 0) = (if kk = (lf.toInt64) then (1 : Int32) else 0) then (1 : Int32) else 0)), .unset] [])) _
    refine XS.aload X16.here hx rfl (hb hby at_124) rfl rfl ?_
    show Steps p.tables e below (T16.setTop (mkF m 126 #[.val (.int p0), .val (.int p1), .val (.long q2), .second, .val (.ref b1), .val (.int ee), .val (.int pp), .val (.int lf), .val (.long kk), .second, .val (.ref b3), .val (.int (if (if pp = ee then (1 : Int32) else 0) = (if pp = ee then (1 : Int32) else 0) then (1 : Int32) else 0)), .val (.int (if (if (pp + (kk.toInt32)) = ee then (1 : Int32) else 0) = (if kk = (lf.toInt64) then (1 : Int32) else 0) then (1 : Int32) else 0)), .unset] [(.ref b3)])) _
    refine XS.iload X16.here hx rfl (hb hby at_126) rfl ?_
    show Steps p.tables e below (T16.setTop (mkF m 128 #[.val (.int p0), .val (.int p1), .val (.long q2), .second, .val (.ref b1), .val (.int ee), .val (.int pp), .val (.int lf), .val (.long kk), .second, .val (.ref b3), .val (.int (if (if pp = ee then (1 : Int32) else 0) = (if pp = ee then (1 : Int32) else 0) then (1 : Int32) else 0)), .val (.int (if (if (pp + (kk.toInt32)) = ee then (1 : Int32) else 0) = (if kk = (lf.toInt64) then (1 : Int32) else 0) then (1 : Int32) else 0)), .unset] [(.int lf), (.ref b3)])) _
    refine XS.i2l X16.here hx rfl (hb hby at_128) rfl ?_
    show Steps p.tables e below (T16.setTop (mkF m 129 #[.val (.int p0), .val (.int p1), .val (.long q2), .second, .val (.ref b1), .val (.int ee), .val (.int pp), .val (.int lf), .val (.long kk), .second, .val (.ref b3), .val (.int (if (if pp = ee then (1 : Int32) else 0) = (if pp = ee then (1 : Int32) else 0) then (1 : Int32) else 0)), .val (.int (if (if (pp + (kk.toInt32)) = ee then (1 : Int32) else 0) = (if kk = (lf.toInt64) then (1 : Int32) else 0) then (1 : Int32) else 0)), .unset] [(.long (lf.toInt64)), (.ref b3)])) _
    refine XS.lload X16.here hx rfl (hb hby at_129) rfl ?_
    show Steps p.tables e below (T16.setTop (mkF m 131 #[.val (.int p0), .val (.int p1), .val (.long q2), .second, .val (.ref b1), .val (.int ee), .val (.int pp), .val (.int lf), .val (.long kk), .second, .val (.ref b3), .val (.int (if (if pp = ee then (1 : Int32) else 0) = (if pp = ee then (1 : Int32) else 0) then (1 : Int32) else 0)), .val (.int (if (if (pp + (kk.toInt32)) = ee then (1 : Int32) else 0) = (if kk = (lf.toInt64) then (1 : Int32) else 0) then (1 : Int32) else 0)), .unset] [(.long kk), (.long (lf.toInt64)), (.ref b3)])) _
    refine XS.lsub X16.here hx rfl (hb hby at_131) rfl ?_
    show Steps p.tables e below (T16.setTop (mkF m 132 #[.val (.int p0), .val (.int p1), .val (.long q2), .second, .val (.ref b1), .val (.int ee), .val (.int pp), .val (.int lf), .val (.long kk), .second, .val (.ref b3), .val (.int (if (if pp = ee then (1 : Int32) else 0) = (if pp = ee then (1 : Int32) else 0) then (1 : Int32) else 0)), .val (.int (if (if (pp + (kk.toInt32)) = ee then (1 : Int32) else 0) = (if kk = (lf.toInt64) then (1 : Int32) else 0) then (1 : Int32) else 0)), .unset] [(.long ((lf.toInt64) - kk)), (.ref b3)])) _
    refine st22.trans ?_
    show Steps p.tables e below (T22.setTop (mkF m 135 #[.val (.int p0), .val (.int p1), .val (.long q2), .second, .val (.ref b1), .val (.int ee), .val (.int pp), .val (.int lf), .val (.long kk), .second, .val (.ref b3), .val (.int (if (if pp = ee then (1 : Int32) else 0) = (if pp = ee then (1 : Int32) else 0) then (1 : Int32) else 0)), .val (.int (if (if (pp + (kk.toInt32)) = ee then (1 : Int32) else 0) = (if kk = (lf.toInt64) then (1 : Int32) else 0) then (1 : Int32) else 0)), .unset] [])) _
    refine XS.aload X22.here hx rfl (hb hby at_135) rfl rfl ?_
    show Steps p.tables e below (T22.setTop (mkF m 137 #[.val (.int p0), .val (.int p1), .val (.long q2), .second, .val (.ref b1), .val (.int ee), .val (.int pp), .val (.int lf), .val (.long kk), .second, .val (.ref b3), .val (.int (if (if pp = ee then (1 : Int32) else 0) = (if pp = ee then (1 : Int32) else 0) then (1 : Int32) else 0)), .val (.int (if (if (pp + (kk.toInt32)) = ee then (1 : Int32) else 0) = (if kk = (lf.toInt64) then (1 : Int32) else 0) then (1 : Int32) else 0)), .unset] [(.ref b3)])) _
    refine st24.trans ?_
    show Steps p.tables e below (T24.setTop (mkF m 140 #[.val (.int p0), .val (.int p1), .val (.long q2), .second, .val (.ref b1), .val (.int ee), .val (.int pp), .val (.int lf), .val (.long kk), .second, .val (.ref b3), .val (.int (if (if pp = ee then (1 : Int32) else 0) = (if pp = ee then (1 : Int32) else 0) then (1 : Int32) else 0)), .val (.int (if (if (pp + (kk.toInt32)) = ee then (1 : Int32) else 0) = (if kk = (lf.toInt64) then (1 : Int32) else 0) then (1 : Int32) else 0)), .unset] [(.int (if ((pp + (kk.toInt32)) + (((lf.toInt64) - kk).toInt32)) = ee then (1 : Int32) else 0))])) _
    refine XS.istore X24.here hx rfl (hb hby at_140) rfl (l' := #[.val (.int p0), .val (.int p1), .val (.long q2), .second, .val (.ref b1), .val (.int ee), .val (.int pp), .val (.int lf), .val (.long kk), .second, .val (.ref b3), .val (.int (if (if pp = ee then (1 : Int32) else 0) = (if pp = ee then (1 : Int32) else 0) then (1 : Int32) else 0)), .val (.int (if (if (pp + (kk.toInt32)) = ee then (1 : Int32) else 0) = (if kk = (lf.toInt64) then (1 : Int32) else 0) then (1 : Int32) else 0)), .val (.int (if ((pp + (kk.toInt32)) + (((lf.toInt64) - kk).toInt32)) = ee then (1 : Int32) else 0))]) rfl ?_
    show Steps p.tables e below (T24.setTop (mkF m 142 #[.val (.int p0), .val (.int p1), .val (.long q2), .second, .val (.ref b1), .val (.int ee), .val (.int pp), .val (.int lf), .val (.long kk), .second, .val (.ref b3), .val (.int (if (if pp = ee then (1 : Int32) else 0) = (if pp = ee then (1 : Int32) else 0) then (1 : Int32) else 0)), .val (.int (if (if (pp + (kk.toInt32)) = ee then (1 : Int32) else 0) = (if kk = (lf.toInt64) then (1 : Int32) else 0) then (1 : Int32) else 0)), .val (.int (if ((pp + (kk.toInt32)) + (((lf.toInt64) - kk).toInt32)) = ee then (1 : Int32) else 0))] [])) _
    refine XS.iload X24.here hx rfl (hb hby at_142) rfl ?_
    show Steps p.tables e below (T24.setTop (mkF m 144 #[.val (.int p0), .val (.int p1), .val (.long q2), .second, .val (.ref b1), .val (.int ee), .val (.int pp), .val (.int lf), .val (.long kk), .second, .val (.ref b3), .val (.int (if (if pp = ee then (1 : Int32) else 0) = (if pp = ee then (1 : Int32) else 0) then (1 : Int32) else 0)), .val (.int (if (if (pp + (kk.toInt32)) = ee then (1 : Int32) else 0) = (if kk = (lf.toInt64) then (1 : Int32) else 0) then (1 : Int32) else 0)), .val (.int (if ((pp + (kk.toInt32)) + (((lf.toInt64) - kk).toInt32)) = ee then (1 : Int32) else 0))] [(.int (if (if pp = ee then (1 : Int32) else 0) = (if pp = ee then (1 : Int32) else 0) then (1 : Int32) else 0))])) _
    refine XS.ifNo X24.here hx rfl (hb hby at_144) rfl ((if0 _ _).trans (feq (own_b10n hc144_26)).1) ?_
    show Steps p.tables e below (T24.setTop (mkF m 147 #[.val (.int p0), .val (.int p1), .val (.long q2), .second, .val (.ref b1), .val (.int ee), .val (.int pp), .val (.int lf), .val (.long kk), .second, .val (.ref b3), .val (.int (if (if pp = ee then (1 : Int32) else 0) = (if pp = ee then (1 : Int32) else 0) then (1 : Int32) else 0)), .val (.int (if (if (pp + (kk.toInt32)) = ee then (1 : Int32) else 0) = (if kk = (lf.toInt64) then (1 : Int32) else 0) then (1 : Int32) else 0)), .val (.int (if ((pp + (kk.toInt32)) + (((lf.toInt64) - kk).toInt32)) = ee then (1 : Int32) else 0))] [])) _
    refine XS.iload X24.here hx rfl (hb hby at_147) rfl ?_
    show Steps p.tables e below (T24.setTop (mkF m 149 #[.val (.int p0), .val (.int p1), .val (.long q2), .second, .val (.ref b1), .val (.int ee), .val (.int pp), .val (.int lf), .val (.long kk), .second, .val (.ref b3), .val (.int (if (if pp = ee then (1 : Int32) else 0) = (if pp = ee then (1 : Int32) else 0) then (1 : Int32) else 0)), .val (.int (if (if (pp + (kk.toInt32)) = ee then (1 : Int32) else 0) = (if kk = (lf.toInt64) then (1 : Int32) else 0) then (1 : Int32) else 0)), .val (.int (if ((pp + (kk.toInt32)) + (((lf.toInt64) - kk).toInt32)) = ee then (1 : Int32) else 0))] [(.int (if (if (pp + (kk.toInt32)) = ee then (1 : Int32) else 0) = (if kk = (lf.toInt64) then (1 : Int32) else 0) then (1 : Int32) else 0))])) _
    refine XS.ifNo X24.here hx rfl (hb hby at_149) rfl ((if0 _ _).trans (feq (own_b10n hc149_27)).1) ?_
    show Steps p.tables e below (T24.setTop (mkF m 152 #[.val (.int p0), .val (.int p1), .val (.long q2), .second, .val (.ref b1), .val (.int ee), .val (.int pp), .val (.int lf), .val (.long kk), .second, .val (.ref b3), .val (.int (if (if pp = ee then (1 : Int32) else 0) = (if pp = ee then (1 : Int32) else 0) then (1 : Int32) else 0)), .val (.int (if (if (pp + (kk.toInt32)) = ee then (1 : Int32) else 0) = (if kk = (lf.toInt64) then (1 : Int32) else 0) then (1 : Int32) else 0)), .val (.int (if ((pp + (kk.toInt32)) + (((lf.toInt64) - kk).toInt32)) = ee then (1 : Int32) else 0))] [])) _
    refine XS.iload X24.here hx rfl (hb hby at_152) rfl ?_
    show Steps p.tables e below (T24.setTop (mkF m 154 #[.val (.int p0), .val (.int p1), .val (.long q2), .second, .val (.ref b1), .val (.int ee), .val (.int pp), .val (.int lf), .val (.long kk), .second, .val (.ref b3), .val (.int (if (if pp = ee then (1 : Int32) else 0) = (if pp = ee then (1 : Int32) else 0) then (1 : Int32) else 0)), .val (.int (if (if (pp + (kk.toInt32)) = ee then (1 : Int32) else 0) = (if kk = (lf.toInt64) then (1 : Int32) else 0) then (1 : Int32) else 0)), .val (.int (if ((pp + (kk.toInt32)) + (((lf.toInt64) - kk).toInt32)) = ee then (1 : Int32) else 0))] [(.int (if ((pp + (kk.toInt32)) + (((lf.toInt64) - kk).toInt32)) = ee then (1 : Int32) else 0))])) _
    refine XS.ifNo X24.here hx rfl (hb hby at_154) rfl ((if0 _ _).trans (feq (own_b10n hc154_28)).1) ?_
    show Steps p.tables e below (T24.setTop (mkF m 157 #[.val (.int p0), .val (.int p1), .val (.long q2), .second, .val (.ref b1), .val (.int ee), .val (.int pp), .val (.int lf), .val (.long kk), .second, .val (.ref b3), .val (.int (if (if pp = ee then (1 : Int32) else 0) = (if pp = ee then (1 : Int32) else 0) then (1 : Int32) else 0)), .val (.int (if (if (pp + (kk.toInt32)) = ee then (1 : Int32) else 0) = (if kk = (lf.toInt64) then (1 : Int32) else 0) then (1 : Int32) else 0)), .val (.int (if ((pp + (kk.toInt32)) + (((lf.toInt64) - kk).toInt32)) = ee then (1 : Int32) else 0))] [])) _
    refine XS.iconst X24.here hx rfl (hb hby at_157) ?_
    show Steps p.tables e below (T24.setTop (mkF m 158 #[.val (.int p0), .val (.int p1), .val (.long q2), .second, .val (.ref b1), .val (.int ee), .val (.int pp), .val (.int lf), .val (.long kk), .second, .val (.ref b3), .val (.int (if (if pp = ee then (1 : Int32) else 0) = (if pp = ee then (1 : Int32) else 0) then (1 : Int32) else 0)), .val (.int (if (if (pp + (kk.toInt32)) = ee then (1 : Int32) else 0) = (if kk = (lf.toInt64) then (1 : Int32) else 0) then (1 : Int32) else 0)), .val (.int (if ((pp + (kk.toInt32)) + (((lf.toInt64) - kk).toInt32)) = ee then (1 : Int32) else 0))] [(.int (1 : Int32))])) _
    refine XS.goto X24.here hx rfl (pc0 := 158) (pc' := 162) rfl (hb hby at_158) (by decide) (by decide) ?_
    show Steps p.tables e below (T24.setTop (mkF m 162 #[.val (.int p0), .val (.int p1), .val (.long q2), .second, .val (.ref b1), .val (.int ee), .val (.int pp), .val (.int lf), .val (.long kk), .second, .val (.ref b3), .val (.int (if (if pp = ee then (1 : Int32) else 0) = (if pp = ee then (1 : Int32) else 0) then (1 : Int32) else 0)), .val (.int (if (if (pp + (kk.toInt32)) = ee then (1 : Int32) else 0) = (if kk = (lf.toInt64) then (1 : Int32) else 0) then (1 : Int32) else 0)), .val (.int (if ((pp + (kk.toInt32)) + (((lf.toInt64) - kk).toInt32)) = ee then (1 : Int32) else 0))] [(.int (1 : Int32))])) _
    exact retN X24 hx (t := .boolean) Bd.returns (by simp) (hb hby at_162) hr
  · show Q0 Z p0 p1 q2 h0 n0 _ T24.heap _
    exact ⟨rfl, N24⟩
set_option maxRecDepth 65536 in
set_option maxHeartbeats 40000000 in
theorem comes_1 {Post : Tables → Env → Array Value → State → Outcome → State → Prop} (hpost : ∀ tb e args s v u, (limb_1_1.after args s (.returned v) u = true ∧ limb_1_2.after args s (.returned v) u = true ∧ True) → FrameEnd s (.returned v) u (Jvm.fieldLocs frame_1_writes args s ++ Jvm.arrayLocs frame_1_arrays args s ++ Jvm.staticLocs frame_1_statics s) 16 128 → Post tb e args s (.returned v) u) :
    ArmFor flags0 classFile x code maxLocals ret World_1 tables_1 room_1 Calls_1 rest_1 Pre_1 Post := by
  intro l hfl _ _ p e ha hc hk s m args below hf hA hF happ hP
  obtain ⟨hcalls, hrest, hpre⟩ := hP
  obtain ⟨-, -, -, hnamed, -, -, -, hat⟩ := (Spec.applies_iff hf).mp happ
  obtain ⟨hg, hn⟩ := and_e (Cond.before_iff.mp (show (Jvm.Cond.and given_1 narrow_1).before args s = true from hpre))
  obtain ⟨g1, g2⟩ := and_e hg
  obtain ⟨g3, g4⟩ := and_e g2
  obtain ⟨g5, g6⟩ := and_e g4
  obtain ⟨w0, w1, w2, rfl⟩ : ∃ w0 w1 w2 : Value, args = #[w0, w1, w2] := by
    have hs : args.size = 3 := by simpa [Cond.value, given_1] using g1
    obtain ⟨L⟩ := args
    match L, hs with
    | [w0, w1, w2], _ => exact ⟨w0, w1, w2, rfl⟩
  have hw := fun d (hd : d ∈ tables_1) => atoms_spec (ws := Jvm.Cond.code x code maxLocals ret :: tables_1) hat d (List.mem_cons_of_mem _ hd)
  have hfit : Fit s := fun {y c} hc i hi => by
    obtain ⟨ha, rfl⟩ := Array.getElem?_eq_some_iff.mp hc
    have q := List.all_eq_true.mp ((Array.all_eq_true_iff_forall_mem.mp hF) _ (Array.getElem_mem ha)) i (List.mem_range.mpr hi)
    simpa [Array.getElem?_eq_getElem hi] using q
  obtain ⟨i0, ei0⟩ := is_v g3
  obtain rfl : w0 = (.int i0) := Option.some.inj ei0
  obtain ⟨i1, ei1⟩ := is_v g5
  obtain rfl : w1 = (.int i1) := Option.some.inj ei1
  obtain ⟨i2, ei2⟩ := isL_v g6
  obtain rfl : w2 = (.long i2) := Option.some.inj ei2
  obtain ⟨n, o, h1, h2, h3, _, L, rfl, ⟨rfl, N⟩, hq⟩ := rm0 l s _ hw tables_1 i0 i1 i2 s.heap s.heap.size (Nat.le_refl _) p e ha hc hk s m _ below hf ((Spec.applies_iff_loose hf).mp happ).1 ⟨rfl, State.Warmed39.refl s, rfl⟩ trivial
  refine ⟨n, _, h1, h2, h3, hpost _ _ _ _ _ _ ⟨Cond.after_iff.mpr rfl, Cond.after_iff.mpr (eq_i res_at (Term.int_eval (1)) rfl), trivial⟩ ⟨hq.1, hq.2.1, (hq.2.2.sift fun y hy => Or.inr (N y hy)).mono (by decide) (by decide)⟩⟩
theorem main_1_1 : Claimed_1_1 := comes_1 fun _ _ _ _ _ _ h hF => ⟨h.1, hF⟩
theorem main_1_2 : Claimed_1_2 := comes_1 fun _ _ _ _ _ _ h hF => ⟨h.2.1, hF⟩
end Jvm.Pilot.@@N@@
namespace Jvm.Pilot.@@N@@
open Jvm Jvm.ClassFile Sem Op Lib Jvm.Free Jvm.Stand Jvm.Pilot.@@N@@.Jvm.D
/-! MADE BY PROGRAM (witnessworld.py) out of the Statement's table words and the real class files: 9 classes; the members and pool entries that the words name. The judged class is class 1, her method 1. -/
namespace start1
open Jvm.ClassFile
def u (s : String) : CpInfo := .utf8 (stringToUtf16 s)
/-- a pool by its gaps: so many unusable entries, then the entry; so many at the end -/
def gap : Nat → List CpInfo → List CpInfo
  | 0, r => r
  | n + 1, r => .unusable :: gap n r
def poolList (es : List (Nat × CpInfo)) (last : Nat) : List CpInfo := es.foldr (fun e r => gap e.1 (e.2 :: r)) (gap last [])
def pool (es : List (Nat × CpInfo)) (last : Nat) : Array CpInfo := ⟨poolList es last⟩
def fileOf (pool : Array CpInfo) (this : Nat) (attrs : Array Attribute := #[]) (ms : Array MethodInfo := #[]) (fl : Nat := 33) (sup : Nat := 0) (ifs : Array Nat := #[]) (fds : Array FieldInfo := #[]) : ClassFile where
  minorVersion := 0
  majorVersion := 65
  constantPool := pool
  accessFlags := fl
  thisClass := this
  superClass := sup
  interfaces := ifs
  fields := fds
  methods := ms
  attributes := attrs
def plain (name : String) (sup : Option ClassId) : Class where
  name := name
  kind := .ordinary
  loader := none
  accessFlags := 33
  super := sup
  interfaces := #[]
  cf := none
  fields := #[]
  methods := #[]
  instanceTypes := #[]
  staticTypes := #[]
  resolved := #[]
  callSites := []
  init := .initialized
  statics := none
  mirror := none

def pool0 : Array CpInfo := pool [(5, u "<init>"), (0, u "()V"), (1, .class_ 10), (1, u "java/lang/Object")] 113

def k0c0 : Code := { maxStack := 0, maxLocals := 1, code := object_method_1_code, exceptionTable := #[], attributes := #[] }
def k0m0 : Method := { name := "<init>", desc := "()V", sig := { parameters := [], returnType := none }, accessFlags := 1, code := some k0c0 }
/-- java/lang/Object -/
def k0 : Class := { plain "java/lang/Object" none with
  accessFlags := 33
  interfaces := #[]
  cf := some (fileOf pool0 8 #[] #[{ accessFlags := 1, nameIndex := 5, descriptorIndex := 6, attributes := #[] }] 33 0 #[] #[])
  fields := #[]
  methods := #[k0m0]
  instanceTypes := #[]
  staticTypes := #[]
  resolved := Array.replicate 124 none
  statics := none }

def pool1 : Array CpInfo := pool [(2, .class_ 4), (1, u "java/lang/Object"), (0, u "<init>"), (0, u "()V"), (0, .integer 2147483647), (0, .long 9223372036854775807), (1, .class_ 11), (0, u "com/example/wicol/wicol/ByteReader"), (0, .methodref 10 13), (0, .nameAndType 5 14), (0, u "([BII)V"), (0, .methodref 10 16), (0, .nameAndType 17 18), (0, u "atEnd"), (0, u "()Z"), (0, .methodref 10 20), (0, .nameAndType 21 22), (0, u "skip"), (0, u "(J)V"), (0, .class_ 24), (0, u "com/example/wicol/wicol/ByteReaderAtEndPinLaw"), (2, u "law"), (0, u "(IIJ)Z")] 5

def k1m0 : Method := { name := "<init>", desc := "()V", sig := { parameters := [], returnType := none }, accessFlags := 1, code := none }
def k1c1 : Code := { maxStack := 5, maxLocals := 14, code := code, exceptionTable := #[], attributes := #[] }
def k1m1 : Method := { name := "law", desc := "(IIJ)Z", sig := { parameters := [.int, .int, .long], returnType := some .boolean }, accessFlags := 9, code := some k1c1 }
/-- com/example/wicol/wicol/ByteReaderAtEndPinLaw -/
def k1 : Class := { plain "com/example/wicol/wicol/ByteReaderAtEndPinLaw" (some 0) with
  accessFlags := 49
  interfaces := #[]
  cf := some (fileOf pool1 23 #[] #[{ accessFlags := 1, nameIndex := 5, descriptorIndex := 6, attributes := #[] }, { accessFlags := 9, nameIndex := 27, descriptorIndex := 28, attributes := #[] }] 49 2 #[] #[])
  fields := #[]
  methods := #[k1m0, k1m1]
  instanceTypes := #[]
  staticTypes := #[]
  resolved := Array.replicate 34 none
  statics := none }

def pool2 : Array CpInfo := pool [(2, .class_ 4), (1, u "com/example/wicol/wicol/ByteReader"), (0, u "<init>"), (0, u "([BII)V"), (0, .methodref 8 9), (0, .class_ 10), (0, .nameAndType 5 11), (0, u "java/lang/Object"), (0, u "()V"), (0, .fieldref 2 13), (0, .nameAndType 14 15), (0, u "bytes"), (0, u "[B"), (0, .fieldref 2 17), (0, .nameAndType 18 19), (0, u "position"), (0, u "I"), (0, .fieldref 2 21), (0, .nameAndType 22 19), (0, u "end"), (0, .methodref 2 24), (0, .nameAndType 25 26), (0, u "require"), (0, u "(J)V"), (89, u "REPLACEMENT"), (0, u "C"), (7, u "skip"), (7, u "atEnd"), (0, u "()Z")] 17

def k2c0 : Code := { maxStack := 2, maxLocals := 4, code := prog_1_method_2_code, exceptionTable := #[], attributes := #[] }
def k2m0 : Method := { name := "<init>", desc := "([BII)V", sig := { parameters := [(.array .byte), .int, .int], returnType := none }, accessFlags := 0, code := some k2c0 }
def k2c1 : Code := { maxStack := 4, maxLocals := 3, code := prog_1_method_5_code, exceptionTable := #[], attributes := #[] }
def k2m1 : Method := { name := "skip", desc := "(J)V", sig := { parameters := [.long], returnType := none }, accessFlags := 0, code := some k2c1 }
def k2c2 : Code := { maxStack := 2, maxLocals := 1, code := prog_1_method_14_code, exceptionTable := #[], attributes := #[] }
def k2m2 : Method := { name := "atEnd", desc := "()Z", sig := { parameters := [], returnType := some .boolean }, accessFlags := 0, code := some k2c2 }
def k2c3 : Code := { maxStack := 4, maxLocals := 3, code := prog_1_method_15_code, exceptionTable := #[], attributes := #[] }
def k2m3 : Method := { name := "require", desc := "(J)V", sig := { parameters := [.long], returnType := none }, accessFlags := 2, code := some k2c3 }
/-- com/example/wicol/wicol/ByteReader -/
def k2 : Class := { plain "com/example/wicol/wicol/ByteReader" (some 0) with
  accessFlags := 48
  interfaces := #[]
  cf := some (fileOf pool2 2 #[] #[{ accessFlags := 0, nameIndex := 5, descriptorIndex := 6, attributes := #[] }, { accessFlags := 0, nameIndex := 125, descriptorIndex := 26, attributes := #[] }, { accessFlags := 0, nameIndex := 133, descriptorIndex := 134, attributes := #[] }, { accessFlags := 2, nameIndex := 25, descriptorIndex := 26, attributes := #[] }] 48 8 #[] #[{ accessFlags := 26, nameIndex := 116, descriptorIndex := 117, attributes := #[] }, { accessFlags := 18, nameIndex := 14, descriptorIndex := 15, attributes := #[] }, { accessFlags := 18, nameIndex := 22, descriptorIndex := 19, attributes := #[] }, { accessFlags := 2, nameIndex := 18, descriptorIndex := 19, attributes := #[] }])
  fields := #[{ name := "REPLACEMENT", type := .char, accessFlags := 26, slot := 0, constantValue := 0 }, { name := "bytes", type := (.array .byte), accessFlags := 18, slot := 0, constantValue := 0 }, { name := "end", type := .int, accessFlags := 18, slot := 1, constantValue := 0 }, { name := "position", type := .int, accessFlags := 2, slot := 2, constantValue := 0 }]
  methods := #[k2m0, k2m1, k2m2, k2m3]
  instanceTypes := #[(.array .byte), .int, .int]
  staticTypes := #[.char]
  resolved := Array.replicate 152 none
  statics := none }

def pool3 : Array CpInfo := pool [(1, u "java/lang/Cloneable"), (0, .class_ 1), (0, u "java/lang/Object"), (0, .class_ 3)] 3

/-- java/lang/Cloneable -/
def k3 : Class := { plain "java/lang/Cloneable" (some 0) with
  accessFlags := 1537
  interfaces := #[]
  cf := some (fileOf pool3 2 #[] #[] 1537 4 #[] #[])
  fields := #[]
  methods := #[]
  instanceTypes := #[]
  staticTypes := #[]
  resolved := Array.replicate 8 none
  statics := none }

def pool4 : Array CpInfo := pool [(1, u "java/io/Serializable"), (0, .class_ 1), (0, u "java/lang/Object"), (0, .class_ 3)] 3

/-- java/io/Serializable -/
def k4 : Class := { plain "java/io/Serializable" (some 0) with
  accessFlags := 1537
  interfaces := #[]
  cf := some (fileOf pool4 2 #[] #[] 1537 4 #[] #[])
  fields := #[]
  methods := #[]
  instanceTypes := #[]
  staticTypes := #[]
  resolved := Array.replicate 8 none
  statics := none }

/-- the primitive byte -/
def k5 : Class := { plain "byte" none with kind := .primitive 'B', accessFlags := 0x411 }
/-- [B -/
def k6 : Class := { plain "[B" (some 0) with kind := .array 5 .byte, interfaces := #[3, 4], accessFlags := 1041 }

/-- the primitive int -/
def k7 : Class := { plain "int" none with kind := .primitive 'I', accessFlags := 0x411 }
/-- [I -/
def k8 : Class := { plain "[I" (some 0) with kind := .array 7 .int, interfaces := #[3, 4], accessFlags := 1041 }

def heap : Heap := #[]
def classes : Array Class := #[k0, k1, k2, k3, k4, k5, k6, k7, k8]
def interned : List (Array UInt16 × Addr) := []
def slotsUsed : Nat := 0
def theMethod : MethodId := ⟨1, 1⟩
def args0 : Array Value := #[.int 5, .int 3, .long 1]
def aboutOver (below : List Frame) : State where
  vm := { classes := classes, interned := interned.toArray }
  heap := heap
  slotsUsed := slotsUsed
  threads := #[{ frames := .invoking theMethod args0 :: below }]
def below0 : List Frame := [.native { method := ⟨0, 0⟩, args := #[] }]
def about1 : State := aboutOver below0
def p0 : Program := .bare "" "" ""
def e0 : Env := launch0.env 0 0 0
theorem w_frames : about1.frames = Frame.invoking theMethod args0 :: below0 := rfl
set_option maxRecDepth 65536 in
theorem w_args : argsFit about1.vm theMethod args0 = true := by decide +kernel
set_option maxRecDepth 65536 in
theorem w_heap : heapFits about1 = true := by decide +kernel
set_option maxRecDepth 65536 in
theorem w_runnable : about1.curStatus? = some .runnable := by decide +kernel
set_option maxRecDepth 65536 in
theorem w_alone : about1.alone = true := by decide +kernel
set_option maxRecDepth 65536 in
theorem w_named : about1.methodNamed? x = some theMethod := by decide +kernel
set_option maxRecDepth 65536 in
theorem w_hears : about1.hears theMethod below0 = true := by decide +kernel
set_option maxRecDepth 65536 in
theorem w_ripe : about1.ripe theMethod args0 below0 = true := by decide +kernel
theorem w_running : about1.status = .running := rfl
set_option maxRecDepth 65536 in
theorem w_room : about1.hasRoom e0.platform room_1 = true :=
  launch0.hasRoom_least _ room_1 (by decide +kernel) (by decide +kernel) (by decide +kernel) (by decide +kernel) (by decide +kernel) (by decide +kernel)
theorem allAtoms_all (ts : List Jvm.Cond) (a : Array Jvm.Value) (st : Jvm.State) : (allAtoms ts).before a st = ts.all (fun c => c.before a st) := by
  induction ts with
  | nil => rfl
  | cons c t ih =>
    show (Jvm.Cond.and c (allAtoms t)).before a st = _
    rw [Jvm.Cond.before_and, ih, List.all_cons]
def words1 : List Jvm.Cond := Jvm.Cond.code x code maxLocals ret :: tables_1
/-- a 'code' word, met by the world's own term for the bytes: nothing is compared byte by byte -/
theorem code_word {y : MethodName} {bytes : ByteArray} {mx : Nat} {rt : Option FieldType} {a : Array Value} {s : State} {m : MethodId} {meth : Method} {c : Code} (h1 : s.methodNamed? y = some m) (h2 : s.vm.method? m = some meth) (h3 : meth.code = some c) (h4 : c.code = bytes)
    (h5 : (c.maxLocals == mx && c.exceptionTable.isEmpty && decide (c.maxStack ≤ mostOperands) && decide (meth.sig.returnType = rt) && !meth.locks && decide (parseMethodDescriptor y.desc = some meth.sig)) = true) : (Jvm.Cond.code y bytes mx rt).before a s = true := by
  simp only [Bool.and_eq_true, beq_iff_eq, Bool.not_eq_true', decide_eq_true_eq] at h5
  obtain ⟨⟨⟨⟨⟨g1, g2⟩, g3⟩, g4⟩, g5⟩, g6⟩ := h5
  simp [Cond.before, Cond.holds, Cond.value, h1, h2, h3, h4, g1, g2, g3, g4, g5, g6]
def isCode : Jvm.Cond → Bool
  | .code _ _ _ _ => true
  | _ => false
theorem all_split {L : List Jvm.Cond} {P : Jvm.Cond → Bool} (h1 : L.all (fun c => isCode c || P c) = true) (h2 : ∀ c ∈ L.filter isCode, P c = true) : L.all P = true := by
  refine List.all_eq_true.mpr fun c hc => ?_
  have h := List.all_eq_true.mp h1 c hc
  rcases Bool.eq_false_or_eq_true (isCode c) with hi | hi
  · exact h2 c (List.mem_filter.mpr ⟨hc, hi⟩)
  · simpa [hi] using h
set_option maxRecDepth 65536 in
theorem w_c0 : (Jvm.Cond.code x code maxLocals ret).before args0 about1 = true := code_word (m := ⟨1, 1⟩) (meth := k1m1) (c := k1c1) (by decide +kernel) rfl rfl rfl (by decide +kernel)
set_option maxRecDepth 65536 in
theorem w_c1 : (Jvm.Cond.code ({ cls := "com/example/wicol/wicol/ByteReader", name := "<init>", desc := "([BII)V" } : Jvm.MethodName) prog_1_method_2_code (4 : Nat) (Option.none : Option Jvm.ClassFile.FieldType)).before args0 about1 = true := code_word (m := ⟨2, 0⟩) (meth := k2m0) (c := k2c0) (by decide +kernel) rfl rfl rfl (by decide +kernel)
set_option maxRecDepth 65536 in
theorem w_c2 : (Jvm.Cond.code ({ cls := "java/lang/Object", name := "<init>", desc := "()V" } : Jvm.MethodName) object_method_1_code (1 : Nat) (Option.none : Option Jvm.ClassFile.FieldType)).before args0 about1 = true := code_word (m := ⟨0, 0⟩) (meth := k0m0) (c := k0c0) (by decide +kernel) rfl rfl rfl (by decide +kernel)
set_option maxRecDepth 65536 in
theorem w_c3 : (Jvm.Cond.code ({ cls := "com/example/wicol/wicol/ByteReader", name := "atEnd", desc := "()Z" } : Jvm.MethodName) prog_1_method_14_code (1 : Nat) (Option.some Jvm.ClassFile.FieldType.boolean)).before args0 about1 = true := code_word (m := ⟨2, 2⟩) (meth := k2m2) (c := k2c2) (by decide +kernel) rfl rfl rfl (by decide +kernel)
set_option maxRecDepth 65536 in
theorem w_c4 : (Jvm.Cond.code ({ cls := "com/example/wicol/wicol/ByteReader", name := "skip", desc := "(J)V" } : Jvm.MethodName) prog_1_method_5_code (3 : Nat) (Option.none : Option Jvm.ClassFile.FieldType)).before args0 about1 = true := code_word (m := ⟨2, 1⟩) (meth := k2m1) (c := k2c1) (by decide +kernel) rfl rfl rfl (by decide +kernel)
set_option maxRecDepth 65536 in
theorem w_c5 : (Jvm.Cond.code ({ cls := "com/example/wicol/wicol/ByteReader", name := "require", desc := "(J)V" } : Jvm.MethodName) prog_1_method_15_code (3 : Nat) (Option.none : Option Jvm.ClassFile.FieldType)).before args0 about1 = true := code_word (m := ⟨2, 3⟩) (meth := k2m3) (c := k2c3) (by decide +kernel) rfl rfl rfl (by decide +kernel)
def codes1 : List Jvm.Cond := [Jvm.Cond.code x code maxLocals ret, Jvm.Cond.code ({ cls := "com/example/wicol/wicol/ByteReader", name := "<init>", desc := "([BII)V" } : Jvm.MethodName) prog_1_method_2_code (4 : Nat) (Option.none : Option Jvm.ClassFile.FieldType), Jvm.Cond.code ({ cls := "java/lang/Object", name := "<init>", desc := "()V" } : Jvm.MethodName) object_method_1_code (1 : Nat) (Option.none : Option Jvm.ClassFile.FieldType), Jvm.Cond.code ({ cls := "com/example/wicol/wicol/ByteReader", name := "atEnd", desc := "()Z" } : Jvm.MethodName) prog_1_method_14_code (1 : Nat) (Option.some Jvm.ClassFile.FieldType.boolean), Jvm.Cond.code ({ cls := "com/example/wicol/wicol/ByteReader", name := "skip", desc := "(J)V" } : Jvm.MethodName) prog_1_method_5_code (3 : Nat) (Option.none : Option Jvm.ClassFile.FieldType), Jvm.Cond.code ({ cls := "com/example/wicol/wicol/ByteReader", name := "require", desc := "(J)V" } : Jvm.MethodName) prog_1_method_15_code (3 : Nat) (Option.none : Option Jvm.ClassFile.FieldType)]
set_option maxRecDepth 65536 in
theorem codes_eq : words1.filter isCode = codes1 := rfl
theorem w_codes : ∀ c ∈ words1.filter isCode, c.before args0 about1 = true := by
  rw [codes_eq]
  intro c hc
  simp only [codes1, List.mem_cons, List.not_mem_nil, or_false] at hc
  rcases hc with rfl | rfl | rfl | rfl | rfl | rfl
  · exact w_c0
  · exact w_c1
  · exact w_c2
  · exact w_c3
  · exact w_c4
  · exact w_c5
set_option maxRecDepth 65536 in
theorem w_t1 : (words1.take 24).all (fun c => isCode c || c.before args0 about1) = true := by decide +kernel
set_option maxRecDepth 65536 in
theorem w_t2 : (words1.drop 24).all (fun c => isCode c || c.before args0 about1) = true := by decide +kernel
theorem w_tables : (allAtoms (Jvm.Cond.code x code maxLocals ret :: tables_1)).before args0 about1 = true := by
  rw [allAtoms_all]
  show words1.all (fun c => c.before args0 about1) = true
  refine all_split ?_ w_codes
  rw [← List.take_append_drop 24 words1, List.all_append, w_t1, w_t2]
  rfl
set_option maxRecDepth 65536 in
theorem w_case : (Jvm.Cond.and given_1 narrow_1).before args0 about1 = true := by decide +kernel
theorem w_applies : (headSpec (Jvm.Cond.code x code maxLocals ret :: tables_1) room_1).applies x e0.platform about1 = true :=
  (Spec.applies_iff w_frames).mpr ⟨w_running, w_runnable, w_alone, w_named, w_hears, w_ripe, w_room, w_tables⟩
theorem atStart : AtStart classFile x code maxLocals ret World_1 tables_1 room_1 Calls_1 rest_1 Pre_1 launch0 p0 e0 about1 theMethod args0 below0 :=
  ⟨lists_1, trivial, launch0.admits_env _ _ _, launch0.least_env, fairChoices_fair.cas, fairChoices_fair.clock, w_frames, w_args, w_heap, w_applies, trivial, trivial, w_case⟩
end start1
theorem witness_1 : WitnessClaimed_1 := ⟨start1.p0, start1.e0, start1.about1, start1.theMethod, start1.args0, start1.below0, start1.atStart⟩
end Jvm.Pilot.@@N@@
