import JvmDerived
import JvmDerived.Pilot.@@N@@Statement
import JvmDerived.Pilot.@@N@@Code
set_option linter.unusedVariables false
set_option linter.unusedSimpArgs false
namespace Jvm.RoadKit
open Sem ClassFile Op Lib Jvm.Stand Jvm.Free Jvm.LawKit
section New
variable {p : Program} {l : Launch} {e : Env} {R : Room} {s : State} {m : MethodId} {args : Array Value} {below : List Frame} {meth : Method} {c : Code} {T : State} {locs : List Loc} {cells slots : Nat}
theorem retI (X : Stand p l e R s m args below meth c T locs cells slots) (hx : p.tables.exec = Jvm.exec) {pc : Nat} {Ls : Array Slot} {z : Int32} {rest : List Value} (hret : meth.sig.returnType = some .int) (hd : decode c.code pc = .ok (.ireturn, 1)) {fs : List Frame}
    (hl : ∀ (f : JFrame) (acts : List Action), f.method = m → f.locked = none → f.entered = [] → (doReturn e (T.setTop f) acts (some (.int z))).1 = T.setFrames fs) : Steps p.tables e below (T.setTop (mkF m pc Ls (.int z :: rest))) (T.setFrames fs) := by
  have hm' : T.vm.method? m = some meth := X.method'
  have hn : narrow .int (.int z) = .int z := rfl
  show Steps p.tables e below (T.setTop { method := m, pc := pc, locals := Ls, stack := _ :: rest, locked := none }) _
  jvm_step X.here [X.here.top, hx, hd, hm', hret, hn]
  first | (intro acts; rw [hl _ acts rfl rfl rfl]) | rw [hl _ _ rfl rfl rfl]
  exact Steps.refl _
end New
end Jvm.RoadKit
namespace Jvm.Pilot.@@N@@
open Jvm Jvm.ClassFile Sem Op Lib Jvm.Free Jvm.Stand Jvm.LawKit Jvm.RoadKit Bundle Jvm.Pilot.@@N@@.Jvm.D
theorem own_b10n {P : Prop} [Decidable P] (h : P) : ¬ (if P then (1 : Int32) else 0) = 0 := by rw [if_pos h]; decide
theorem own_b10z {P : Prop} [Decidable P] (h : ¬ P) : (if P then (1 : Int32) else 0) = 0 := if_neg h
theorem own_b01z {P : Prop} [Decidable P] (h : P) : (if P then (0 : Int32) else 1) = 0 := if_pos h
theorem own_b01n {P : Prop} [Decidable P] (h : ¬ P) : ¬ (if P then (0 : Int32) else 1) = 0 := by rw [if_neg h]; decide
theorem own_nb10 {P : Prop} [Decidable P] : nar .boolean (if P then (1 : Int32) else 0) = (if P then (1 : Int32) else 0) := by by_cases h : P <;> simp [h, nar]
theorem own_nb01 {P : Prop} [Decidable P] : nar .boolean (if P then (0 : Int32) else 1) = (if P then (0 : Int32) else 1) := by by_cases h : P <;> simp [h, nar]
theorem own_selP {Z s : State} {a0 args : Array Value} {y : MethodName} {n : Nat} (hZ : Z.Warmed39 s.vm) (wi : (Jvm.Cond.instantiable y.cls n).before a0 Z = true) (wp : (Jvm.Cond.privateMethod y).before a0 Z = true) (wm : (Jvm.Cond.instanceMethod y).before a0 Z = true)
    (hy : y.cls ≠ "java/lang/invoke/MethodHandle" ∧ y.cls ≠ "java/lang/invoke/VarHandle") : (Jvm.Cond.selects y.cls y y).before args s = true := by
  obtain ⟨c, k, hc, hk, -, hf, -⟩ := Cond.instantiable_spec (mv hZ wi (args := args))
  have hi : k.isInterface = false := by
    cases q : k.isInterface
    · rfl
    · simp [q] at hf
  exact Jvm.Stand.selects_self_of_private hc hk hi (Cond.privateMethod_at (mvP hZ wp (args := args))) (mv hZ wm) hy
theorem own_one (i : Nat) : Int32.ofNat i + (1 : Int32) = Int32.ofNat (i + 1) := (Int32.ofNat_add i 1).symm
def own_list (g : Nat → Value) (i : Nat) : List Value := (List.range i).map g
theorem own_len (g : Nat → Value) (i : Nat) : (own_list g i).length = i := by simp [own_list]
theorem own_at (g : Nat → Value) {i j : Nat} (h : j < i) (d : Value) : (own_list g i).getD j d = g j := by simp [own_list, List.getD_eq_getElem?_getD, h]
theorem own_setl (g : Nat → Value) (i : Nat) (x : Value) : (own_list g i ++ [x]).set i (g i) = own_list g (i + 1) := by
  have h := own_len g i
  have e : (own_list g i ++ [x]).set (own_list g i).length (g i) = own_list g i ++ [g i] := by simp
  rw [h] at e
  rw [e]; simp [own_list, List.range_succ]
theorem own_il {i : Nat} (h : i < 2147483648) : (Int32.ofNat i).toInt = i := Int32.toInt_ofNat_of_lt h
theorem own_in {i : Nat} (h : i < 2147483648) : ¬ Int32.ofNat i < 0 := by
  rw [Int32.lt_iff_toInt_lt, own_il h, show (0 : Int32).toInt = 0 from rfl]; omega
theorem own_ic {i : Nat} (h : i < 2147483648) : (Int32.ofNat i).toNatClampNeg = i := by
  rw [Int32.toNatClampNeg, own_il h]; rfl
section OwnDia
variable {tb : Tables} [Ours tb] {e : Env} {below : List Frame} {T target : State} {m : MethodId} {c : Code} {g : JFrame}
/-- a boolean written out: if .. goto the 0; 1; goto behind; 0 -/
theorem own_dia (h : At T m c below) (hx : tb.exec = Jvm.exec) (hg : g.method = m) {pc0 : Nat} {P : Prop} [Decidable P] {u w : Int32} {rest : List Value} (huw : u = 0 ∧ w = 1 ∨ u = 1 ∧ w = 0)
    (hd1 : decode c.code (pc0 + 3) = .ok (.iconst 1, 1)) (hd2 : decode c.code (pc0 + 4) = .ok (.goto 4, 3)) (hd3 : decode c.code (pc0 + 7) = .ok (.iconst 0, 1))
    (s1 : ∀ t, (P ∧ u = 0 ∨ ¬ P ∧ w = 0) → Steps tb e below (T.setTop { g with pc := pc0 + 7, stack := rest }) t → Steps tb e below (T.setTop g) t)
    (s2 : ∀ t, (P ∧ u = 1 ∨ ¬ P ∧ w = 1) → Steps tb e below (T.setTop { g with pc := pc0 + 3, stack := rest }) t → Steps tb e below (T.setTop g) t)
    (hr : Steps tb e below (T.setTop { g with pc := pc0 + 8, stack := .int (if P then u else w) :: rest }) target) : Steps tb e below (T.setTop g) target := by
  have z : (if P then u else w) = 0 → (P ∧ u = 0 ∨ ¬ P ∧ w = 0) := fun q => by
    by_cases hp : P
    · rw [if_pos hp] at q; exact Or.inl ⟨hp, q⟩
    · rw [if_neg hp] at q; exact Or.inr ⟨hp, q⟩
  have o : (if P then u else w) = 1 → (P ∧ u = 1 ∨ ¬ P ∧ w = 1) := fun q => by
    by_cases hp : P
    · rw [if_pos hp] at q; exact Or.inl ⟨hp, q⟩
    · rw [if_neg hp] at q; exact Or.inr ⟨hp, q⟩
  have b : (if P then u else w) = 0 ∨ (if P then u else w) = 1 := by
    rcases huw with ⟨rfl, rfl⟩ | ⟨rfl, rfl⟩ <;> by_cases hp : P <;> simp [hp]
  rcases b with q | q
  · refine s1 _ (z q) ?_
    refine Free.XS.iconst h hx hg hd3 ?_
    rw [q] at hr
    exact hr
  · refine s2 _ (o q) ?_
    refine Free.XS.iconst h hx hg hd1 ?_
    refine Free.XS.goto h hx hg (pc0 := pc0 + 4) (pc' := pc0 + 8) rfl hd2 (by omega) (by omega) ?_
    rw [q] at hr
    exact hr
theorem own_diaT (h : At T m c below) (hx : tb.exec = Jvm.exec) (hg : g.method = m) {pc0 : Nat} (hpc : g.pc = pc0) {P : Prop} [Decidable P] {cd : ClassFile.Cond} {x : Int32} {rest : List Value}
    (hd0 : decode c.code pc0 = .ok (.ifCond cd 7, 3)) (hd1 : decode c.code (pc0 + 3) = .ok (.iconst 1, 1)) (hd2 : decode c.code (pc0 + 4) = .ok (.goto 4, 3)) (hd3 : decode c.code (pc0 + 7) = .ok (.iconst 0, 1))
    (hs : g.stack = .int x :: rest) (hy : P → ifCond.holds cd x = true) (hn : ¬ P → ifCond.holds cd x = false)
    (hr : Steps tb e below (T.setTop { g with pc := pc0 + 8, stack := .int (if P then (0 : Int32) else 1) :: rest }) target) : Steps tb e below (T.setTop g) target := by
  subst hpc
  refine own_dia h hx hg (P := P) (u := 0) (w := 1) (rest := rest) (Or.inl ⟨rfl, rfl⟩) hd1 hd2 hd3 (fun t q k => ?_) (fun t q k => ?_) hr
  · have hp : P := q.elim (·.1) fun z => absurd z.2 (by decide)
    exact Free.XS.ifYes h hx hg (pc' := g.pc + 7) rfl hd0 hs (hy hp) (by omega) (by omega) k
  · have hp : ¬ P := q.elim (fun z => absurd z.2 (by decide)) (·.1)
    exact Free.XS.ifNo h hx hg hd0 hs (hn hp) k
theorem own_diaF (h : At T m c below) (hx : tb.exec = Jvm.exec) (hg : g.method = m) {pc0 : Nat} (hpc : g.pc = pc0) {P : Prop} [Decidable P] {cd : ClassFile.Cond} {x : Int32} {rest : List Value}
    (hd0 : decode c.code pc0 = .ok (.ifCond cd 7, 3)) (hd1 : decode c.code (pc0 + 3) = .ok (.iconst 1, 1)) (hd2 : decode c.code (pc0 + 4) = .ok (.goto 4, 3)) (hd3 : decode c.code (pc0 + 7) = .ok (.iconst 0, 1))
    (hs : g.stack = .int x :: rest) (hy : P → ifCond.holds cd x = false) (hn : ¬ P → ifCond.holds cd x = true)
    (hr : Steps tb e below (T.setTop { g with pc := pc0 + 8, stack := .int (if P then (1 : Int32) else 0) :: rest }) target) : Steps tb e below (T.setTop g) target := by
  subst hpc
  refine own_dia h hx hg (P := P) (u := 1) (w := 0) (rest := rest) (Or.inr ⟨rfl, rfl⟩) hd1 hd2 hd3 (fun t q k => ?_) (fun t q k => ?_) hr
  · have hp : ¬ P := q.elim (fun z => absurd z.2 (by decide)) (·.1)
    exact Free.XS.ifYes h hx hg (pc' := g.pc + 7) rfl hd0 hs (hn hp) (by omega) (by omega) k
  · have hp : P := q.elim (·.1) fun z => absurd z.2 (by decide)
    exact Free.XS.ifNo h hx hg hd0 hs (hy hp) k
theorem own_diaT2 (h : At T m c below) (hx : tb.exec = Jvm.exec) (hg : g.method = m) {pc0 : Nat} (hpc : g.pc = pc0) {P : Prop} [Decidable P] {cd : ClassFile.Cond} {x y : Int32} {rest : List Value}
    (hd0 : decode c.code pc0 = .ok (.if_icmp cd 7, 3)) (hd1 : decode c.code (pc0 + 3) = .ok (.iconst 1, 1)) (hd2 : decode c.code (pc0 + 4) = .ok (.goto 4, 3)) (hd3 : decode c.code (pc0 + 7) = .ok (.iconst 0, 1))
    (hs : g.stack = .int y :: .int x :: rest) (hy : P → if_icmp.holds cd x y = true) (hn : ¬ P → if_icmp.holds cd x y = false)
    (hr : Steps tb e below (T.setTop { g with pc := pc0 + 8, stack := .int (if P then (0 : Int32) else 1) :: rest }) target) : Steps tb e below (T.setTop g) target := by
  subst hpc
  refine own_dia h hx hg (P := P) (u := 0) (w := 1) (rest := rest) (Or.inl ⟨rfl, rfl⟩) hd1 hd2 hd3 (fun t q k => ?_) (fun t q k => ?_) hr
  · have hp : P := q.elim (·.1) fun z => absurd z.2 (by decide)
    exact Free.XS.icmpYes h hx hg (pc' := g.pc + 7) rfl hd0 hs (hy hp) (by omega) (by omega) k
  · have hp : ¬ P := q.elim (fun z => absurd z.2 (by decide)) (·.1)
    exact Free.XS.icmpNo h hx hg hd0 hs (hn hp) k
theorem own_diaF2 (h : At T m c below) (hx : tb.exec = Jvm.exec) (hg : g.method = m) {pc0 : Nat} (hpc : g.pc = pc0) {P : Prop} [Decidable P] {cd : ClassFile.Cond} {x y : Int32} {rest : List Value}
    (hd0 : decode c.code pc0 = .ok (.if_icmp cd 7, 3)) (hd1 : decode c.code (pc0 + 3) = .ok (.iconst 1, 1)) (hd2 : decode c.code (pc0 + 4) = .ok (.goto 4, 3)) (hd3 : decode c.code (pc0 + 7) = .ok (.iconst 0, 1))
    (hs : g.stack = .int y :: .int x :: rest) (hy : P → if_icmp.holds cd x y = false) (hn : ¬ P → if_icmp.holds cd x y = true)
    (hr : Steps tb e below (T.setTop { g with pc := pc0 + 8, stack := .int (if P then (1 : Int32) else 0) :: rest }) target) : Steps tb e below (T.setTop g) target := by
  subst hpc
  refine own_dia h hx hg (P := P) (u := 1) (w := 0) (rest := rest) (Or.inr ⟨rfl, rfl⟩) hd1 hd2 hd3 (fun t q k => ?_) (fun t q k => ?_) hr
  · have hp : ¬ P := q.elim (fun z => absurd z.2 (by decide)) (·.1)
    exact Free.XS.icmpYes h hx hg (pc' := g.pc + 7) rfl hd0 hs (hn hp) (by omega) (by omega) k
  · have hp : P := q.elim (·.1) fun z => absurd z.2 (by decide)
    exact Free.XS.icmpNo h hx hg hd0 hs (hy hp) k
end OwnDia

section OwnRef
variable {p : Program} {l : Launch} {e : Env} {R : Room} {s : State} {m : MethodId} {args : Array Value} {below : List Frame} {meth : Method} {c : Code} {T : State} {locs : List Loc} {cells slots : Nat} {Z : State} {a0 : Array Value} {h h' : Heap}
/-- an entry that the sheet says is resolved is ready where the walk stands -/
theorem own_ready (X : Stand p l e R s m args below meth c T locs cells slots) (hZ : Z.Warmed39 s.vm) {own R0 O n d : String} {index : Nat} (hown : s.vm.findClass own = some m.cls) (w : (Jvm.Cond.fieldRef own index R0 n d).before a0 Z = true) (via : Via Z R0 O n d) {cf i : Nat} {k : Class} {f : Field}
    (h2 : Z.fieldFound? O n d = some (cf, k, i, f)) : T.vm.fieldReady m.cls index cf f := by
  have hU : Z.Warmed39 T.vm := wtrans hZ X.warmed
  have w' := Cond.fieldRef_warmed39 hU w
  have hc : (Z.setVm T.vm).vm.findClass own = some m.cls := by
    show T.vm.findClass own = some m.cls
    rw [hU.alike.findClass, ← hZ.alike.findClass]; exact hown
  obtain ⟨c2, k2, i2, f2, hi2, hready⟩ := Cond.fieldRef_spec (s := Z.setVm T.vm) hc w'
  obtain ⟨k', hi, -⟩ := State.fieldFound?_setVm (s := Z) hU.alike (via _ h2)
  cases hi.symm.trans hi2
  exact hready
theorem own_getFR (X : Stand p l e R s m args below meth c T locs cells slots) (hx : p.tables.exec = Jvm.exec) (hZ : Z.Warmed39 s.vm) {own R0 O n d : String} {index : Nat} (hown : s.vm.findClass own = some m.cls) (w : (Jvm.Cond.fieldRef own index R0 n d).before a0 Z = true) (via : Via Z R0 O n d)
    (eT : T.heap = h) {a : Addr} {v : Value} (F : Fld Z h a O n d v) {g : JFrame} (hg : g.method = m) {rest : List Value} (hs : g.stack = .ref a :: rest) (hd : decode c.code g.pc = .ok (.getfield index, 3)) :
    ∃ T', Stand p l e R s m args below meth c T' locs cells slots ∧ T'.heap = h ∧ ∀ target, Steps p.tables e below (T'.setTop { g with pc := g.pc + 3, stack := v :: rest }) target → Steps p.tables e below (T.setTop g) target := by
  obtain ⟨cell, cf, k, i, f, h1, h2, h3, h4, -, -, h7⟩ := F
  have hready := own_ready X hZ hown w via h2
  refine ⟨T, X, eT, fun target hrest => ?_⟩
  subst hg
  jvm_step X.here [hx, hd, getfield.wp_ready (e := e) (s := T) (f := g) X.here.top hready h3 hs (show T.heap[a]? = some cell by rw [eT]; exact h1) h4 h7]
  exact hrest
theorem own_putFR (X : Stand p l e R s m args below meth c T locs cells slots) (hx : p.tables.exec = Jvm.exec) (hZ : Z.Warmed39 s.vm) {own R0 O n d C : String} {index kk : Nat} {ty : FieldType} (hown : s.vm.findClass own = some m.cls) (w : (Jvm.Cond.fieldRef own index R0 n d).before a0 Z = true) (via : Via Z R0 O n d)
    (eT : T.heap = h) {a : Addr} {v old : Value} (F : Fld Z h a O n d old) (E : Exa Z h a C) (L : (Jvm.Cond.lays C O n d).before a0 Z = true ∨ ((Jvm.Cond.laysFinal C O n d).before a0 Z = true ∧ own = O ∧ meth.name = "<init>")) (wi : (Jvm.Cond.instantiable C kk).before a0 Z = true)
    (hty : parseFieldDescriptor d = some ty) (hn : narrow ty v = v) (hf : fits ty v = true) (hin : meth.name ≠ "<init>") {g : JFrame} (hg : g.method = m) {rest : List Value} (hs : g.stack = v :: .ref a :: rest) (hd : decode c.code g.pc = .ok (.putfield index, 3)) :
    ∃ T' h', Stand p l e R s m args below meth c T' (locs ++ [⟨a, Jvm.RoadKit.slotOf Z O n d⟩]) cells slots ∧ T'.heap = h' ∧ Wr h h' a (Jvm.RoadKit.slotOf Z O n d) v ∧ ∀ target, Steps p.tables e below (T'.setTop { g with pc := g.pc + 3, stack := rest }) target → Steps p.tables e below (T.setTop g) target := by
  obtain ⟨cell, cf, k, i, f, h1, h2, h3, h4, h5, -, h7⟩ := F
  obtain ⟨cell', kc, e1, e2, e3, -⟩ := E
  cases h1.symm.trans e1
  replace L : (Jvm.Cond.lays C O n d).before a0 Z = true := L.elim id fun q => absurd q.2.2 hin
  obtain ⟨c1, k1, cf1, kf1, i1, f1, a1, a2, a3, -, -, a6, -⟩ := Laid.spec (Z := Z) (a0 := a0) (Or.inl L)
  cases h2.symm.trans a3
  cases e2.symm.trans a1
  obtain ⟨c2, k2, i1, i2, i3, -⟩ := Cond.instantiable_spec wi
  cases e2.symm.trans i1
  cases a2.symm.trans i2
  have ht := (State.fieldFound?_type h2 hty).2
  have hU : Z.Warmed39 T.vm := wtrans hZ X.warmed
  have hfit : Z.fitsSlot cell.cls cell.vm f.slot v = true := by
    have q : Z.slotType? cell.cls cell.vm f.slot = some ty := by
      simp only [State.slotType?, a2, Option.bind_eq_bind, Option.bind_some, i3]
      cases hq : cell.vm <;> first | (rw [hq] at h5; exact Bool.noConfusion h5) | (rw [a6, ht])
    simp [State.fitsSlot, q, hf]
  have hfit' : T.fitsSlot cell.cls cell.vm f.slot v = true := by rw [← State.fitsSlot_setVm hU.alike] at hfit; exact hfit
  have hfin : hasFlag f.accessFlags Acc.final = false := by
    obtain ⟨_, _, _, _, _, _, -, -, b3, -, b5, -⟩ := Cond.lays_spec L
    cases h2.symm.trans b3
    exact b5
  have hready := own_ready X hZ hown w via h2
  have hlt := (Array.getElem?_eq_some_iff.mp h7).1
  have es : Jvm.RoadKit.slotOf Z O n d = f.slot := by simp [Jvm.RoadKit.slotOf, h2]
  rw [es]
  obtain ⟨X', st⟩ := X.putfieldReady hx hready h3 (Or.inl hfin) (by rw [eT]; exact h1) h4 hlt (by rw [ht]; exact hn) hfit' hg hs hd
  exact ⟨_, _, X', rfl, ⟨cell, h1, h5, hlt, by rw [← eT]; rfl⟩, st⟩
theorem own_mvRef {y : MethodName} {own : String} {index : Nat} (hZ : Z.Warmed39 s.vm) (w : (Jvm.Cond.methodRef own index y).before a0 Z = true) (wi : (Jvm.Cond.instanceMethod y).before a0 Z = true) (hy : y.cls ≠ "java/lang/invoke/MethodHandle" ∧ y.cls ≠ "java/lang/invoke/VarHandle") : (Jvm.Cond.methodRef own index y).before args s = true := by
  obtain ⟨obj, methO, hnO, -⟩ := Cond.instanceMethod_spec wi
  exact (Cond.methodRef_warmed39 hZ hnO hy w :)
theorem own_mvMN {y : MethodName} {own host : String} {index : Nat} (hZ : Z.Warmed39 s.vm) (w : (Jvm.Cond.methodLinkNest own index y host).before a0 Z = true) : (Jvm.Cond.methodLinkNest own index y host).before args s = true := (Cond.methodLinkNest_wide hZ w :)
/-- a constructor by its contract, through an entry that is resolved already -/
theorem own_specialBackR (X : Stand p l e R s m args below meth c T locs cells slots) (hexec : p.tables.exec = Jvm.exec) {own : String} {index : Nat} {y : MethodName} (hy1 : y.name = "<init>")
    (hown : s.vm.findClass own = some m.cls) (hlink : (Jvm.Cond.methodRef own index y).before args s = true) (hinst : (Jvm.Cond.instanceMethod y).before args s = true)
    {bytes : ByteArray} {maxL : Nat} (hcode : (Jvm.Cond.code y bytes maxL none).before args s = true)
    (hy : y.cls ≠ "java/lang/invoke/MethodHandle" ∧ y.cls ≠ "java/lang/invoke/VarHandle")
    {W : Nat} {Pre : Pt → Array Value → Prop} {Post : Pt → Array Value → Option Value → Pt → Prop} (hK : Back l R p e below s args y 3 W Pre Post)
    {g : JFrame} (hg : g.method = m) (hsize : g.locals.size = c.maxLocals) {s₀ : State} (hcome : Steps p.tables e below s₀ (T.setTop g)) {a : Addr} {argsL rest : List Value}
    (hlen : ∀ sig, parseMethodDescriptor y.desc = some sig → argsL.length = sig.parameters.length) (hstack : g.stack = argsL.reverse ++ .ref a :: rest) (hW : 2 * g.monitorRoom + (rest.map fun v => v.category).sum ≤ W)
    (hdg : decode c.code g.pc = .ok (.invokespecial index, 3)) (hpre : ∀ vm₁, s.WarmedH vm₁ → Pre ⟨T.setVm vm₁, locs, cells, slots⟩ (.ref a :: argsL).toArray) :
    ∃ (v : Option Value) (vm₁ : Vm) (B : Pt), s.WarmedH vm₁ ∧ Stand p l e R s m args below meth c B.U B.locs B.cells B.slots ∧ Post ⟨T.setVm vm₁, locs, cells, slots⟩ (.ref a :: argsL).toArray v B ∧
      Steps p.tables e below s₀ (B.U.setTop { g with pc := g.pc + 3, stack := v.toList ++ rest }) := by
  obtain ⟨obj, methO, hnO, hmO, hstO, habO⟩ := Cond.instanceMethod_spec hinst
  obtain ⟨methO', cO, hmO', hcO, hbO, hlO, -, hlockO, -, hsigO⟩ := Cond.code_spec hnO hcode
  cases hmO.symm.trans hmO'
  obtain ⟨kO, hkO, hnameO⟩ := className_of_methodNamed hnO
  obtain ⟨hnameMO, hdescO⟩ := name_of_methodNamed hnO hmO
  have hT : s.WarmedH T.vm := X.warmed
  have hlink' := Cond.methodRef_warmed hT hnO hy hlink
  obtain ⟨mf, c', hfound, hreadyM, hcls, hnamed⟩ := Cond.methodRef_named (s := s.setVm T.vm) e (cur := m.cls) (by show T.vm.findClass own = some m.cls; rw [hT.alike.findClass]; exact hown) hlink'
  have hf2 : (s.setVm T.vm).methodFound? y.cls y.name y.desc = some obj := by
    rw [State.methodFound?_setVm_of_named hT.alike hnO hy]; exact State.methodFound?_of_named hnO hy
  cases hfound.symm.trans hf2
  have hc' : c' = obj.cls := by
    have q1 : T.vm.findClass y.cls = some c' := hcls
    rw [hT.alike.findClass] at q1
    exact Option.some.inj (q1.symm.trans (findClass_of_methodNamed hnO))
  subst hc'
  obtain ⟨kO₂, hkO₂, heO₂⟩ := hT.alike.2.2 _ _ hkO
  have hmO₂ : T.vm.method? obj = some methO := by rw [hT.alike.method?]; exact hmO
  have hlook : lookupSpecial T.vm obj.cls "<init>" methO.desc = .method obj := by
    rw [hT.alike.lookupSpecial, hdescO, ← hy1]; exact lookupSpecial_of_named hnO hmO hstO
  have step : ∀ target, (∀ acts, Steps p.tables e below (doInvoke e (T.setTop { g with stack := rest }) acts obj (.ref a :: argsL).toArray).1 target) → Steps p.tables e below (T.setTop g) target := fun target hrest => by
    subst hg
    jvm_step X.here [hexec, hdg, invokespecial.wp_init (e := e) (s := T) (k := kO₂) (meth := methO) (m := obj) (a := a) (args := argsL) (rest := rest) (f := g)
      X.here.top hnamed hreadyM hkO₂ hmO₂ (by rw [hnameMO]; exact hy1) hstO habO hlook (hlen _ hsigO) hstack]
    exact hrest
  have X₁ : Stand p l e R s m args below meth c (T.setVm T.vm) locs cells slots := X
  obtain ⟨v, B, X', hpost, hsteps⟩ := hK m meth c ⟨T.setVm T.vm, locs, cells, slots⟩ { g with stack := rest } (.invokespecial index) obj (.ref a :: argsL).toArray X₁ hg hsize hdg hW (X₁.named hnO) (hpre T.vm hT)
  exact ⟨v, T.vm, B, hT, X', hpost, (hcome.trans (step _ fun acts => by rw [doInvoke_state]; exact Steps.refl _)).trans hsteps⟩
/-- a nest mate's private method by its contract -/
theorem own_privateBackN (X : Stand p l e R s m args below meth c T locs cells slots) (hexec : p.tables.exec = Jvm.exec) {own host : String} {index : Nat} {y : MethodName} {bytes : ByteArray} {maxL : Nat} {ret : Option FieldType}
    (hown : s.vm.findClass own = some m.cls) (hlink : (Jvm.Cond.methodLinkNest own index y host).before args s = true) (hinst : (Jvm.Cond.instanceMethod y).before args s = true) (hsel : (Jvm.Cond.selects y.cls y y).before args s = true)
    (hpriv : s.PrivateAt y) (hcode : (Jvm.Cond.code y bytes maxL ret).before args s = true) (hy : y.cls ≠ "java/lang/invoke/MethodHandle" ∧ y.cls ≠ "java/lang/invoke/VarHandle")
    {W : Nat} {Pre : Free.Pt → Array Value → Prop} {Post : Free.Pt → Array Value → Option Value → Free.Pt → Prop} (hK : Free.Back l R p e below s args y 3 W Pre Post)
    {g : JFrame} (hg : g.method = m) (hsize : g.locals.size = c.maxLocals) {s₀ : State} (hcome : Steps p.tables e below s₀ (T.setTop g)) {a : Addr} {cell : Cell} (hcell : T.heap[a]? = some cell) (hobj : ∀ q, cell.vm ≠ .statics q)
    {argsL rest : List Value} (hlen : ∀ sig, parseMethodDescriptor y.desc = some sig → argsL.length = sig.parameters.length)
    (hstack : g.stack = argsL.reverse ++ .ref a :: rest) (hW : 2 * g.monitorRoom + (rest.map fun v => v.category).sum ≤ W) (hdg : decode c.code g.pc = .ok (.invokevirtual index, 3))
    (hpre : ∀ vm₁, s.WarmedH vm₁ → Pre ⟨T.setVm vm₁, locs, cells, slots⟩ (.ref a :: argsL).toArray) :
    ∃ (v : Option Value) (vm₁ : Vm) (B : Free.Pt), s.WarmedH vm₁ ∧ Stand p l e R s m args below meth c B.U B.locs B.cells B.slots ∧ Post ⟨T.setVm vm₁, locs, cells, slots⟩ (.ref a :: argsL).toArray v B ∧
      Steps p.tables e below s₀ (B.U.setTop { g with pc := g.pc + 3, stack := v.toList ++ rest }) := by
  obtain ⟨mk, methM, hnamed, hmethM, hstM, habM⟩ := Cond.instanceMethod_spec hinst
  obtain ⟨methM', cM, hmethM', -, -, -, -, -, -, hsigM⟩ := Cond.code_spec hnamed hcode
  cases hmethM.symm.trans hmethM'
  obtain ⟨c2, r2, m2, -, -, q3, -, kP, hkP, hkPi⟩ := Cond.selects_spec hsel
  cases hnamed.symm.trans q3
  have hselP : selectMethod e.platform s.vm cell.cls mk = .method mk := selectMethod_private hmethM (hpriv mk methM hnamed hmethM)
  obtain ⟨vm₁, X₁, hstep₁⟩ := X.invokevirtualNest hexec hown hlink hnamed hmethM hstM hkP hkPi hy (a := a) (cell := cell) hcell hobj hselP hmethM habM hkP hkPi (g := g) hg (argsL := argsL) (rest := rest) (hlen _ hsigM) hstack hdg
  have hW₁ : s.WarmedH vm₁ := X₁.warmed
  obtain ⟨v, B, X', hpost, hsteps⟩ := hK m meth c ⟨T.setVm vm₁, locs, cells, slots⟩ { g with stack := rest } (.invokevirtual index) mk (.ref a :: argsL).toArray X₁ hg hsize hdg hW (X₁.named hnamed) (hpre vm₁ hW₁)
  exact ⟨v, vm₁, B, hW₁, X', hpost, (hcome.trans (hstep₁ _ fun acts => by rw [doInvoke_state]; exact Steps.refl _)).trans hsteps⟩
/-- the cell at a bears the monitor mo -/
def own_Mo (h : Heap) (a : Addr) (mo : Monitor) : Prop := ∃ c : Cell, h[a]? = some c ∧ c.monitor = mo
theorem own_Mo.ofU {a : Addr} (U : ∃ cell : Cell, h[a]? = some cell ∧ cell.vm = .none ∧ cell.monitor = {}) : own_Mo h a {} := by obtain ⟨c, h1, -, h2⟩ := U; exact ⟨c, h1, h2⟩
theorem own_Mo.ext {a : Addr} {mo : Monitor} (F : own_Mo h a mo) (E : Ext h h') : own_Mo h' a mo := by obtain ⟨c, h1, h2⟩ := F; exact ⟨c, E.2 _ _ h1, h2⟩
theorem own_Mo.keep {a : Addr} {mo : Monitor} {ws : List Addr} (F : own_Mo h a mo) (K : Keep h h' ws) (q : a ∉ ws) : own_Mo h' a mo := by obtain ⟨c, h1, h2⟩ := F; exact ⟨c, K.2.1 _ _ h1 q, h2⟩
theorem own_Mo.wr {a b : Addr} {mo : Monitor} {sl : Nat} {v : Value} (F : own_Mo h a mo) (W : Wr h h' b sl v) : own_Mo h' a mo := by
  obtain ⟨c, h1, h2⟩ := F
  obtain ⟨cb, k1, -, -, -, k5, -, k7⟩ := wr_at W h1
  by_cases q : a = b
  · obtain ⟨k8, -⟩ := k7 q
    exact ⟨cb, k1, by rw [k8]; exact h2⟩
  · exact ⟨cb, k1, by rw [k5 q]; exact h2⟩
theorem own_keep_mon {a : Addr} {cl : Cell} (mo : Monitor) (hc : h[a]? = some cl) : Keep h (h.setIfInBounds a { cl with monitor := mo }) [a] := by
  have hlt := (Array.getElem?_eq_some_iff.mp hc).1
  refine ⟨by simp, fun x c q r => ?_, fun x c q => ?_⟩
  · have hne : a ≠ x := fun z => r (by rw [z]; exact List.mem_singleton.mpr rfl)
    rw [Array.getElem?_setIfInBounds_ne hne]; exact q
  · by_cases z : a = x
    · subst z
      cases hc.symm.trans q
      exact ⟨{ cl with monitor := mo }, by simp [hlt], rfl, rfl, rfl⟩
    · exact ⟨c, by rw [Array.getElem?_setIfInBounds_ne z]; exact q, rfl, rfl, rfl⟩
def own_held (t : ThreadId) : Monitor := { owner := some t, count := 1, waitSet := [] }
theorem own_set_at {a : Addr} {cl : Cell} (mo : Monitor) (hc : h[a]? = some cl) : own_Mo (h.setIfInBounds a { cl with monitor := mo }) a mo := ⟨{ cl with monitor := mo }, by simp [(Array.getElem?_eq_some_iff.mp hc).1], rfl⟩
theorem own_left0 (c : Cell) : c.left = if c.monitor.count ≤ 1 then { c with monitor := { c.monitor with owner := none, count := 0 } } else { c with monitor := { c.monitor with count := c.monitor.count - 1 } } := rfl
theorem own_left {c : Cell} {t : ThreadId} (q : c.monitor = own_held t) : c.left = { c with monitor := {} } := by
  rw [own_left0, q]; rfl
theorem own_entry {c : Cell} {t : ThreadId} (q : c.monitor = {}) : c.withEntry t = { c with monitor := own_held t } := by
  show ({ c with monitor := { c.monitor with owner := some t, count := c.monitor.count + 1 } } : Cell) = _
  rw [q]; rfl
theorem own_sync (Lk : meth.locks = false) {nm : String} (hn : meth.name = nm) (hq : nm ≠ "<clinit>") : meth.isSynchronized = false := by
  have q : (meth.isSynchronized && meth.name != "<clinit>") = false := Lk
  rw [hn] at q
  have hb : (nm != "<clinit>") = true := by simpa using hq
  rw [hb, Bool.and_true] at q
  exact q
theorem own_retNg (X : Stand p l e R s m args below meth c T locs cells slots) (hx : p.tables.exec = Jvm.exec) {g : JFrame} (hg : g.method = m) (hlk : g.locked = none) (hen : g.entered = []) {z : Int32} {rest : List Value} (hs : g.stack = .int z :: rest) (hret : meth.sig.returnType = some .boolean)
    (hd : decode c.code g.pc = .ok (.ireturn, 1)) {fs : List Frame} (hl : ∀ (f : JFrame) (acts : List Action), f.method = m → f.locked = none → f.entered = [] → (doReturn e (T.setTop f) acts (some (.int (nar .boolean z)))).1 = T.setFrames fs) :
    Steps p.tables e below (T.setTop g) (T.setFrames fs) := by
  have hm' : T.vm.method? m = some meth := X.method'
  have hn : narrow .boolean (.int z) = .int (nar .boolean z) := rfl
  subst hg
  jvm_step X.here [X.here.top, hx, hd, hs, hm', hret, hn]
  intro acts
  rw [hl { g with stack := rest } acts rfl hlk hen]
  exact Steps.refl _
end OwnRef

/-- what give says, and what is free behind it, where nothing was taken or given before (q: bytes, ms: most, fr: free, lg: largest) -/
def own_gr (q ms fr lg : Int64) : Int32 := if (0 : Int64) < (((0 : Int64) + q) - (0 : Int64)) then (if (fr - (((0 : Int64) + q) - (0 : Int64))) < lg then (if fr < (ms - (0 : Int64)) then 0 else 1) else 1) else 1
def own_gf (q ms fr lg : Int64) : Int64 := if (0 : Int64) < (((0 : Int64) + q) - (0 : Int64)) then (if (fr - (((0 : Int64) + q) - (0 : Int64))) < lg then (if fr < (ms - (0 : Int64)) then fr else (fr - (ms - (0 : Int64)))) else (fr - (((0 : Int64) + q) - (0 : Int64)))) else fr
theorem own_w (q : Int64) : (((0 : Int64) + q) - (0 : Int64)) = q := by rw [Int64.zero_add, Int64.sub_zero]
theorem own_ms (q : Int64) : (q - (0 : Int64)) = q := Int64.sub_zero q
theorem own_gr_eq (q ms fr lg : Int64) : own_gr q ms fr lg = if (0 : Int64) < q then (if (fr - q) < lg then (if fr < ms then 0 else 1) else 1) else 1 := by
  show (if (0 : Int64) < (((0 : Int64) + q) - (0 : Int64)) then (if (fr - (((0 : Int64) + q) - (0 : Int64))) < lg then (if fr < (ms - (0 : Int64)) then (0 : Int32) else 1) else 1) else 1) = _
  rw [own_w, own_ms]
theorem own_gf_eq (q ms fr lg : Int64) : own_gf q ms fr lg = if (0 : Int64) < q then (if (fr - q) < lg then (if fr < ms then fr else (fr - ms)) else (fr - q)) else fr := by
  show (if (0 : Int64) < (((0 : Int64) + q) - (0 : Int64)) then (if (fr - (((0 : Int64) + q) - (0 : Int64))) < lg then (if fr < (ms - (0 : Int64)) then fr else (fr - (ms - (0 : Int64)))) else (fr - (((0 : Int64) + q) - (0 : Int64)))) else fr) = _
  rw [own_w, own_ms]
theorem own_ngr (q ms fr lg : Int64) : nar .boolean (own_gr q ms fr lg) = own_gr q ms fr lg := by
  rw [own_gr_eq]
  by_cases a : (0 : Int64) < q <;> by_cases b : (fr - q) < lg <;> by_cases c : fr < ms <;> simp [a, b, c, nar]
theorem own_z : (0 : Int64).toInt = 0 := rfl
theorem own_o : (1 : Int64).toInt = 1 := rfl
theorem own_lg {lg lp : Int64} (h : lg = (lp &&& (4611686018427387903 : Int64))) : 0 ≤ lg.toInt ∧ lg.toInt < 4611686018427387904 := by
  have q := c_maskL lp (4611686018427387903 : Int64) 62 (by decide) (by decide)
  rw [h, q]
  constructor
  · exact Int.emod_nonneg _ (by decide)
  · exact Int.emod_lt_of_pos _ (by decide)
theorem own_sz {sz lg ep : Int64} (hl : 0 ≤ lg.toInt ∧ lg.toInt < 4611686018427387904) (h : sz = (lg + (ep &&& (4611686018427387903 : Int64)))) : lg.toInt ≤ sz.toInt ∧ sz.toInt < 9223372036854775807 := by
  have q := own_lg (rfl : (ep &&& (4611686018427387903 : Int64)) = _)
  have r := c_ladd lg (ep &&& (4611686018427387903 : Int64))
  have t := rng64 (lg + (ep &&& (4611686018427387903 : Int64)))
  rw [h]; omega
theorem own_p1 {x : Int64} (h : 0 ≤ x.toInt ∧ x.toInt < 9223372036854775807) : (x + (1 : Int64)).toInt = x.toInt + 1 := by
  have r := c_ladd x 1
  have t := rng64 (x + 1)
  rw [own_o] at r
  omega
theorem own_nz {x : Int64} (h : 0 ≤ x.toInt ∧ x.toInt < 9223372036854775807) : (x + (1 : Int64)) ≠ 0 := fun q => by
  have r := own_p1 h
  rw [q, own_z] at r
  omega
theorem own_rm {x y k : Int64} (h : 0 ≤ x.toInt ∧ x.toInt < 9223372036854775807) (e : k = ((y &&& (9223372036854775807 : Int64)) - ((y &&& (9223372036854775807 : Int64)) / (x + (1 : Int64))) * (x + (1 : Int64)))) : 0 ≤ k.toInt ∧ k.toInt ≤ x.toInt := by
  have a : 0 ≤ (y &&& (9223372036854775807 : Int64)).toInt := (c_andSL y (9223372036854775807 : Int64)).2.2 (by decide)
  have b := (c_lrem (y &&& (9223372036854775807 : Int64)) (x + 1) (x + 1).toInt rfl).1 a
  have p := own_p1 h
  rw [e, b, p]
  have c1 := Int.emod_nonneg (y &&& (9223372036854775807 : Int64)).toInt (show x.toInt + 1 ≠ 0 by omega)
  have c2 := Int.emod_lt_of_pos (y &&& (9223372036854775807 : Int64)).toInt (show 0 < x.toInt + 1 by omega)
  omega
theorem own_le {a b : Int64} (h : a.toInt ≤ b.toInt) : ¬ b < a := by rw [Int64.lt_iff_toInt_lt]; omega
theorem own_ge0 {a : Int64} (h : 0 ≤ a.toInt) : ¬ a < (0 : Int64) := by rw [Int64.lt_iff_toInt_lt, own_z]; omega
theorem own_t {t mb : Int64} (h : 0 ≤ mb.toInt) (e : t = (if (0 : Int64) < mb then (1 : Int64) else (0 : Int64))) : 0 ≤ t.toInt ∧ t.toInt ≤ mb.toInt := by
  by_cases q : (0 : Int64) < mb
  · rw [if_pos q] at e
    rw [Int64.lt_iff_toInt_lt, own_z] at q
    rw [e, own_o]; omega
  · rw [if_neg q] at e
    rw [e, own_z]; omega
theorem own_tk {t ms : Int64} (h : t.toInt ≤ ms.toInt) : ¬ ms < ((0 : Int64) + t) := by rw [Int64.zero_add]; exact own_le h
/-- the first take is granted -/
theorem own_r1 {k ms sz lg : Int64} (hk : 0 ≤ k.toInt) (hkm : k.toInt ≤ ms.toInt) (hm : ms.toInt ≤ lg.toInt) (hs : lg.toInt ≤ sz.toInt) : own_gr k ms sz lg = 1 := by
  rw [own_gr_eq]
  have q : ¬ sz < ms := own_le (by omega)
  rw [if_neg q]
  by_cases a : (0 : Int64) < k <;> by_cases b : (sz - k) < lg <;> simp [a, b]
/-- .. and leaves free what the law says -/
theorem own_f1 {k ms sz lg : Int64} (hk : 0 ≤ k.toInt) (hkm : k.toInt ≤ ms.toInt) (hm : ms.toInt ≤ lg.toInt) (hs : lg.toInt ≤ sz.toInt) : own_gf k ms sz lg = (if k = (0 : Int64) then sz else (if (sz - k) < lg then (sz - ms) else (sz - k))) := by
  rw [own_gf_eq]
  have q : ¬ sz < ms := own_le (by omega)
  rw [if_neg q]
  by_cases a : k = 0
  · subst a; simp
  · have a' : (0 : Int64) < k := by
      rw [Int64.lt_iff_toInt_lt, own_z]
      have : k.toInt ≠ 0 := fun z => a (Int64.toInt_inj.mp z)
      omega
    rw [if_neg a, if_pos a']
theorem own_r2 {t mb fr lg : Int64} (e : t = (if (0 : Int64) < mb then (1 : Int64) else (0 : Int64))) : own_gr t mb fr lg = (if t = (0 : Int64) then (1 : Int32) else (if (fr - (1 : Int64)) < lg then (if fr < mb then (0 : Int32) else 1) else (1 : Int32))) := by
  rw [own_gr_eq]
  by_cases q : (0 : Int64) < mb
  · rw [if_pos q] at e
    subst e
    rw [if_pos (show (0 : Int64) < 1 by decide), if_neg (show ¬ (1 : Int64) = 0 by decide)]
  · rw [if_neg q] at e
    subst e
    rw [if_neg (show ¬ (0 : Int64) < 0 by decide), if_pos rfl]
theorem d1_0 : decode prog_2_method_1_code 0 = .ok (.aload_n 0, 1) := by decide +kernel
theorem d1_1 : decode prog_2_method_1_code 1 = .ok (.invokespecial 1, 3) := by decide +kernel
theorem d1_4 : decode prog_2_method_1_code 4 = .ok (.lload_n 3, 1) := by decide +kernel
theorem d1_5 : decode prog_2_method_1_code 5 = .ok (.lconst 0, 1) := by decide +kernel
theorem d1_6 : decode prog_2_method_1_code 6 = .ok (.lcmp, 1) := by decide +kernel
theorem d1_7 : decode prog_2_method_1_code 7 = .ok (.ifCond .lt 9, 3) := by decide +kernel
theorem d1_10 : decode prog_2_method_1_code 10 = .ok (.lload_n 3, 1) := by decide +kernel
theorem d1_11 : decode prog_2_method_1_code 11 = .ok (.lload_n 1, 1) := by decide +kernel
theorem d1_12 : decode prog_2_method_1_code 12 = .ok (.lcmp, 1) := by decide +kernel
theorem d1_13 : decode prog_2_method_1_code 13 = .ok (.ifCond .le 18, 3) := by decide +kernel
theorem d1_31 : decode prog_2_method_1_code 31 = .ok (.aload_n 0, 1) := by decide +kernel
theorem d1_32 : decode prog_2_method_1_code 32 = .ok (.lload_n 3, 1) := by decide +kernel
theorem d1_33 : decode prog_2_method_1_code 33 = .ok (.putfield 16, 3) := by decide +kernel
theorem d1_36 : decode prog_2_method_1_code 36 = .ok (.aload_n 0, 1) := by decide +kernel
theorem d1_37 : decode prog_2_method_1_code 37 = .ok (.lload_n 1, 1) := by decide +kernel
theorem d1_38 : decode prog_2_method_1_code 38 = .ok (.putfield 22, 3) := by decide +kernel
theorem d1_41 : decode prog_2_method_1_code 41 = .ok (.return_, 1) := by decide +kernel
theorem pn_com_example_leave_to_act_leavetoact_ByteBudget : plainName "com/example/leave_to_act/leavetoact/ByteBudget" = true := by first | (simp [plainName, overriddenIn]; done) | decide +kernel
theorem ef_1 (m : MethodId) (o0 : Addr) (q1 : Int64) (q2 : Int64) : entryFrame m #[(.ref o0), (.long q1), (.long q2)] 5 = mkF m 0 #[.val (.ref o0), .val (.long q1), .second, .val (.long q2), .second] [] := by first | (simp [entryFrame, mkF, argsToLocals, Value.category]; done) | rfl
def Q1 (Z : State) (o0 : Addr) (q1 : Int64) (q2 : Int64) (h0 : Heap) (n0 : Nat) (v : Option Value) (h : Heap) (L : List Loc) : Prop := v = none ∧ Fr n0 L ∧ Keep h0 h [o0] ∧ Fld Z h o0 "com/example/leave_to_act/leavetoact/ByteBudget" "largest" "J" (.long q2) ∧ Fld Z h o0 "com/example/leave_to_act/leavetoact/ByteBudget" "free" "J" (.long q1) ∧ own_Mo h o0 {}
set_option maxRecDepth 65536 in
set_option maxHeartbeats 40000000 in
theorem rm1 (l : Launch) (Z : State) (a0 : Array Value) (hw : ∀ d ∈ tables_1, d.before a0 Z = true) (ws : List Jvm.Cond) (o0 : Addr) (q1 : Int64) (q2 : Int64) (h0 : Heap) (n0 : Nat) (Z0 : n0 ≤ h0.size) (E_o0 : Exa Z h0 o0 "com/example/leave_to_act/leavetoact/ByteBudget") (F_largest_o0 : Fld Z h0 o0 "com/example/leave_to_act/leavetoact/ByteBudget" "largest" "J" (.long (0 : Int64))) (F_free_o0 : Fld Z h0 o0 "com/example/leave_to_act/leavetoact/ByteBudget" "free" "J" (.long (0 : Int64))) (M_o0 : own_Mo h0 o0 {}) (g_o0 : n0 ≤ o0) (h0l : ¬ q2 < (0 : Int64)) (hls : ¬ q1 < q2) :
    MetFree l (⟨"com/example/leave_to_act/leavetoact/ByteBudget", "<init>", "(JJ)V"⟩ : MethodName) (head1 (Jvm.Cond.code (⟨"com/example/leave_to_act/leavetoact/ByteBudget", "<init>", "(JJ)V"⟩ : MethodName) prog_2_method_1_code 5 none :: ws) ({ frames := 1, cells := 0, slots := 0, locals := 12 } : Room)) (fun a U => a = #[(.ref o0), (.long q1), (.long q2)] ∧ Z.Warmed39 U.vm ∧ U.heap = h0) (fun _ _ _ _ _ => True) (fun _ U o U' => ∃ v L, o = .returned v ∧ Q1 Z o0 q1 q2 h0 n0 v U'.heap L ∧ FrameEnd U o U' L ({ frames := 1, cells := 0, slots := 0, locals := 12 } : Room).cells ({ frames := 1, cells := 0, slots := 0, locals := 12 } : Room).slots) := by
  refine MetFree.of_bodySF (plainFor_of_name pn_com_example_leave_to_act_leavetoact_ByteBudget) hisR ?_
  intro p e s m args below meth c s₁ Bd hml0 hP hK
  obtain ⟨rfl, hZ, hh⟩ := hP
  have hx := Bd.exec
  have hby := Bd.bytes
  have hml : c.maxLocals = 5 := hml0
  have hown : s.vm.findClass "com/example/leave_to_act/leavetoact/ByteBudget" = some m.cls := findClass_of_methodNamed Bd.named
  have hnm := (name_of_methodNamed Bd.named Bd.method).1
  have X0 : Stand p l e ({ frames := 1, cells := 0, slots := 0, locals := 12 } : Room) s m #[(.ref o0), (.long q1), (.long q2)] below meth c s₁ [] 0 0 := Stand.of_body Bd
  have e0 : s₁.heap = h0 := by rw [← hh, Bd.state]; rfl
  have N0 := Fr.nil n0
  have pre0 : ∀ t, Steps p.tables e below (s₁.setTop (mkF m 0 #[.val (.ref o0), .val (.long q1), .second, .val (.long q2), .second] [])) t → Steps p.tables e below (s₁.setTop (entryFrame m #[(.ref o0), (.long q1), (.long q2)] 5)) t := fun t k => castTop (ef_1 m o0 q1 q2) k
  obtain ⟨T1, X1, e1, st1⟩ := initO X0 hx hZ hown (hw _ (List.mem_of_getElem? (i := 8) rfl)) (hw _ (List.mem_of_getElem? (i := 9) rfl)) (hw _ (List.mem_of_getElem? (i := 10) rfl)) e0 (g := (mkF m 1 #[.val (.ref o0), .val (.long q1), .second, .val (.long q2), .second] [(.ref o0)])) rfl (by rw [hml]; rfl) rfl (hb hby d1_1) (by decide) (W := 0) (by show 2 * 0 + _ ≤ _; exact Nat.le_of_eq rfl) (by decide)
  obtain ⟨T2, h2, X2, e2, W2, st2⟩ := putF X1 hx hZ hown (host := "") (Or.inl (hw _ (List.mem_of_getElem? (i := 11) rfl))) Via.refl e1 F_largest_o0 E_o0 (Or.inr ⟨(hw _ (List.mem_of_getElem? (i := 12) rfl)), rfl, hnm⟩) (hw _ (List.mem_of_getElem? (i := 3) rfl)) (ty := .long) (by decide) rfl rfl (g := (mkF m 33 #[.val (.ref o0), .val (.long q1), .second, .val (.long q2), .second] [(.long q2), (.ref o0)])) rfl rfl (hb hby d1_33)
  have Fw2 : Fld Z h2 o0 "com/example/leave_to_act/leavetoact/ByteBudget" "largest" "J" (.long q2) := F_largest_o0.same W2
  have J2 : Keep h0 h2 [o0] := (Keep.refl h0 [o0]).wr W2 (Or.inl (List.mem_of_getElem? (i := 0) rfl))
  have N2 := Fr.snoc X2 N0 g_o0
  have c3 : Fld Z h2 o0 "com/example/leave_to_act/leavetoact/ByteBudget" "free" "J" (.long (0 : Int64)) := (F_free_o0.other W2 (Or.inr (slot_ne (Or.inl (hw _ (List.mem_of_getElem? (i := 14) rfl))) (Or.inr (hw _ (List.mem_of_getElem? (i := 12) rfl))) (by decide) (t := .long) (t' := .long) (by decide) (by decide))))
  have c4 : Exa Z h2 o0 "com/example/leave_to_act/leavetoact/ByteBudget" := (E_o0.wr W2)
  obtain ⟨T5, h5, X5, e5, W5, st5⟩ := putF X2 hx hZ hown (host := "") (Or.inl (hw _ (List.mem_of_getElem? (i := 13) rfl))) Via.refl e2 c3 c4 (Or.inl (hw _ (List.mem_of_getElem? (i := 14) rfl))) (hw _ (List.mem_of_getElem? (i := 3) rfl)) (ty := .long) (by decide) rfl rfl (g := (mkF m 38 #[.val (.ref o0), .val (.long q1), .second, .val (.long q2), .second] [(.long q1), (.ref o0)])) rfl rfl (hb hby d1_38)
  have Fw5 : Fld Z h5 o0 "com/example/leave_to_act/leavetoact/ByteBudget" "free" "J" (.long q1) := c3.same W5
  have J5 : Keep h0 h5 [o0] := J2.wr W5 (Or.inl (List.mem_of_getElem? (i := 0) rfl))
  have N5 := Fr.snoc X5 N2 g_o0
  have c6 : Fld Z h5 o0 "com/example/leave_to_act/leavetoact/ByteBudget" "largest" "J" (.long q2) := (Fw2.other W5 (Or.inr (slot_ne (Or.inr (hw _ (List.mem_of_getElem? (i := 12) rfl))) (Or.inl (hw _ (List.mem_of_getElem? (i := 14) rfl))) (by decide) (t := .long) (t' := .long) (by decide) (by decide))))
  have c7 : own_Mo h5 o0 {} := ((M_o0.wr W2).wr W5)
  obtain ⟨fs, hr, hrun, hended, hW, hsame⟩ := X5.leave (v := none) (fun _ => rfl)
  refine ⟨_, _, pre0 _ ?_, hrun, hended, _, _, rfl, ?_, ⟨_, rfl⟩, hW, hsame.mono (by decide) (by decide)⟩
  · show Steps p.tables e below (s₁.setTop (mkF m 0 #[.val (.ref o0), .val (.long q1), .second, .val (.long q2), .second] [])) _
    refine XS.aloadN X0.here hx rfl (hb hby d1_0) rfl rfl ?_
    show Steps p.tables e below (s₁.setTop (mkF m 1 #[.val (.ref o0), .val (.long q1), .second, .val (.long q2), .second] [(.ref o0)])) _
    refine st1 _ ?_
    show Steps p.tables e below (T1.setTop (mkF m 4 #[.val (.ref o0), .val (.long q1), .second, .val (.long q2), .second] [])) _
    refine XS.lloadN X1.here hx rfl (hb hby d1_4) rfl ?_
    show Steps p.tables e below (T1.setTop (mkF m 5 #[.val (.ref o0), .val (.long q1), .second, .val (.long q2), .second] [(.long q2)])) _
    refine XS.lconst X1.here hx rfl (hb hby d1_5) ?_
    show Steps p.tables e below (T1.setTop (mkF m 6 #[.val (.ref o0), .val (.long q1), .second, .val (.long q2), .second] [(.long (0 : Int64)), (.long q2)])) _
    refine XS.lcmp X1.here hx rfl (hb hby d1_6) rfl ?_
    show Steps p.tables e below (T1.setTop (mkF m 7 #[.val (.ref o0), .val (.long q1), .second, .val (.long q2), .second] [(.int (lcmpW q2 (0 : Int64)))])) _
    refine XS.ifNo X1.here hx rfl (hb hby d1_7) rfl ((if0 _ _).trans (flt (mt (lw_lt _ _).mp h0l)).1) ?_
    show Steps p.tables e below (T1.setTop (mkF m 10 #[.val (.ref o0), .val (.long q1), .second, .val (.long q2), .second] [])) _
    refine XS.lloadN X1.here hx rfl (hb hby d1_10) rfl ?_
    show Steps p.tables e below (T1.setTop (mkF m 11 #[.val (.ref o0), .val (.long q1), .second, .val (.long q2), .second] [(.long q2)])) _
    refine XS.lloadN X1.here hx rfl (hb hby d1_11) rfl ?_
    show Steps p.tables e below (T1.setTop (mkF m 12 #[.val (.ref o0), .val (.long q1), .second, .val (.long q2), .second] [(.long q1), (.long q2)])) _
    refine XS.lcmp X1.here hx rfl (hb hby d1_12) rfl ?_
    show Steps p.tables e below (T1.setTop (mkF m 13 #[.val (.ref o0), .val (.long q1), .second, .val (.long q2), .second] [(.int (lcmpW q2 q1))])) _
    refine XS.ifYes X1.here hx rfl (pc0 := 13) (pc' := 31) rfl (hb hby d1_13) rfl ((if0 _ _).trans (flt (mt (lw_gt _ _).mp hls)).2.2.2) (by decide) (by decide) ?_
    show Steps p.tables e below (T1.setTop (mkF m 31 #[.val (.ref o0), .val (.long q1), .second, .val (.long q2), .second] [])) _
    refine XS.aloadN X1.here hx rfl (hb hby d1_31) rfl rfl ?_
    show Steps p.tables e below (T1.setTop (mkF m 32 #[.val (.ref o0), .val (.long q1), .second, .val (.long q2), .second] [(.ref o0)])) _
    refine XS.lloadN X1.here hx rfl (hb hby d1_32) rfl ?_
    show Steps p.tables e below (T1.setTop (mkF m 33 #[.val (.ref o0), .val (.long q1), .second, .val (.long q2), .second] [(.long q2), (.ref o0)])) _
    refine st2 _ ?_
    show Steps p.tables e below (T2.setTop (mkF m 36 #[.val (.ref o0), .val (.long q1), .second, .val (.long q2), .second] [])) _
    refine XS.aloadN X2.here hx rfl (hb hby d1_36) rfl rfl ?_
    show Steps p.tables e below (T2.setTop (mkF m 37 #[.val (.ref o0), .val (.long q1), .second, .val (.long q2), .second] [(.ref o0)])) _
    refine XS.lloadN X2.here hx rfl (hb hby d1_37) rfl ?_
    show Steps p.tables e below (T2.setTop (mkF m 38 #[.val (.ref o0), .val (.long q1), .second, .val (.long q2), .second] [(.long q1), (.ref o0)])) _
    refine st5 _ ?_
    show Steps p.tables e below (T5.setTop (mkF m 41 #[.val (.ref o0), .val (.long q1), .second, .val (.long q2), .second] [])) _
    exact X5.returnOut hx Bd.returns (hb hby d1_41) hr
  · show Q1 Z o0 q1 q2 h0 n0 _ T5.heap _
    rw [e5]
    exact ⟨rfl, N5, J5, c6, Fw5, c7⟩
theorem d3_0 : decode prog_3_method_1_code 0 = .ok (.aload_n 0, 1) := by decide +kernel
theorem d3_1 : decode prog_3_method_1_code 1 = .ok (.aload_n 1, 1) := by decide +kernel
theorem d3_2 : decode prog_3_method_1_code 2 = .ok (.putfield 1, 3) := by decide +kernel
theorem d3_5 : decode prog_3_method_1_code 5 = .ok (.aload_n 0, 1) := by decide +kernel
theorem d3_6 : decode prog_3_method_1_code 6 = .ok (.invokespecial 7, 3) := by decide +kernel
theorem d3_9 : decode prog_3_method_1_code 9 = .ok (.aload_n 0, 1) := by decide +kernel
theorem d3_10 : decode prog_3_method_1_code 10 = .ok (.lload_n 2, 1) := by decide +kernel
theorem d3_11 : decode prog_3_method_1_code 11 = .ok (.putfield 13, 3) := by decide +kernel
theorem d3_14 : decode prog_3_method_1_code 14 = .ok (.return_, 1) := by decide +kernel
theorem pn_com_example_leave_to_act_leavetoact_ByteBudget_Share : plainName "com/example/leave_to_act/leavetoact/ByteBudget$Share" = true := by first | (simp [plainName, overriddenIn]; done) | decide +kernel
theorem ef_3 (m : MethodId) (o0 : Addr) (o1 : Addr) (q2 : Int64) : entryFrame m #[(.ref o0), (.ref o1), (.long q2)] 4 = mkF m 0 #[.val (.ref o0), .val (.ref o1), .val (.long q2), .second] [] := by first | (simp [entryFrame, mkF, argsToLocals, Value.category]; done) | rfl
def Q3 (Z : State) (o0 : Addr) (o1 : Addr) (q2 : Int64) (h0 : Heap) (n0 : Nat) (v : Option Value) (h : Heap) (L : List Loc) : Prop := v = none ∧ Fr n0 L ∧ Keep h0 h [o0] ∧ Fld Z h o0 "com/example/leave_to_act/leavetoact/ByteBudget$Share" "this$0" "Lcom/example/leave_to_act/leavetoact/ByteBudget;" (.ref o1) ∧ Fld Z h o0 "com/example/leave_to_act/leavetoact/ByteBudget$Share" "most" "J" (.long q2) ∧ Fld Z h o0 "com/example/leave_to_act/leavetoact/ByteBudget$Share" "given" "J" (.long (0 : Int64)) ∧ Fld Z h o0 "com/example/leave_to_act/leavetoact/ByteBudget$Share" "taken" "J" (.long (0 : Int64))
set_option maxRecDepth 65536 in
set_option maxHeartbeats 40000000 in
theorem rm3 (l : Launch) (Z : State) (a0 : Array Value) (hw : ∀ d ∈ tables_1, d.before a0 Z = true) (ws : List Jvm.Cond) (o0 : Addr) (o1 : Addr) (q2 : Int64) (h0 : Heap) (n0 : Nat) (Z0 : n0 ≤ h0.size) (E_o0 : Exa Z h0 o0 "com/example/leave_to_act/leavetoact/ByteBudget$Share") (F_this_0_o0 : Fld Z h0 o0 "com/example/leave_to_act/leavetoact/ByteBudget$Share" "this$0" "Lcom/example/leave_to_act/leavetoact/ByteBudget;" .null) (F_most_o0 : Fld Z h0 o0 "com/example/leave_to_act/leavetoact/ByteBudget$Share" "most" "J" (.long (0 : Int64))) (F_given_o0 : Fld Z h0 o0 "com/example/leave_to_act/leavetoact/ByteBudget$Share" "given" "J" (.long (0 : Int64))) (F_taken_o0 : Fld Z h0 o0 "com/example/leave_to_act/leavetoact/ByteBudget$Share" "taken" "J" (.long (0 : Int64))) (g_o0 : n0 ≤ o0) :
    MetFree l (⟨"com/example/leave_to_act/leavetoact/ByteBudget$Share", "<init>", "(Lcom/example/leave_to_act/leavetoact/ByteBudget;J)V"⟩ : MethodName) (head1 (Jvm.Cond.code (⟨"com/example/leave_to_act/leavetoact/ByteBudget$Share", "<init>", "(Lcom/example/leave_to_act/leavetoact/ByteBudget;J)V"⟩ : MethodName) prog_3_method_1_code 4 none :: ws) ({ frames := 1, cells := 0, slots := 0, locals := 12 } : Room)) (fun a U => a = #[(.ref o0), (.ref o1), (.long q2)] ∧ Z.Warmed39 U.vm ∧ U.heap = h0) (fun _ _ _ _ _ => True) (fun _ U o U' => ∃ v L, o = .returned v ∧ Q3 Z o0 o1 q2 h0 n0 v U'.heap L ∧ FrameEnd U o U' L ({ frames := 1, cells := 0, slots := 0, locals := 12 } : Room).cells ({ frames := 1, cells := 0, slots := 0, locals := 12 } : Room).slots) := by
  refine MetFree.of_bodySF (plainFor_of_name pn_com_example_leave_to_act_leavetoact_ByteBudget_Share) hisR ?_
  intro p e s m args below meth c s₁ Bd hml0 hP hK
  obtain ⟨rfl, hZ, hh⟩ := hP
  have hx := Bd.exec
  have hby := Bd.bytes
  have hml : c.maxLocals = 4 := hml0
  have hown : s.vm.findClass "com/example/leave_to_act/leavetoact/ByteBudget$Share" = some m.cls := findClass_of_methodNamed Bd.named
  have hnm := (name_of_methodNamed Bd.named Bd.method).1
  have X0 : Stand p l e ({ frames := 1, cells := 0, slots := 0, locals := 12 } : Room) s m #[(.ref o0), (.ref o1), (.long q2)] below meth c s₁ [] 0 0 := Stand.of_body Bd
  have e0 : s₁.heap = h0 := by rw [← hh, Bd.state]; rfl
  have N0 := Fr.nil n0
  have pre0 : ∀ t, Steps p.tables e below (s₁.setTop (mkF m 0 #[.val (.ref o0), .val (.ref o1), .val (.long q2), .second] [])) t → Steps p.tables e below (s₁.setTop (entryFrame m #[(.ref o0), (.ref o1), (.long q2)] 4)) t := fun t k => castTop (ef_3 m o0 o1 q2) k
  obtain ⟨T1, h1, X1, e1, W1, st1⟩ := putF X0 hx hZ hown (host := "") (Or.inl (hw _ (List.mem_of_getElem? (i := 26) rfl))) Via.refl e0 F_this_0_o0 E_o0 (Or.inr ⟨(hw _ (List.mem_of_getElem? (i := 27) rfl)), rfl, hnm⟩) (hw _ (List.mem_of_getElem? (i := 21) rfl)) (ty := (.object "com/example/leave_to_act/leavetoact/ByteBudget")) (by decide) rfl rfl (g := (mkF m 2 #[.val (.ref o0), .val (.ref o1), .val (.long q2), .second] [(.ref o1), (.ref o0)])) rfl rfl (hb hby d3_2)
  have Fw1 : Fld Z h1 o0 "com/example/leave_to_act/leavetoact/ByteBudget$Share" "this$0" "Lcom/example/leave_to_act/leavetoact/ByteBudget;" (.ref o1) := F_this_0_o0.same W1
  have J1 : Keep h0 h1 [o0] := (Keep.refl h0 [o0]).wr W1 (Or.inl (List.mem_of_getElem? (i := 0) rfl))
  have N1 := Fr.snoc X1 N0 g_o0
  obtain ⟨T2, X2, e2, st2⟩ := initO X1 hx hZ hown (hw _ (List.mem_of_getElem? (i := 28) rfl)) (hw _ (List.mem_of_getElem? (i := 9) rfl)) (hw _ (List.mem_of_getElem? (i := 10) rfl)) e1 (g := (mkF m 6 #[.val (.ref o0), .val (.ref o1), .val (.long q2), .second] [(.ref o0)])) rfl (by rw [hml]; rfl) rfl (hb hby d3_6) (by decide) (W := 0) (by show 2 * 0 + _ ≤ _; exact Nat.le_of_eq rfl) (by decide)
  have c3 : Fld Z h1 o0 "com/example/leave_to_act/leavetoact/ByteBudget$Share" "most" "J" (.long (0 : Int64)) := (F_most_o0.other W1 (Or.inr (slot_ne (Or.inr (hw _ (List.mem_of_getElem? (i := 30) rfl))) (Or.inr (hw _ (List.mem_of_getElem? (i := 27) rfl))) (by decide) (t := .long) (t' := (.object "com/example/leave_to_act/leavetoact/ByteBudget")) (by decide) (by decide))))
  have c4 : Exa Z h1 o0 "com/example/leave_to_act/leavetoact/ByteBudget$Share" := (E_o0.wr W1)
  obtain ⟨T5, h5, X5, e5, W5, st5⟩ := putF X2 hx hZ hown (host := "") (Or.inl (hw _ (List.mem_of_getElem? (i := 29) rfl))) Via.refl e2 c3 c4 (Or.inr ⟨(hw _ (List.mem_of_getElem? (i := 30) rfl)), rfl, hnm⟩) (hw _ (List.mem_of_getElem? (i := 21) rfl)) (ty := .long) (by decide) rfl rfl (g := (mkF m 11 #[.val (.ref o0), .val (.ref o1), .val (.long q2), .second] [(.long q2), (.ref o0)])) rfl rfl (hb hby d3_11)
  have Fw5 : Fld Z h5 o0 "com/example/leave_to_act/leavetoact/ByteBudget$Share" "most" "J" (.long q2) := c3.same W5
  have J5 : Keep h0 h5 [o0] := J1.wr W5 (Or.inl (List.mem_of_getElem? (i := 0) rfl))
  have N5 := Fr.snoc X5 N1 g_o0
  have c6 : Fld Z h5 o0 "com/example/leave_to_act/leavetoact/ByteBudget$Share" "this$0" "Lcom/example/leave_to_act/leavetoact/ByteBudget;" (.ref o1) := (Fw1.other W5 (Or.inr (slot_ne (Or.inr (hw _ (List.mem_of_getElem? (i := 27) rfl))) (Or.inr (hw _ (List.mem_of_getElem? (i := 30) rfl))) (by decide) (t := (.object "com/example/leave_to_act/leavetoact/ByteBudget")) (t' := .long) (by decide) (by decide))))
  have c7 : Fld Z h5 o0 "com/example/leave_to_act/leavetoact/ByteBudget$Share" "given" "J" (.long (0 : Int64)) := ((F_given_o0.other W1 (Or.inr (slot_ne (Or.inl (hw _ (List.mem_of_getElem? (i := 44) rfl))) (Or.inr (hw _ (List.mem_of_getElem? (i := 27) rfl))) (by decide) (t := .long) (t' := (.object "com/example/leave_to_act/leavetoact/ByteBudget")) (by decide) (by decide)))).other W5 (Or.inr (slot_ne (Or.inl (hw _ (List.mem_of_getElem? (i := 44) rfl))) (Or.inr (hw _ (List.mem_of_getElem? (i := 30) rfl))) (by decide) (t := .long) (t' := .long) (by decide) (by decide))))
  have c8 : Fld Z h5 o0 "com/example/leave_to_act/leavetoact/ByteBudget$Share" "taken" "J" (.long (0 : Int64)) := ((F_taken_o0.other W1 (Or.inr (slot_ne (Or.inl (hw _ (List.mem_of_getElem? (i := 41) rfl))) (Or.inr (hw _ (List.mem_of_getElem? (i := 27) rfl))) (by decide) (t := .long) (t' := (.object "com/example/leave_to_act/leavetoact/ByteBudget")) (by decide) (by decide)))).other W5 (Or.inr (slot_ne (Or.inl (hw _ (List.mem_of_getElem? (i := 41) rfl))) (Or.inr (hw _ (List.mem_of_getElem? (i := 30) rfl))) (by decide) (t := .long) (t' := .long) (by decide) (by decide))))
  obtain ⟨fs, hr, hrun, hended, hW, hsame⟩ := X5.leave (v := none) (fun _ => rfl)
  refine ⟨_, _, pre0 _ ?_, hrun, hended, _, _, rfl, ?_, ⟨_, rfl⟩, hW, hsame.mono (by decide) (by decide)⟩
  · show Steps p.tables e below (s₁.setTop (mkF m 0 #[.val (.ref o0), .val (.ref o1), .val (.long q2), .second] [])) _
    refine XS.aloadN X0.here hx rfl (hb hby d3_0) rfl rfl ?_
    show Steps p.tables e below (s₁.setTop (mkF m 1 #[.val (.ref o0), .val (.ref o1), .val (.long q2), .second] [(.ref o0)])) _
    refine XS.aloadN X0.here hx rfl (hb hby d3_1) rfl rfl ?_
    show Steps p.tables e below (s₁.setTop (mkF m 2 #[.val (.ref o0), .val (.ref o1), .val (.long q2), .second] [(.ref o1), (.ref o0)])) _
    refine st1 _ ?_
    show Steps p.tables e below (T1.setTop (mkF m 5 #[.val (.ref o0), .val (.ref o1), .val (.long q2), .second] [])) _
    refine XS.aloadN X1.here hx rfl (hb hby d3_5) rfl rfl ?_
    show Steps p.tables e below (T1.setTop (mkF m 6 #[.val (.ref o0), .val (.ref o1), .val (.long q2), .second] [(.ref o0)])) _
    refine st2 _ ?_
    show Steps p.tables e below (T2.setTop (mkF m 9 #[.val (.ref o0), .val (.ref o1), .val (.long q2), .second] [])) _
    refine XS.aloadN X2.here hx rfl (hb hby d3_9) rfl rfl ?_
    show Steps p.tables e below (T2.setTop (mkF m 10 #[.val (.ref o0), .val (.ref o1), .val (.long q2), .second] [(.ref o0)])) _
    refine XS.lloadN X2.here hx rfl (hb hby d3_10) rfl ?_
    show Steps p.tables e below (T2.setTop (mkF m 11 #[.val (.ref o0), .val (.ref o1), .val (.long q2), .second] [(.long q2), (.ref o0)])) _
    refine st5 _ ?_
    show Steps p.tables e below (T5.setTop (mkF m 14 #[.val (.ref o0), .val (.ref o1), .val (.long q2), .second] [])) _
    exact X5.returnOut hx Bd.returns (hb hby d3_14) hr
  · show Q3 Z o0 o1 q2 h0 n0 _ T5.heap _
    rw [e5]
    exact ⟨rfl, N5, J5, c6, Fw5, c7, c8⟩
theorem d2_0 : decode prog_2_method_2_code 0 = .ok (.lload_n 1, 1) := by decide +kernel
theorem d2_1 : decode prog_2_method_2_code 1 = .ok (.lconst 0, 1) := by decide +kernel
theorem d2_2 : decode prog_2_method_2_code 2 = .ok (.lcmp, 1) := by decide +kernel
theorem d2_3 : decode prog_2_method_2_code 3 = .ok (.ifCond .lt 12, 3) := by decide +kernel
theorem d2_6 : decode prog_2_method_2_code 6 = .ok (.lload_n 1, 1) := by decide +kernel
theorem d2_7 : decode prog_2_method_2_code 7 = .ok (.aload_n 0, 1) := by decide +kernel
theorem d2_8 : decode prog_2_method_2_code 8 = .ok (.getfield 16, 3) := by decide +kernel
theorem d2_11 : decode prog_2_method_2_code 11 = .ok (.lcmp, 1) := by decide +kernel
theorem d2_12 : decode prog_2_method_2_code 12 = .ok (.ifCond .le 21, 3) := by decide +kernel
theorem d2_33 : decode prog_2_method_2_code 33 = .ok (.new 26, 3) := by decide +kernel
theorem d2_36 : decode prog_2_method_2_code 36 = .ok (.dup, 1) := by decide +kernel
theorem d2_37 : decode prog_2_method_2_code 37 = .ok (.aload_n 0, 1) := by decide +kernel
theorem d2_38 : decode prog_2_method_2_code 38 = .ok (.lload_n 1, 1) := by decide +kernel
theorem d2_39 : decode prog_2_method_2_code 39 = .ok (.invokespecial 28, 3) := by decide +kernel
theorem d2_42 : decode prog_2_method_2_code 42 = .ok (.areturn, 1) := by decide +kernel
theorem pd_0 : parseMethodDescriptor "(Lcom/example/leave_to_act/leavetoact/ByteBudget;J)V" = some ⟨[(.object "com/example/leave_to_act/leavetoact/ByteBudget"), .long], none⟩ := by decide +kernel
theorem ef_2 (m : MethodId) (o0 : Addr) (q1 : Int64) : entryFrame m #[(.ref o0), (.long q1)] 3 = mkF m 0 #[.val (.ref o0), .val (.long q1), .second] [] := by first | (simp [entryFrame, mkF, argsToLocals, Value.category]; done) | rfl
def Q2 (Z : State) (o0 : Addr) (q1 : Int64) (lg : Int64) (h0 : Heap) (n0 : Nat) (v : Option Value) (h : Heap) (L : List Loc) : Prop := ∃ b : Addr, v = some (.ref b) ∧ Fr n0 L ∧ Keep h0 h [] ∧ h0.size ≤ b ∧ Exa Z h b "com/example/leave_to_act/leavetoact/ByteBudget$Share" ∧ Fld Z h b "com/example/leave_to_act/leavetoact/ByteBudget$Share" "this$0" "Lcom/example/leave_to_act/leavetoact/ByteBudget;" (.ref o0) ∧ Fld Z h b "com/example/leave_to_act/leavetoact/ByteBudget$Share" "most" "J" (.long q1) ∧ Fld Z h b "com/example/leave_to_act/leavetoact/ByteBudget$Share" "given" "J" (.long (0 : Int64)) ∧ Fld Z h b "com/example/leave_to_act/leavetoact/ByteBudget$Share" "taken" "J" (.long (0 : Int64))
set_option maxRecDepth 65536 in
set_option maxHeartbeats 40000000 in
theorem rm2 (l : Launch) (Z : State) (a0 : Array Value) (hw : ∀ d ∈ tables_1, d.before a0 Z = true) (ws : List Jvm.Cond) (o0 : Addr) (q1 : Int64) (lg : Int64) (h0 : Heap) (n0 : Nat) (Z0 : n0 ≤ h0.size) (F_largest_o0 : Fld Z h0 o0 "com/example/leave_to_act/leavetoact/ByteBudget" "largest" "J" (.long lg)) (h0m : ¬ q1 < (0 : Int64)) (hmlg : ¬ lg < q1) :
    MetFree l (⟨"com/example/leave_to_act/leavetoact/ByteBudget", "open", "(J)Lcom/example/leave_to_act/leavetoact/ByteBudget$Share;"⟩ : MethodName) (head1 (Jvm.Cond.code (⟨"com/example/leave_to_act/leavetoact/ByteBudget", "open", "(J)Lcom/example/leave_to_act/leavetoact/ByteBudget$Share;"⟩ : MethodName) prog_2_method_2_code 3 (some (.object "com/example/leave_to_act/leavetoact/ByteBudget$Share")) :: ws) ({ frames := 2, cells := 1, slots := 4, locals := 28 } : Room)) (fun a U => a = #[(.ref o0), (.long q1)] ∧ Z.Warmed39 U.vm ∧ U.heap = h0) (fun _ _ _ _ _ => True) (fun _ U o U' => ∃ v L, o = .returned v ∧ Q2 Z o0 q1 lg h0 n0 v U'.heap L ∧ FrameEnd U o U' L ({ frames := 2, cells := 1, slots := 4, locals := 28 } : Room).cells ({ frames := 2, cells := 1, slots := 4, locals := 28 } : Room).slots) := by
  refine MetFree.of_bodySF (plainFor_of_name pn_com_example_leave_to_act_leavetoact_ByteBudget) hisR ?_
  intro p e s m args below meth c s₁ Bd hml0 hP hK
  obtain ⟨rfl, hZ, hh⟩ := hP
  have hx := Bd.exec
  have hby := Bd.bytes
  have hml : c.maxLocals = 3 := hml0
  have hown : s.vm.findClass "com/example/leave_to_act/leavetoact/ByteBudget" = some m.cls := findClass_of_methodNamed Bd.named
  have hnm := (name_of_methodNamed Bd.named Bd.method).1
  have X0 : Stand p l e ({ frames := 2, cells := 1, slots := 4, locals := 28 } : Room) s m #[(.ref o0), (.long q1)] below meth c s₁ [] 0 0 := Stand.of_body Bd
  have e0 : s₁.heap = h0 := by rw [← hh, Bd.state]; rfl
  have N0 := Fr.nil n0
  have pre0 : ∀ t, Steps p.tables e below (s₁.setTop (mkF m 0 #[.val (.ref o0), .val (.long q1), .second] [])) t → Steps p.tables e below (s₁.setTop (entryFrame m #[(.ref o0), (.long q1)] 3)) t := fun t k => castTop (ef_2 m o0 q1) k
  obtain ⟨T1, X1, e1, st1⟩ := getF X0 hx hZ hown (host := "") (Or.inl (hw _ (List.mem_of_getElem? (i := 11) rfl))) Via.refl e0 F_largest_o0 (g := (mkF m 8 #[.val (.ref o0), .val (.long q1), .second] [(.ref o0), (.long q1)])) rfl rfl (hb hby d2_8)
  obtain ⟨T2, h2, X2, e2, E2, A2, D2, U2, st2⟩ := newO X1 hx hZ hown (hw _ (List.mem_of_getElem? (i := 20) rfl)) (hw _ (List.mem_of_getElem? (i := 21) rfl)) (hw _ (List.mem_of_getElem? (i := 22) rfl)) e1 (g := (mkF m 33 #[.val (.ref o0), .val (.long q1), .second] [])) rfl (hb hby d2_33) (by decide) (by decide)
  obtain ⟨b2, g2⟩ : ∃ z, z = h0.size := ⟨_, rfl⟩
  rw [← g2] at A2 D2 U2 st2
  have g_b2 : n0 ≤ b2 := Nat.le_trans Z0 (Nat.le_of_eq g2.symm)
  have sz_b2 : h0.size ≤ b2 := Nat.le_trans (Keep.refl h0 []).1 (Nat.le_of_eq g2.symm)
  have ne3 : o0 ≠ b2 := Nat.ne_of_lt (Nat.lt_of_lt_of_le F_largest_o0.lt (Nat.le_of_eq g2.symm))
  have F_this_0_b2 : Fld Z h2 b2 "com/example/leave_to_act/leavetoact/ByteBudget$Share" "this$0" "Lcom/example/leave_to_act/leavetoact/ByteBudget;" .null := D2 (Or.inr (hw _ (List.mem_of_getElem? (i := 27) rfl))) (ty := (.object "com/example/leave_to_act/leavetoact/ByteBudget")) (by decide)
  have F_most_b2 : Fld Z h2 b2 "com/example/leave_to_act/leavetoact/ByteBudget$Share" "most" "J" (.long (0 : Int64)) := D2 (Or.inr (hw _ (List.mem_of_getElem? (i := 30) rfl))) (ty := .long) (by decide)
  have F_taken_b2 : Fld Z h2 b2 "com/example/leave_to_act/leavetoact/ByteBudget$Share" "taken" "J" (.long (0 : Int64)) := D2 (Or.inl (hw _ (List.mem_of_getElem? (i := 41) rfl))) (ty := .long) (by decide)
  have F_given_b2 : Fld Z h2 b2 "com/example/leave_to_act/leavetoact/ByteBudget$Share" "given" "J" (.long (0 : Int64)) := D2 (Or.inl (hw _ (List.mem_of_getElem? (i := 44) rfl))) (ty := .long) (by decide)
  have J2 : Keep h0 h2 [] := (Keep.refl h0 []).ext E2
  have z4 : n0 ≤ h2.size := (Nat.le_trans Z0 E2.1)
  -- pc 39: ByteBudget$Share.<init> by rm3
  obtain ⟨_, _, ⟨T5, L5, k5, n5⟩, -, X5, ⟨Lc5, hQ5, l5, y5, z5'⟩, st5⟩ := own_specialBackR X2 hx (y := (⟨"com/example/leave_to_act/leavetoact/ByteBudget$Share", "<init>", "(Lcom/example/leave_to_act/leavetoact/ByteBudget;J)V"⟩ : MethodName)) rfl hown (own_mvRef hZ (hw _ (List.mem_of_getElem? (i := 23) rfl)) (hw _ (List.mem_of_getElem? (i := 24) rfl)) (by decide)) (mvT hZ (hw _ (List.mem_of_getElem? (i := 24) rfl))) (mvT hZ (hw _ (List.mem_of_getElem? (i := 25) rfl))) (by decide) (backOf (W := 1) (rm3 l Z a0 hw [] b2 o0 q1 h2 n0 z4 A2 F_this_0_b2 F_most_b2 F_given_b2 F_taken_b2 g_b2) hZ (hw _ (List.mem_of_getElem? (i := 25) rfl)) (hw _ (List.mem_of_getElem? (i := 22) rfl)) (by decide) (by decide)) (g := (mkF m 39 #[.val (.ref o0), .val (.long q1), .second] [(.long q1), (.ref o0), (.ref b2), (.ref b2)])) rfl (by rw [hml]; rfl) (Steps.refl _) (a := b2) (argsL := [(.ref o0), (.long q1)]) (rest := [(.ref b2)]) (lenOf pd_0 rfl) rfl (by show 2 * 0 + _ ≤ _; exact Nat.le_of_eq rfl) (hb hby d2_39) (fun _ _ => ⟨rfl, e2, (by decide : 1 + 0 ≤ _), (by decide : 4 + 0 ≤ _)⟩)
  dsimp only [Pt.U, Pt.locs, Pt.cells, Pt.slots] at X5 l5 y5 z5' st5 hQ5
  subst l5 y5 z5'
  obtain ⟨rfl, N5q, K5, r0_5, r1_5, r2_5, r3_5⟩ := hQ5
  have N5 := Fr.app N0 N5q
  have J5 : Keep h0 T5.heap [] := J2.trans K5 (allS (Or.inr sz_b2) all0)
  have c6 : Exa Z T5.heap b2 "com/example/leave_to_act/leavetoact/ByteBudget$Share" := (A2.keep K5)
  obtain ⟨fs, hr, hrun, hended, hW, hsame⟩ := X5.leave (v := some (.ref b2)) (fun h => by rw [Bd.returns] at h; cases h)
  refine ⟨_, _, pre0 _ ?_, hrun, hended, _, _, rfl, ?_, ⟨_, rfl⟩, hW, hsame.mono (by decide) (by decide)⟩
  · show Steps p.tables e below (s₁.setTop (mkF m 0 #[.val (.ref o0), .val (.long q1), .second] [])) _
    refine XS.lloadN X0.here hx rfl (hb hby d2_0) rfl ?_
    show Steps p.tables e below (s₁.setTop (mkF m 1 #[.val (.ref o0), .val (.long q1), .second] [(.long q1)])) _
    refine XS.lconst X0.here hx rfl (hb hby d2_1) ?_
    show Steps p.tables e below (s₁.setTop (mkF m 2 #[.val (.ref o0), .val (.long q1), .second] [(.long (0 : Int64)), (.long q1)])) _
    refine XS.lcmp X0.here hx rfl (hb hby d2_2) rfl ?_
    show Steps p.tables e below (s₁.setTop (mkF m 3 #[.val (.ref o0), .val (.long q1), .second] [(.int (lcmpW q1 (0 : Int64)))])) _
    refine XS.ifNo X0.here hx rfl (hb hby d2_3) rfl ((if0 _ _).trans (flt (mt (lw_lt _ _).mp h0m)).1) ?_
    show Steps p.tables e below (s₁.setTop (mkF m 6 #[.val (.ref o0), .val (.long q1), .second] [])) _
    refine XS.lloadN X0.here hx rfl (hb hby d2_6) rfl ?_
    show Steps p.tables e below (s₁.setTop (mkF m 7 #[.val (.ref o0), .val (.long q1), .second] [(.long q1)])) _
    refine XS.aloadN X0.here hx rfl (hb hby d2_7) rfl rfl ?_
    show Steps p.tables e below (s₁.setTop (mkF m 8 #[.val (.ref o0), .val (.long q1), .second] [(.ref o0), (.long q1)])) _
    refine st1 _ ?_
    show Steps p.tables e below (T1.setTop (mkF m 11 #[.val (.ref o0), .val (.long q1), .second] [(.long lg), (.long q1)])) _
    refine XS.lcmp X1.here hx rfl (hb hby d2_11) rfl ?_
    show Steps p.tables e below (T1.setTop (mkF m 12 #[.val (.ref o0), .val (.long q1), .second] [(.int (lcmpW q1 lg))])) _
    refine XS.ifYes X1.here hx rfl (pc0 := 12) (pc' := 33) rfl (hb hby d2_12) rfl ((if0 _ _).trans (flt (mt (lw_gt _ _).mp hmlg)).2.2.2) (by decide) (by decide) ?_
    show Steps p.tables e below (T1.setTop (mkF m 33 #[.val (.ref o0), .val (.long q1), .second] [])) _
    refine st2 _ ?_
    show Steps p.tables e below (T2.setTop (mkF m 36 #[.val (.ref o0), .val (.long q1), .second] [(.ref b2)])) _
    refine XS.dup X2.here hx rfl (hb hby d2_36) rfl rfl ?_
    show Steps p.tables e below (T2.setTop (mkF m 37 #[.val (.ref o0), .val (.long q1), .second] [(.ref b2), (.ref b2)])) _
    refine XS.aloadN X2.here hx rfl (hb hby d2_37) rfl rfl ?_
    show Steps p.tables e below (T2.setTop (mkF m 38 #[.val (.ref o0), .val (.long q1), .second] [(.ref o0), (.ref b2), (.ref b2)])) _
    refine XS.lloadN X2.here hx rfl (hb hby d2_38) rfl ?_
    show Steps p.tables e below (T2.setTop (mkF m 39 #[.val (.ref o0), .val (.long q1), .second] [(.long q1), (.ref o0), (.ref b2), (.ref b2)])) _
    refine st5.trans ?_
    show Steps p.tables e below (T5.setTop (mkF m 42 #[.val (.ref o0), .val (.long q1), .second] [(.ref b2)])) _
    jvm_step X5.here [X5.here.top, hx, (hb hby d2_42), X5.method', Bd.returns, Value.isRef, FieldType.isReference]
    first | (intro acts; rw [hr _ acts rfl rfl rfl]) | rw [hr _ _ rfl rfl rfl]
    exact Steps.refl _
  · show Q2 Z o0 q1 lg h0 n0 _ T5.heap _
    exact ⟨b2, rfl, N5, J5, sz_b2, c6, r0_5, r1_5, r2_5, r3_5⟩
theorem d5_0 : decode prog_2_method_3_code 0 = .ok (.lload_n 2, 1) := by decide +kernel
theorem d5_1 : decode prog_2_method_3_code 1 = .ok (.lconst 0, 1) := by decide +kernel
theorem d5_2 : decode prog_2_method_3_code 2 = .ok (.lcmp, 1) := by decide +kernel
theorem d5_3 : decode prog_2_method_3_code 3 = .ok (.ifCond .lt 17, 3) := by decide +kernel
theorem d5_6 : decode prog_2_method_3_code 6 = .ok (.aload_n 1, 1) := by decide +kernel
theorem d5_7 : decode prog_2_method_3_code 7 = .ok (.getfield 31, 3) := by decide +kernel
theorem d5_10 : decode prog_2_method_3_code 10 = .ok (.lload_n 2, 1) := by decide +kernel
theorem d5_11 : decode prog_2_method_3_code 11 = .ok (.ladd, 1) := by decide +kernel
theorem d5_12 : decode prog_2_method_3_code 12 = .ok (.aload_n 1, 1) := by decide +kernel
theorem d5_13 : decode prog_2_method_3_code 13 = .ok (.getfield 34, 3) := by decide +kernel
theorem d5_16 : decode prog_2_method_3_code 16 = .ok (.lcmp, 1) := by decide +kernel
theorem d5_17 : decode prog_2_method_3_code 17 = .ok (.ifCond .le 25, 3) := by decide +kernel
theorem d5_42 : decode prog_2_method_3_code 42 = .ok (.aload_n 1, 1) := by decide +kernel
theorem d5_43 : decode prog_2_method_3_code 43 = .ok (.getfield 31, 3) := by decide +kernel
theorem d5_46 : decode prog_2_method_3_code 46 = .ok (.lload_n 2, 1) := by decide +kernel
theorem d5_47 : decode prog_2_method_3_code 47 = .ok (.ladd, 1) := by decide +kernel
theorem d5_48 : decode prog_2_method_3_code 48 = .ok (.aload_n 1, 1) := by decide +kernel
theorem d5_49 : decode prog_2_method_3_code 49 = .ok (.getfield 40, 3) := by decide +kernel
theorem d5_52 : decode prog_2_method_3_code 52 = .ok (.lsub, 1) := by decide +kernel
theorem d5_53 : decode prog_2_method_3_code 53 = .ok (.lstore 4, 2) := by decide +kernel
theorem d5_55 : decode prog_2_method_3_code 55 = .ok (.lload 4, 2) := by decide +kernel
theorem d5_57 : decode prog_2_method_3_code 57 = .ok (.lconst 0, 1) := by decide +kernel
theorem d5_58 : decode prog_2_method_3_code 58 = .ok (.lcmp, 1) := by decide +kernel
theorem d5_59 : decode prog_2_method_3_code 59 = .ok (.ifCond .le 77, 3) := by decide +kernel
theorem d5_62 : decode prog_2_method_3_code 62 = .ok (.aload_n 1, 1) := by decide +kernel
theorem d5_63 : decode prog_2_method_3_code 63 = .ok (.getfield 34, 3) := by decide +kernel
theorem d5_66 : decode prog_2_method_3_code 66 = .ok (.aload_n 1, 1) := by decide +kernel
theorem d5_67 : decode prog_2_method_3_code 67 = .ok (.getfield 40, 3) := by decide +kernel
theorem d5_70 : decode prog_2_method_3_code 70 = .ok (.lsub, 1) := by decide +kernel
theorem d5_71 : decode prog_2_method_3_code 71 = .ok (.lstore 6, 2) := by decide +kernel
theorem d5_73 : decode prog_2_method_3_code 73 = .ok (.aload_n 0, 1) := by decide +kernel
theorem d5_74 : decode prog_2_method_3_code 74 = .ok (.getfield 22, 3) := by decide +kernel
theorem d5_77 : decode prog_2_method_3_code 77 = .ok (.lload 4, 2) := by decide +kernel
theorem d5_79 : decode prog_2_method_3_code 79 = .ok (.lsub, 1) := by decide +kernel
theorem d5_80 : decode prog_2_method_3_code 80 = .ok (.aload_n 0, 1) := by decide +kernel
theorem d5_81 : decode prog_2_method_3_code 81 = .ok (.getfield 16, 3) := by decide +kernel
theorem d5_84 : decode prog_2_method_3_code 84 = .ok (.lcmp, 1) := by decide +kernel
theorem d5_85 : decode prog_2_method_3_code 85 = .ok (.ifCond .lt 10, 3) := by decide +kernel
theorem d5_88 : decode prog_2_method_3_code 88 = .ok (.lload 4, 2) := by decide +kernel
theorem d5_90 : decode prog_2_method_3_code 90 = .ok (.lstore 8, 2) := by decide +kernel
theorem d5_92 : decode prog_2_method_3_code 92 = .ok (.goto 22, 3) := by decide +kernel
theorem d5_95 : decode prog_2_method_3_code 95 = .ok (.lload 6, 2) := by decide +kernel
theorem d5_97 : decode prog_2_method_3_code 97 = .ok (.aload_n 0, 1) := by decide +kernel
theorem d5_98 : decode prog_2_method_3_code 98 = .ok (.getfield 22, 3) := by decide +kernel
theorem d5_101 : decode prog_2_method_3_code 101 = .ok (.lcmp, 1) := by decide +kernel
theorem d5_102 : decode prog_2_method_3_code 102 = .ok (.ifCond .gt 10, 3) := by decide +kernel
theorem d5_105 : decode prog_2_method_3_code 105 = .ok (.lload 6, 2) := by decide +kernel
theorem d5_107 : decode prog_2_method_3_code 107 = .ok (.lstore 8, 2) := by decide +kernel
theorem d5_109 : decode prog_2_method_3_code 109 = .ok (.goto 5, 3) := by decide +kernel
theorem d5_112 : decode prog_2_method_3_code 112 = .ok (.iconst 0, 1) := by decide +kernel
theorem d5_113 : decode prog_2_method_3_code 113 = .ok (.ireturn, 1) := by decide +kernel
theorem d5_114 : decode prog_2_method_3_code 114 = .ok (.aload_n 0, 1) := by decide +kernel
theorem d5_115 : decode prog_2_method_3_code 115 = .ok (.dup, 1) := by decide +kernel
theorem d5_116 : decode prog_2_method_3_code 116 = .ok (.getfield 22, 3) := by decide +kernel
theorem d5_119 : decode prog_2_method_3_code 119 = .ok (.lload 8, 2) := by decide +kernel
theorem d5_121 : decode prog_2_method_3_code 121 = .ok (.lsub, 1) := by decide +kernel
theorem d5_122 : decode prog_2_method_3_code 122 = .ok (.putfield 22, 3) := by decide +kernel
theorem d5_125 : decode prog_2_method_3_code 125 = .ok (.aload_n 1, 1) := by decide +kernel
theorem d5_126 : decode prog_2_method_3_code 126 = .ok (.dup, 1) := by decide +kernel
theorem d5_127 : decode prog_2_method_3_code 127 = .ok (.getfield 40, 3) := by decide +kernel
theorem d5_130 : decode prog_2_method_3_code 130 = .ok (.lload 8, 2) := by decide +kernel
theorem d5_132 : decode prog_2_method_3_code 132 = .ok (.ladd, 1) := by decide +kernel
theorem d5_133 : decode prog_2_method_3_code 133 = .ok (.putfield 40, 3) := by decide +kernel
theorem d5_136 : decode prog_2_method_3_code 136 = .ok (.aload_n 1, 1) := by decide +kernel
theorem d5_137 : decode prog_2_method_3_code 137 = .ok (.dup, 1) := by decide +kernel
theorem d5_138 : decode prog_2_method_3_code 138 = .ok (.getfield 31, 3) := by decide +kernel
theorem d5_141 : decode prog_2_method_3_code 141 = .ok (.lload_n 2, 1) := by decide +kernel
theorem d5_142 : decode prog_2_method_3_code 142 = .ok (.ladd, 1) := by decide +kernel
theorem d5_143 : decode prog_2_method_3_code 143 = .ok (.putfield 31, 3) := by decide +kernel
theorem d5_146 : decode prog_2_method_3_code 146 = .ok (.iconst 1, 1) := by decide +kernel
theorem d5_147 : decode prog_2_method_3_code 147 = .ok (.ireturn, 1) := by decide +kernel
theorem ef_5 (m : MethodId) (o0 : Addr) (o1 : Addr) (q2 : Int64) : entryFrame m #[(.ref o0), (.ref o1), (.long q2)] 10 = mkF m 0 #[.val (.ref o0), .val (.ref o1), .val (.long q2), .second, .unset, .unset, .unset, .unset, .unset, .unset] [] := by first | (simp [entryFrame, mkF, argsToLocals, Value.category]; done) | rfl
def Q5 (Z : State) (o0 : Addr) (o1 : Addr) (q2 : Int64) (ms : Int64) (fr : Int64) (lg : Int64) (mo : Monitor) (h0 : Heap) (n0 : Nat) (v : Option Value) (h : Heap) (L : List Loc) : Prop := v = some (.int (own_gr q2 ms fr lg)) ∧ Fr n0 L ∧ Keep h0 h [o0, o1] ∧ Fld Z h o0 "com/example/leave_to_act/leavetoact/ByteBudget" "free" "J" (.long (own_gf q2 ms fr lg)) ∧ Fld Z h o0 "com/example/leave_to_act/leavetoact/ByteBudget" "largest" "J" (.long lg) ∧ own_Mo h o0 mo
set_option maxRecDepth 65536 in
set_option maxHeartbeats 40000000 in
theorem rm5 (l : Launch) (Z : State) (a0 : Array Value) (hw : ∀ d ∈ tables_1, d.before a0 Z = true) (ws : List Jvm.Cond) (o0 : Addr) (o1 : Addr) (q2 : Int64) (ms : Int64) (fr : Int64) (lg : Int64) (mo : Monitor) (h0 : Heap) (n0 : Nat) (Z0 : n0 ≤ h0.size) (E_o0 : Exa Z h0 o0 "com/example/leave_to_act/leavetoact/ByteBudget") (E_o1 : Exa Z h0 o1 "com/example/leave_to_act/leavetoact/ByteBudget$Share") (F_largest_o0 : Fld Z h0 o0 "com/example/leave_to_act/leavetoact/ByteBudget" "largest" "J" (.long lg)) (F_free_o0 : Fld Z h0 o0 "com/example/leave_to_act/leavetoact/ByteBudget" "free" "J" (.long fr)) (F_most_o1 : Fld Z h0 o1 "com/example/leave_to_act/leavetoact/ByteBudget$Share" "most" "J" (.long ms)) (F_given_o1 : Fld Z h0 o1 "com/example/leave_to_act/leavetoact/ByteBudget$Share" "given" "J" (.long (0 : Int64))) (F_taken_o1 : Fld Z h0 o1 "com/example/leave_to_act/leavetoact/ByteBudget$Share" "taken" "J" (.long (0 : Int64))) (M_o0 : own_Mo h0 o0 mo) (g_o0 : n0 ≤ o0) (g_o1 : n0 ≤ o1) (ne_o0_o1 : o0 ≠ o1) (h0q : ¬ q2 < (0 : Int64)) (hqm : ¬ ms < ((0 : Int64) + q2)) :
    MetFree l (⟨"com/example/leave_to_act/leavetoact/ByteBudget", "give", "(Lcom/example/leave_to_act/leavetoact/ByteBudget$Share;J)Z"⟩ : MethodName) (head1 (Jvm.Cond.code (⟨"com/example/leave_to_act/leavetoact/ByteBudget", "give", "(Lcom/example/leave_to_act/leavetoact/ByteBudget$Share;J)Z"⟩ : MethodName) prog_2_method_3_code 10 (some .boolean) :: ws) ({ frames := 0, cells := 0, slots := 0, locals := 0 } : Room)) (fun a U => a = #[(.ref o0), (.ref o1), (.long q2)] ∧ Z.Warmed39 U.vm ∧ U.heap = h0) (fun _ _ _ _ _ => True) (fun _ U o U' => ∃ v L, o = .returned v ∧ Q5 Z o0 o1 q2 ms fr lg mo h0 n0 v U'.heap L ∧ FrameEnd U o U' L ({ frames := 0, cells := 0, slots := 0, locals := 0 } : Room).cells ({ frames := 0, cells := 0, slots := 0, locals := 0 } : Room).slots) := by
  refine MetFree.of_bodySF (plainFor_of_name pn_com_example_leave_to_act_leavetoact_ByteBudget) hisR ?_
  intro p e s m args below meth c s₁ Bd hml0 hP hK
  obtain ⟨rfl, hZ, hh⟩ := hP
  have hx := Bd.exec
  have hby := Bd.bytes
  have hml : c.maxLocals = 10 := hml0
  have hown : s.vm.findClass "com/example/leave_to_act/leavetoact/ByteBudget" = some m.cls := findClass_of_methodNamed Bd.named
  have hnm := (name_of_methodNamed Bd.named Bd.method).1
  have X0 : Stand p l e ({ frames := 0, cells := 0, slots := 0, locals := 0 } : Room) s m #[(.ref o0), (.ref o1), (.long q2)] below meth c s₁ [] 0 0 := Stand.of_body Bd
  have e0 : s₁.heap = h0 := by rw [← hh, Bd.state]; rfl
  have N0 := Fr.nil n0
  have pre0 : ∀ t, Steps p.tables e below (s₁.setTop (mkF m 0 #[.val (.ref o0), .val (.ref o1), .val (.long q2), .second, .unset, .unset, .unset, .unset, .unset, .unset] [])) t → Steps p.tables e below (s₁.setTop (entryFrame m #[(.ref o0), (.ref o1), (.long q2)] 10)) t := fun t k => castTop (ef_5 m o0 o1 q2) k
  obtain ⟨T1, X1, e1, st1⟩ := own_getFR X0 hx hZ hown (hw _ (List.mem_of_getElem? (i := 40) rfl)) Via.refl e0 F_taken_o1 (g := (mkF m 7 #[.val (.ref o0), .val (.ref o1), .val (.long q2), .second, .unset, .unset, .unset, .unset, .unset, .unset] [(.ref o1)])) rfl rfl (hb hby d5_7)
  obtain ⟨T2, X2, e2, st2⟩ := own_getFR X1 hx hZ hown (hw _ (List.mem_of_getElem? (i := 42) rfl)) Via.refl e1 F_most_o1 (g := (mkF m 13 #[.val (.ref o0), .val (.ref o1), .val (.long q2), .second, .unset, .unset, .unset, .unset, .unset, .unset] [(.ref o1), (.long ((0 : Int64) + q2))])) rfl rfl (hb hby d5_13)
  obtain ⟨T3, X3, e3, st3⟩ := own_getFR X2 hx hZ hown (hw _ (List.mem_of_getElem? (i := 40) rfl)) Via.refl e2 F_taken_o1 (g := (mkF m 43 #[.val (.ref o0), .val (.ref o1), .val (.long q2), .second, .unset, .unset, .unset, .unset, .unset, .unset] [(.ref o1)])) rfl rfl (hb hby d5_43)
  obtain ⟨T4, X4, e4, st4⟩ := own_getFR X3 hx hZ hown (hw _ (List.mem_of_getElem? (i := 43) rfl)) Via.refl e3 F_given_o1 (g := (mkF m 49 #[.val (.ref o0), .val (.ref o1), .val (.long q2), .second, .unset, .unset, .unset, .unset, .unset, .unset] [(.ref o1), (.long ((0 : Int64) + q2))])) rfl rfl (hb hby d5_49)
  have pre5 : ∀ t, Steps p.tables e below (T4.setTop (mkF m 59 #[.val (.ref o0), .val (.ref o1), .val (.long q2), .second, .val (.long (((0 : Int64) + q2) - (0 : Int64))), .second, .unset, .unset, .unset, .unset] [(.int (lcmpW (((0 : Int64) + q2) - (0 : Int64)) (0 : Int64)))])) t → Steps p.tables e below (s₁.setTop (entryFrame m #[(.ref o0), (.ref o1), (.long q2)] 10)) t := by
    intro t kt
    refine pre0 _ ?_
    show Steps p.tables e below (s₁.setTop (mkF m 0 #[.val (.ref o0), .val (.ref o1), .val (.long q2), .second, .unset, .unset, .unset, .unset, .unset, .unset] [])) _
    refine XS.lloadN X0.here hx rfl (hb hby d5_0) rfl ?_
    show Steps p.tables e below (s₁.setTop (mkF m 1 #[.val (.ref o0), .val (.ref o1), .val (.long q2), .second, .unset, .unset, .unset, .unset, .unset, .unset] [(.long q2)])) _
    refine XS.lconst X0.here hx rfl (hb hby d5_1) ?_
    show Steps p.tables e below (s₁.setTop (mkF m 2 #[.val (.ref o0), .val (.ref o1), .val (.long q2), .second, .unset, .unset, .unset, .unset, .unset, .unset] [(.long (0 : Int64)), (.long q2)])) _
    refine XS.lcmp X0.here hx rfl (hb hby d5_2) rfl ?_
    show Steps p.tables e below (s₁.setTop (mkF m 3 #[.val (.ref o0), .val (.ref o1), .val (.long q2), .second, .unset, .unset, .unset, .unset, .unset, .unset] [(.int (lcmpW q2 (0 : Int64)))])) _
    refine XS.ifNo X0.here hx rfl (hb hby d5_3) rfl ((if0 _ _).trans (flt (mt (lw_lt _ _).mp h0q)).1) ?_
    show Steps p.tables e below (s₁.setTop (mkF m 6 #[.val (.ref o0), .val (.ref o1), .val (.long q2), .second, .unset, .unset, .unset, .unset, .unset, .unset] [])) _
    refine XS.aloadN X0.here hx rfl (hb hby d5_6) rfl rfl ?_
    show Steps p.tables e below (s₁.setTop (mkF m 7 #[.val (.ref o0), .val (.ref o1), .val (.long q2), .second, .unset, .unset, .unset, .unset, .unset, .unset] [(.ref o1)])) _
    refine st1 _ ?_
    show Steps p.tables e below (T1.setTop (mkF m 10 #[.val (.ref o0), .val (.ref o1), .val (.long q2), .second, .unset, .unset, .unset, .unset, .unset, .unset] [(.long (0 : Int64))])) _
    refine XS.lloadN X1.here hx rfl (hb hby d5_10) rfl ?_
    show Steps p.tables e below (T1.setTop (mkF m 11 #[.val (.ref o0), .val (.ref o1), .val (.long q2), .second, .unset, .unset, .unset, .unset, .unset, .unset] [(.long q2), (.long (0 : Int64))])) _
    refine XS.ladd X1.here hx rfl (hb hby d5_11) rfl ?_
    show Steps p.tables e below (T1.setTop (mkF m 12 #[.val (.ref o0), .val (.ref o1), .val (.long q2), .second, .unset, .unset, .unset, .unset, .unset, .unset] [(.long ((0 : Int64) + q2))])) _
    refine XS.aloadN X1.here hx rfl (hb hby d5_12) rfl rfl ?_
    show Steps p.tables e below (T1.setTop (mkF m 13 #[.val (.ref o0), .val (.ref o1), .val (.long q2), .second, .unset, .unset, .unset, .unset, .unset, .unset] [(.ref o1), (.long ((0 : Int64) + q2))])) _
    refine st2 _ ?_
    show Steps p.tables e below (T2.setTop (mkF m 16 #[.val (.ref o0), .val (.ref o1), .val (.long q2), .second, .unset, .unset, .unset, .unset, .unset, .unset] [(.long ms), (.long ((0 : Int64) + q2))])) _
    refine XS.lcmp X2.here hx rfl (hb hby d5_16) rfl ?_
    show Steps p.tables e below (T2.setTop (mkF m 17 #[.val (.ref o0), .val (.ref o1), .val (.long q2), .second, .unset, .unset, .unset, .unset, .unset, .unset] [(.int (lcmpW ((0 : Int64) + q2) ms))])) _
    refine XS.ifYes X2.here hx rfl (pc0 := 17) (pc' := 42) rfl (hb hby d5_17) rfl ((if0 _ _).trans (flt (mt (lw_gt _ _).mp hqm)).2.2.2) (by decide) (by decide) ?_
    show Steps p.tables e below (T2.setTop (mkF m 42 #[.val (.ref o0), .val (.ref o1), .val (.long q2), .second, .unset, .unset, .unset, .unset, .unset, .unset] [])) _
    refine XS.aloadN X2.here hx rfl (hb hby d5_42) rfl rfl ?_
    show Steps p.tables e below (T2.setTop (mkF m 43 #[.val (.ref o0), .val (.ref o1), .val (.long q2), .second, .unset, .unset, .unset, .unset, .unset, .unset] [(.ref o1)])) _
    refine st3 _ ?_
    show Steps p.tables e below (T3.setTop (mkF m 46 #[.val (.ref o0), .val (.ref o1), .val (.long q2), .second, .unset, .unset, .unset, .unset, .unset, .unset] [(.long (0 : Int64))])) _
    refine XS.lloadN X3.here hx rfl (hb hby d5_46) rfl ?_
    show Steps p.tables e below (T3.setTop (mkF m 47 #[.val (.ref o0), .val (.ref o1), .val (.long q2), .second, .unset, .unset, .unset, .unset, .unset, .unset] [(.long q2), (.long (0 : Int64))])) _
    refine XS.ladd X3.here hx rfl (hb hby d5_47) rfl ?_
    show Steps p.tables e below (T3.setTop (mkF m 48 #[.val (.ref o0), .val (.ref o1), .val (.long q2), .second, .unset, .unset, .unset, .unset, .unset, .unset] [(.long ((0 : Int64) + q2))])) _
    refine XS.aloadN X3.here hx rfl (hb hby d5_48) rfl rfl ?_
    show Steps p.tables e below (T3.setTop (mkF m 49 #[.val (.ref o0), .val (.ref o1), .val (.long q2), .second, .unset, .unset, .unset, .unset, .unset, .unset] [(.ref o1), (.long ((0 : Int64) + q2))])) _
    refine st4 _ ?_
    show Steps p.tables e below (T4.setTop (mkF m 52 #[.val (.ref o0), .val (.ref o1), .val (.long q2), .second, .unset, .unset, .unset, .unset, .unset, .unset] [(.long (0 : Int64)), (.long ((0 : Int64) + q2))])) _
    refine XS.lsub X4.here hx rfl (hb hby d5_52) rfl ?_
    show Steps p.tables e below (T4.setTop (mkF m 53 #[.val (.ref o0), .val (.ref o1), .val (.long q2), .second, .unset, .unset, .unset, .unset, .unset, .unset] [(.long (((0 : Int64) + q2) - (0 : Int64)))])) _
    refine XS.lstore X4.here hx rfl (hb hby d5_53) rfl (l' := #[.val (.ref o0), .val (.ref o1), .val (.long q2), .second, .val (.long (((0 : Int64) + q2) - (0 : Int64))), .second, .unset, .unset, .unset, .unset]) rfl ?_
    show Steps p.tables e below (T4.setTop (mkF m 55 #[.val (.ref o0), .val (.ref o1), .val (.long q2), .second, .val (.long (((0 : Int64) + q2) - (0 : Int64))), .second, .unset, .unset, .unset, .unset] [])) _
    refine XS.lload X4.here hx rfl (hb hby d5_55) rfl ?_
    show Steps p.tables e below (T4.setTop (mkF m 57 #[.val (.ref o0), .val (.ref o1), .val (.long q2), .second, .val (.long (((0 : Int64) + q2) - (0 : Int64))), .second, .unset, .unset, .unset, .unset] [(.long (((0 : Int64) + q2) - (0 : Int64)))])) _
    refine XS.lconst X4.here hx rfl (hb hby d5_57) ?_
    show Steps p.tables e below (T4.setTop (mkF m 58 #[.val (.ref o0), .val (.ref o1), .val (.long q2), .second, .val (.long (((0 : Int64) + q2) - (0 : Int64))), .second, .unset, .unset, .unset, .unset] [(.long (0 : Int64)), (.long (((0 : Int64) + q2) - (0 : Int64)))])) _
    refine XS.lcmp X4.here hx rfl (hb hby d5_58) rfl ?_
    exact kt
  by_cases hc59_6 : (0 : Int64) < (((0 : Int64) + q2) - (0 : Int64))
  · skip
    obtain ⟨T7, X7, e7, st7⟩ := own_getFR X4 hx hZ hown (hw _ (List.mem_of_getElem? (i := 42) rfl)) Via.refl e4 F_most_o1 (g := (mkF m 63 #[.val (.ref o0), .val (.ref o1), .val (.long q2), .second, .val (.long (((0 : Int64) + q2) - (0 : Int64))), .second, .unset, .unset, .unset, .unset] [(.ref o1)])) rfl rfl (hb hby d5_63)
    obtain ⟨T8, X8, e8, st8⟩ := own_getFR X7 hx hZ hown (hw _ (List.mem_of_getElem? (i := 43) rfl)) Via.refl e7 F_given_o1 (g := (mkF m 67 #[.val (.ref o0), .val (.ref o1), .val (.long q2), .second, .val (.long (((0 : Int64) + q2) - (0 : Int64))), .second, .unset, .unset, .unset, .unset] [(.ref o1), (.long ms)])) rfl rfl (hb hby d5_67)
    obtain ⟨T9, X9, e9, st9⟩ := getF X8 hx hZ hown (host := "") (Or.inl (hw _ (List.mem_of_getElem? (i := 13) rfl))) Via.refl e8 F_free_o0 (g := (mkF m 74 #[.val (.ref o0), .val (.ref o1), .val (.long q2), .second, .val (.long (((0 : Int64) + q2) - (0 : Int64))), .second, .val (.long (ms - (0 : Int64))), .second, .unset, .unset] [(.ref o0)])) rfl rfl (hb hby d5_74)
    obtain ⟨T10, X10, e10, st10⟩ := getF X9 hx hZ hown (host := "") (Or.inl (hw _ (List.mem_of_getElem? (i := 11) rfl))) Via.refl e9 F_largest_o0 (g := (mkF m 81 #[.val (.ref o0), .val (.ref o1), .val (.long q2), .second, .val (.long (((0 : Int64) + q2) - (0 : Int64))), .second, .val (.long (ms - (0 : Int64))), .second, .unset, .unset] [(.ref o0), (.long (fr - (((0 : Int64) + q2) - (0 : Int64))))])) rfl rfl (hb hby d5_81)
    have pre11 : ∀ t, Steps p.tables e below (T10.setTop (mkF m 85 #[.val (.ref o0), .val (.ref o1), .val (.long q2), .second, .val (.long (((0 : Int64) + q2) - (0 : Int64))), .second, .val (.long (ms - (0 : Int64))), .second, .unset, .unset] [(.int (lcmpW (fr - (((0 : Int64) + q2) - (0 : Int64))) lg))])) t → Steps p.tables e below (s₁.setTop (entryFrame m #[(.ref o0), (.ref o1), (.long q2)] 10)) t := by
      intro t kt
      refine pre5 _ ?_
      show Steps p.tables e below (T4.setTop (mkF m 59 #[.val (.ref o0), .val (.ref o1), .val (.long q2), .second, .val (.long (((0 : Int64) + q2) - (0 : Int64))), .second, .unset, .unset, .unset, .unset] [(.int (lcmpW (((0 : Int64) + q2) - (0 : Int64)) (0 : Int64)))])) _
      refine XS.ifNo X4.here hx rfl (hb hby d5_59) rfl ((if0 _ _).trans (tlt ((lw_gt _ _).mpr hc59_6)).2.2.2) ?_
      show Steps p.tables e below (T4.setTop (mkF m 62 #[.val (.ref o0), .val (.ref o1), .val (.long q2), .second, .val (.long (((0 : Int64) + q2) - (0 : Int64))), .second, .unset, .unset, .unset, .unset] [])) _
      refine XS.aloadN X4.here hx rfl (hb hby d5_62) rfl rfl ?_
      show Steps p.tables e below (T4.setTop (mkF m 63 #[.val (.ref o0), .val (.ref o1), .val (.long q2), .second, .val (.long (((0 : Int64) + q2) - (0 : Int64))), .second, .unset, .unset, .unset, .unset] [(.ref o1)])) _
      refine st7 _ ?_
      show Steps p.tables e below (T7.setTop (mkF m 66 #[.val (.ref o0), .val (.ref o1), .val (.long q2), .second, .val (.long (((0 : Int64) + q2) - (0 : Int64))), .second, .unset, .unset, .unset, .unset] [(.long ms)])) _
      refine XS.aloadN X7.here hx rfl (hb hby d5_66) rfl rfl ?_
      show Steps p.tables e below (T7.setTop (mkF m 67 #[.val (.ref o0), .val (.ref o1), .val (.long q2), .second, .val (.long (((0 : Int64) + q2) - (0 : Int64))), .second, .unset, .unset, .unset, .unset] [(.ref o1), (.long ms)])) _
      refine st8 _ ?_
      show Steps p.tables e below (T8.setTop (mkF m 70 #[.val (.ref o0), .val (.ref o1), .val (.long q2), .second, .val (.long (((0 : Int64) + q2) - (0 : Int64))), .second, .unset, .unset, .unset, .unset] [(.long (0 : Int64)), (.long ms)])) _
      refine XS.lsub X8.here hx rfl (hb hby d5_70) rfl ?_
      show Steps p.tables e below (T8.setTop (mkF m 71 #[.val (.ref o0), .val (.ref o1), .val (.long q2), .second, .val (.long (((0 : Int64) + q2) - (0 : Int64))), .second, .unset, .unset, .unset, .unset] [(.long (ms - (0 : Int64)))])) _
      refine XS.lstore X8.here hx rfl (hb hby d5_71) rfl (l' := #[.val (.ref o0), .val (.ref o1), .val (.long q2), .second, .val (.long (((0 : Int64) + q2) - (0 : Int64))), .second, .val (.long (ms - (0 : Int64))), .second, .unset, .unset]) rfl ?_
      show Steps p.tables e below (T8.setTop (mkF m 73 #[.val (.ref o0), .val (.ref o1), .val (.long q2), .second, .val (.long (((0 : Int64) + q2) - (0 : Int64))), .second, .val (.long (ms - (0 : Int64))), .second, .unset, .unset] [])) _
      refine XS.aloadN X8.here hx rfl (hb hby d5_73) rfl rfl ?_
      show Steps p.tables e below (T8.setTop (mkF m 74 #[.val (.ref o0), .val (.ref o1), .val (.long q2), .second, .val (.long (((0 : Int64) + q2) - (0 : Int64))), .second, .val (.long (ms - (0 : Int64))), .second, .unset, .unset] [(.ref o0)])) _
      refine st9 _ ?_
      show Steps p.tables e below (T9.setTop (mkF m 77 #[.val (.ref o0), .val (.ref o1), .val (.long q2), .second, .val (.long (((0 : Int64) + q2) - (0 : Int64))), .second, .val (.long (ms - (0 : Int64))), .second, .unset, .unset] [(.long fr)])) _
      refine XS.lload X9.here hx rfl (hb hby d5_77) rfl ?_
      show Steps p.tables e below (T9.setTop (mkF m 79 #[.val (.ref o0), .val (.ref o1), .val (.long q2), .second, .val (.long (((0 : Int64) + q2) - (0 : Int64))), .second, .val (.long (ms - (0 : Int64))), .second, .unset, .unset] [(.long (((0 : Int64) + q2) - (0 : Int64))), (.long fr)])) _
      refine XS.lsub X9.here hx rfl (hb hby d5_79) rfl ?_
      show Steps p.tables e below (T9.setTop (mkF m 80 #[.val (.ref o0), .val (.ref o1), .val (.long q2), .second, .val (.long (((0 : Int64) + q2) - (0 : Int64))), .second, .val (.long (ms - (0 : Int64))), .second, .unset, .unset] [(.long (fr - (((0 : Int64) + q2) - (0 : Int64))))])) _
      refine XS.aloadN X9.here hx rfl (hb hby d5_80) rfl rfl ?_
      show Steps p.tables e below (T9.setTop (mkF m 81 #[.val (.ref o0), .val (.ref o1), .val (.long q2), .second, .val (.long (((0 : Int64) + q2) - (0 : Int64))), .second, .val (.long (ms - (0 : Int64))), .second, .unset, .unset] [(.ref o0), (.long (fr - (((0 : Int64) + q2) - (0 : Int64))))])) _
      refine st10 _ ?_
      show Steps p.tables e below (T10.setTop (mkF m 84 #[.val (.ref o0), .val (.ref o1), .val (.long q2), .second, .val (.long (((0 : Int64) + q2) - (0 : Int64))), .second, .val (.long (ms - (0 : Int64))), .second, .unset, .unset] [(.long lg), (.long (fr - (((0 : Int64) + q2) - (0 : Int64))))])) _
      refine XS.lcmp X10.here hx rfl (hb hby d5_84) rfl ?_
      exact kt
    by_cases hc85_12 : (fr - (((0 : Int64) + q2) - (0 : Int64))) < lg
    · skip
      obtain ⟨T13, X13, e13, st13⟩ := getF X10 hx hZ hown (host := "") (Or.inl (hw _ (List.mem_of_getElem? (i := 13) rfl))) Via.refl e10 F_free_o0 (g := (mkF m 98 #[.val (.ref o0), .val (.ref o1), .val (.long q2), .second, .val (.long (((0 : Int64) + q2) - (0 : Int64))), .second, .val (.long (ms - (0 : Int64))), .second, .unset, .unset] [(.ref o0), (.long (ms - (0 : Int64)))])) rfl rfl (hb hby d5_98)
      have pre14 : ∀ t, Steps p.tables e below (T13.setTop (mkF m 102 #[.val (.ref o0), .val (.ref o1), .val (.long q2), .second, .val (.long (((0 : Int64) + q2) - (0 : Int64))), .second, .val (.long (ms - (0 : Int64))), .second, .unset, .unset] [(.int (lcmpW (ms - (0 : Int64)) fr))])) t → Steps p.tables e below (s₁.setTop (entryFrame m #[(.ref o0), (.ref o1), (.long q2)] 10)) t := by
        intro t kt
        refine pre11 _ ?_
        show Steps p.tables e below (T10.setTop (mkF m 85 #[.val (.ref o0), .val (.ref o1), .val (.long q2), .second, .val (.long (((0 : Int64) + q2) - (0 : Int64))), .second, .val (.long (ms - (0 : Int64))), .second, .unset, .unset] [(.int (lcmpW (fr - (((0 : Int64) + q2) - (0 : Int64))) lg))])) _
        refine XS.ifYes X10.here hx rfl (pc0 := 85) (pc' := 95) rfl (hb hby d5_85) rfl ((if0 _ _).trans (tlt ((lw_lt _ _).mpr hc85_12)).1) (by decide) (by decide) ?_
        show Steps p.tables e below (T10.setTop (mkF m 95 #[.val (.ref o0), .val (.ref o1), .val (.long q2), .second, .val (.long (((0 : Int64) + q2) - (0 : Int64))), .second, .val (.long (ms - (0 : Int64))), .second, .unset, .unset] [])) _
        refine XS.lload X10.here hx rfl (hb hby d5_95) rfl ?_
        show Steps p.tables e below (T10.setTop (mkF m 97 #[.val (.ref o0), .val (.ref o1), .val (.long q2), .second, .val (.long (((0 : Int64) + q2) - (0 : Int64))), .second, .val (.long (ms - (0 : Int64))), .second, .unset, .unset] [(.long (ms - (0 : Int64)))])) _
        refine XS.aloadN X10.here hx rfl (hb hby d5_97) rfl rfl ?_
        show Steps p.tables e below (T10.setTop (mkF m 98 #[.val (.ref o0), .val (.ref o1), .val (.long q2), .second, .val (.long (((0 : Int64) + q2) - (0 : Int64))), .second, .val (.long (ms - (0 : Int64))), .second, .unset, .unset] [(.ref o0), (.long (ms - (0 : Int64)))])) _
        refine st13 _ ?_
        show Steps p.tables e below (T13.setTop (mkF m 101 #[.val (.ref o0), .val (.ref o1), .val (.long q2), .second, .val (.long (((0 : Int64) + q2) - (0 : Int64))), .second, .val (.long (ms - (0 : Int64))), .second, .unset, .unset] [(.long fr), (.long (ms - (0 : Int64)))])) _
        refine XS.lcmp X13.here hx rfl (hb hby d5_101) rfl ?_
        exact kt
      by_cases hc102_15 : fr < (ms - (0 : Int64))
      · skip
        obtain ⟨fs, hr, hrun, hended, hW, hsame⟩ := X13.leave (v := some (.int (0 : Int32))) (fun h => by rw [Bd.returns] at h; cases h)
        refine ⟨_, _, pre14 _ ?_, hrun, hended, _, _, rfl, ?_, ⟨_, rfl⟩, hW, hsame.mono (by decide) (by decide)⟩
        · show Steps p.tables e below (T13.setTop (mkF m 102 #[.val (.ref o0), .val (.ref o1), .val (.long q2), .second, .val (.long (((0 : Int64) + q2) - (0 : Int64))), .second, .val (.long (ms - (0 : Int64))), .second, .unset, .unset] [(.int (lcmpW (ms - (0 : Int64)) fr))])) _
          refine XS.ifYes X13.here hx rfl (pc0 := 102) (pc' := 112) rfl (hb hby d5_102) rfl ((if0 _ _).trans (tlt ((lw_gt _ _).mpr hc102_15)).2.2.1) (by decide) (by decide) ?_
          show Steps p.tables e below (T13.setTop (mkF m 112 #[.val (.ref o0), .val (.ref o1), .val (.long q2), .second, .val (.long (((0 : Int64) + q2) - (0 : Int64))), .second, .val (.long (ms - (0 : Int64))), .second, .unset, .unset] [])) _
          refine XS.iconst X13.here hx rfl (hb hby d5_112) ?_
          show Steps p.tables e below (T13.setTop (mkF m 113 #[.val (.ref o0), .val (.ref o1), .val (.long q2), .second, .val (.long (((0 : Int64) + q2) - (0 : Int64))), .second, .val (.long (ms - (0 : Int64))), .second, .unset, .unset] [(.int (0 : Int32))])) _
          exact retN X13 hx (t := .boolean) Bd.returns (by simp) (hb hby d5_113) hr
        · show Q5 Z o0 o1 q2 ms fr lg mo h0 n0 _ T13.heap _
          rw [e13]
          exact ⟨by show _ = some (Value.int (own_gr q2 ms fr lg)); rw [own_gr, if_pos hc59_6, if_pos hc85_12, if_pos hc102_15], N0, (Keep.refl h0 [o0, o1]), (by rw [own_gf, if_pos hc59_6, if_pos hc85_12, if_pos hc102_15]; exact F_free_o0), F_largest_o0, M_o0⟩
      · skip
        obtain ⟨T16, X16, e16, st16⟩ := getF X13 hx hZ hown (host := "") (Or.inl (hw _ (List.mem_of_getElem? (i := 13) rfl))) Via.refl e13 F_free_o0 (g := (mkF m 116 #[.val (.ref o0), .val (.ref o1), .val (.long q2), .second, .val (.long (((0 : Int64) + q2) - (0 : Int64))), .second, .val (.long (ms - (0 : Int64))), .second, .val (.long (ms - (0 : Int64))), .second] [(.ref o0), (.ref o0)])) rfl rfl (hb hby d5_116)
        obtain ⟨T17, h17, X17, e17, W17, st17⟩ := putF X16 hx hZ hown (host := "") (Or.inl (hw _ (List.mem_of_getElem? (i := 13) rfl))) Via.refl e16 F_free_o0 E_o0 (Or.inl (hw _ (List.mem_of_getElem? (i := 14) rfl))) (hw _ (List.mem_of_getElem? (i := 3) rfl)) (ty := .long) (by decide) rfl rfl (g := (mkF m 122 #[.val (.ref o0), .val (.ref o1), .val (.long q2), .second, .val (.long (((0 : Int64) + q2) - (0 : Int64))), .second, .val (.long (ms - (0 : Int64))), .second, .val (.long (ms - (0 : Int64))), .second] [(.long (fr - (ms - (0 : Int64)))), (.ref o0)])) rfl rfl (hb hby d5_122)
        have Fw17 : Fld Z h17 o0 "com/example/leave_to_act/leavetoact/ByteBudget" "free" "J" (.long (fr - (ms - (0 : Int64)))) := F_free_o0.same W17
        have J17 : Keep h0 h17 [o0, o1] := (Keep.refl h0 [o0, o1]).wr W17 (Or.inl (List.mem_of_getElem? (i := 0) rfl))
        have N17 := Fr.snoc X17 N0 g_o0
        have c18 : Fld Z h17 o1 "com/example/leave_to_act/leavetoact/ByteBudget$Share" "given" "J" (.long (0 : Int64)) := (F_given_o1.other W17 (Or.inl (Ne.symm ne_o0_o1)))
        obtain ⟨T19, X19, e19, st19⟩ := own_getFR X17 hx hZ hown (hw _ (List.mem_of_getElem? (i := 43) rfl)) Via.refl e17 c18 (g := (mkF m 127 #[.val (.ref o0), .val (.ref o1), .val (.long q2), .second, .val (.long (((0 : Int64) + q2) - (0 : Int64))), .second, .val (.long (ms - (0 : Int64))), .second, .val (.long (ms - (0 : Int64))), .second] [(.ref o1), (.ref o1)])) rfl rfl (hb hby d5_127)
        have c20 : Exa Z h17 o1 "com/example/leave_to_act/leavetoact/ByteBudget$Share" := (E_o1.wr W17)
        obtain ⟨T21, h21, X21, e21, W21, st21⟩ := own_putFR X19 hx hZ hown (hw _ (List.mem_of_getElem? (i := 43) rfl)) Via.refl e19 c18 c20 (Or.inl (hw _ (List.mem_of_getElem? (i := 44) rfl))) (hw _ (List.mem_of_getElem? (i := 21) rfl)) (ty := .long) (by decide) rfl rfl (by rw [hnm]; decide) (g := (mkF m 133 #[.val (.ref o0), .val (.ref o1), .val (.long q2), .second, .val (.long (((0 : Int64) + q2) - (0 : Int64))), .second, .val (.long (ms - (0 : Int64))), .second, .val (.long (ms - (0 : Int64))), .second] [(.long ((0 : Int64) + (ms - (0 : Int64)))), (.ref o1)])) rfl rfl (hb hby d5_133)
        have Fw21 : Fld Z h21 o1 "com/example/leave_to_act/leavetoact/ByteBudget$Share" "given" "J" (.long ((0 : Int64) + (ms - (0 : Int64)))) := c18.same W21
        have J21 : Keep h0 h21 [o0, o1] := J17.wr W21 (Or.inl (List.mem_of_getElem? (i := 1) rfl))
        have N21 := Fr.snoc X21 N17 g_o1
        have c22 : Fld Z h21 o1 "com/example/leave_to_act/leavetoact/ByteBudget$Share" "taken" "J" (.long (0 : Int64)) := ((F_taken_o1.other W17 (Or.inl (Ne.symm ne_o0_o1))).other W21 (Or.inr (slot_ne (Or.inl (hw _ (List.mem_of_getElem? (i := 41) rfl))) (Or.inl (hw _ (List.mem_of_getElem? (i := 44) rfl))) (by decide) (t := .long) (t' := .long) (by decide) (by decide))))
        obtain ⟨T23, X23, e23, st23⟩ := own_getFR X21 hx hZ hown (hw _ (List.mem_of_getElem? (i := 40) rfl)) Via.refl e21 c22 (g := (mkF m 138 #[.val (.ref o0), .val (.ref o1), .val (.long q2), .second, .val (.long (((0 : Int64) + q2) - (0 : Int64))), .second, .val (.long (ms - (0 : Int64))), .second, .val (.long (ms - (0 : Int64))), .second] [(.ref o1), (.ref o1)])) rfl rfl (hb hby d5_138)
        have c24 : Exa Z h21 o1 "com/example/leave_to_act/leavetoact/ByteBudget$Share" := (c20.wr W21)
        obtain ⟨T25, h25, X25, e25, W25, st25⟩ := own_putFR X23 hx hZ hown (hw _ (List.mem_of_getElem? (i := 40) rfl)) Via.refl e23 c22 c24 (Or.inl (hw _ (List.mem_of_getElem? (i := 41) rfl))) (hw _ (List.mem_of_getElem? (i := 21) rfl)) (ty := .long) (by decide) rfl rfl (by rw [hnm]; decide) (g := (mkF m 143 #[.val (.ref o0), .val (.ref o1), .val (.long q2), .second, .val (.long (((0 : Int64) + q2) - (0 : Int64))), .second, .val (.long (ms - (0 : Int64))), .second, .val (.long (ms - (0 : Int64))), .second] [(.long ((0 : Int64) + q2)), (.ref o1)])) rfl rfl (hb hby d5_143)
        have Fw25 : Fld Z h25 o1 "com/example/leave_to_act/leavetoact/ByteBudget$Share" "taken" "J" (.long ((0 : Int64) + q2)) := c22.same W25
        have J25 : Keep h0 h25 [o0, o1] := J21.wr W25 (Or.inl (List.mem_of_getElem? (i := 1) rfl))
        have N25 := Fr.snoc X25 N21 g_o1
        have c26 : Fld Z h25 o0 "com/example/leave_to_act/leavetoact/ByteBudget" "free" "J" (.long (fr - (ms - (0 : Int64)))) := ((Fw17.other W21 (Or.inl ne_o0_o1)).other W25 (Or.inl ne_o0_o1))
        have c27 : Fld Z h25 o0 "com/example/leave_to_act/leavetoact/ByteBudget" "largest" "J" (.long lg) := (((F_largest_o0.other W17 (Or.inr (slot_ne (Or.inr (hw _ (List.mem_of_getElem? (i := 12) rfl))) (Or.inl (hw _ (List.mem_of_getElem? (i := 14) rfl))) (by decide) (t := .long) (t' := .long) (by decide) (by decide)))).other W21 (Or.inl ne_o0_o1)).other W25 (Or.inl ne_o0_o1))
        have c28 : own_Mo h25 o0 mo := (((M_o0.wr W17).wr W21).wr W25)
        obtain ⟨fs, hr, hrun, hended, hW, hsame⟩ := X25.leave (v := some (.int (1 : Int32))) (fun h => by rw [Bd.returns] at h; cases h)
        refine ⟨_, _, pre14 _ ?_, hrun, hended, _, _, rfl, ?_, ⟨_, rfl⟩, hW, hsame.mono (by decide) (by decide)⟩
        · show Steps p.tables e below (T13.setTop (mkF m 102 #[.val (.ref o0), .val (.ref o1), .val (.long q2), .second, .val (.long (((0 : Int64) + q2) - (0 : Int64))), .second, .val (.long (ms - (0 : Int64))), .second, .unset, .unset] [(.int (lcmpW (ms - (0 : Int64)) fr))])) _
          refine XS.ifNo X13.here hx rfl (hb hby d5_102) rfl ((if0 _ _).trans (flt (mt (lw_gt _ _).mp hc102_15)).2.2.1) ?_
          show Steps p.tables e below (T13.setTop (mkF m 105 #[.val (.ref o0), .val (.ref o1), .val (.long q2), .second, .val (.long (((0 : Int64) + q2) - (0 : Int64))), .second, .val (.long (ms - (0 : Int64))), .second, .unset, .unset] [])) _
          refine XS.lload X13.here hx rfl (hb hby d5_105) rfl ?_
          show Steps p.tables e below (T13.setTop (mkF m 107 #[.val (.ref o0), .val (.ref o1), .val (.long q2), .second, .val (.long (((0 : Int64) + q2) - (0 : Int64))), .second, .val (.long (ms - (0 : Int64))), .second, .unset, .unset] [(.long (ms - (0 : Int64)))])) _
          refine XS.lstore X13.here hx rfl (hb hby d5_107) rfl (l' := #[.val (.ref o0), .val (.ref o1), .val (.long q2), .second, .val (.long (((0 : Int64) + q2) - (0 : Int64))), .second, .val (.long (ms - (0 : Int64))), .second, .val (.long (ms - (0 : Int64))), .second]) rfl ?_
          show Steps p.tables e below (T13.setTop (mkF m 109 #[.val (.ref o0), .val (.ref o1), .val (.long q2), .second, .val (.long (((0 : Int64) + q2) - (0 : Int64))), .second, .val (.long (ms - (0 : Int64))), .second, .val (.long (ms - (0 : Int64))), .second] [])) _
          refine XS.goto X13.here hx rfl (pc0 := 109) (pc' := 114) rfl (hb hby d5_109) (by decide) (by decide) ?_
          show Steps p.tables e below (T13.setTop (mkF m 114 #[.val (.ref o0), .val (.ref o1), .val (.long q2), .second, .val (.long (((0 : Int64) + q2) - (0 : Int64))), .second, .val (.long (ms - (0 : Int64))), .second, .val (.long (ms - (0 : Int64))), .second] [])) _
          refine XS.aloadN X13.here hx rfl (hb hby d5_114) rfl rfl ?_
          show Steps p.tables e below (T13.setTop (mkF m 115 #[.val (.ref o0), .val (.ref o1), .val (.long q2), .second, .val (.long (((0 : Int64) + q2) - (0 : Int64))), .second, .val (.long (ms - (0 : Int64))), .second, .val (.long (ms - (0 : Int64))), .second] [(.ref o0)])) _
          refine XS.dup X13.here hx rfl (hb hby d5_115) rfl rfl ?_
          show Steps p.tables e below (T13.setTop (mkF m 116 #[.val (.ref o0), .val (.ref o1), .val (.long q2), .second, .val (.long (((0 : Int64) + q2) - (0 : Int64))), .second, .val (.long (ms - (0 : Int64))), .second, .val (.long (ms - (0 : Int64))), .second] [(.ref o0), (.ref o0)])) _
          refine st16 _ ?_
          show Steps p.tables e below (T16.setTop (mkF m 119 #[.val (.ref o0), .val (.ref o1), .val (.long q2), .second, .val (.long (((0 : Int64) + q2) - (0 : Int64))), .second, .val (.long (ms - (0 : Int64))), .second, .val (.long (ms - (0 : Int64))), .second] [(.long fr), (.ref o0)])) _
          refine XS.lload X16.here hx rfl (hb hby d5_119) rfl ?_
          show Steps p.tables e below (T16.setTop (mkF m 121 #[.val (.ref o0), .val (.ref o1), .val (.long q2), .second, .val (.long (((0 : Int64) + q2) - (0 : Int64))), .second, .val (.long (ms - (0 : Int64))), .second, .val (.long (ms - (0 : Int64))), .second] [(.long (ms - (0 : Int64))), (.long fr), (.ref o0)])) _
          refine XS.lsub X16.here hx rfl (hb hby d5_121) rfl ?_
          show Steps p.tables e below (T16.setTop (mkF m 122 #[.val (.ref o0), .val (.ref o1), .val (.long q2), .second, .val (.long (((0 : Int64) + q2) - (0 : Int64))), .second, .val (.long (ms - (0 : Int64))), .second, .val (.long (ms - (0 : Int64))), .second] [(.long (fr - (ms - (0 : Int64)))), (.ref o0)])) _
          refine st17 _ ?_
          show Steps p.tables e below (T17.setTop (mkF m 125 #[.val (.ref o0), .val (.ref o1), .val (.long q2), .second, .val (.long (((0 : Int64) + q2) - (0 : Int64))), .second, .val (.long (ms - (0 : Int64))), .second, .val (.long (ms - (0 : Int64))), .second] [])) _
          refine XS.aloadN X17.here hx rfl (hb hby d5_125) rfl rfl ?_
          show Steps p.tables e below (T17.setTop (mkF m 126 #[.val (.ref o0), .val (.ref o1), .val (.long q2), .second, .val (.long (((0 : Int64) + q2) - (0 : Int64))), .second, .val (.long (ms - (0 : Int64))), .second, .val (.long (ms - (0 : Int64))), .second] [(.ref o1)])) _
          refine XS.dup X17.here hx rfl (hb hby d5_126) rfl rfl ?_
          show Steps p.tables e below (T17.setTop (mkF m 127 #[.val (.ref o0), .val (.ref o1), .val (.long q2), .second, .val (.long (((0 : Int64) + q2) - (0 : Int64))), .second, .val (.long (ms - (0 : Int64))), .second, .val (.long (ms - (0 : Int64))), .second] [(.ref o1), (.ref o1)])) _
          refine st19 _ ?_
          show Steps p.tables e below (T19.setTop (mkF m 130 #[.val (.ref o0), .val (.ref o1), .val (.long q2), .second, .val (.long (((0 : Int64) + q2) - (0 : Int64))), .second, .val (.long (ms - (0 : Int64))), .second, .val (.long (ms - (0 : Int64))), .second] [(.long (0 : Int64)), (.ref o1)])) _
          refine XS.lload X19.here hx rfl (hb hby d5_130) rfl ?_
          show Steps p.tables e below (T19.setTop (mkF m 132 #[.val (.ref o0), .val (.ref o1), .val (.long q2), .second, .val (.long (((0 : Int64) + q2) - (0 : Int64))), .second, .val (.long (ms - (0 : Int64))), .second, .val (.long (ms - (0 : Int64))), .second] [(.long (ms - (0 : Int64))), (.long (0 : Int64)), (.ref o1)])) _
          refine XS.ladd X19.here hx rfl (hb hby d5_132) rfl ?_
          show Steps p.tables e below (T19.setTop (mkF m 133 #[.val (.ref o0), .val (.ref o1), .val (.long q2), .second, .val (.long (((0 : Int64) + q2) - (0 : Int64))), .second, .val (.long (ms - (0 : Int64))), .second, .val (.long (ms - (0 : Int64))), .second] [(.long ((0 : Int64) + (ms - (0 : Int64)))), (.ref o1)])) _
          refine st21 _ ?_
          show Steps p.tables e below (T21.setTop (mkF m 136 #[.val (.ref o0), .val (.ref o1), .val (.long q2), .second, .val (.long (((0 : Int64) + q2) - (0 : Int64))), .second, .val (.long (ms - (0 : Int64))), .second, .val (.long (ms - (0 : Int64))), .second] [])) _
          refine XS.aloadN X21.here hx rfl (hb hby d5_136) rfl rfl ?_
          show Steps p.tables e below (T21.setTop (mkF m 137 #[.val (.ref o0), .val (.ref o1), .val (.long q2), .second, .val (.long (((0 : Int64) + q2) - (0 : Int64))), .second, .val (.long (ms - (0 : Int64))), .second, .val (.long (ms - (0 : Int64))), .second] [(.ref o1)])) _
          refine XS.dup X21.here hx rfl (hb hby d5_137) rfl rfl ?_
          show Steps p.tables e below (T21.setTop (mkF m 138 #[.val (.ref o0), .val (.ref o1), .val (.long q2), .second, .val (.long (((0 : Int64) + q2) - (0 : Int64))), .second, .val (.long (ms - (0 : Int64))), .second, .val (.long (ms - (0 : Int64))), .second] [(.ref o1), (.ref o1)])) _
          refine st23 _ ?_
          show Steps p.tables e below (T23.setTop (mkF m 141 #[.val (.ref o0), .val (.ref o1), .val (.long q2), .second, .val (.long (((0 : Int64) + q2) - (0 : Int64))), .second, .val (.long (ms - (0 : Int64))), .second, .val (.long (ms - (0 : Int64))), .second] [(.long (0 : Int64)), (.ref o1)])) _
          refine XS.lloadN X23.here hx rfl (hb hby d5_141) rfl ?_
          show Steps p.tables e below (T23.setTop (mkF m 142 #[.val (.ref o0), .val (.ref o1), .val (.long q2), .second, .val (.long (((0 : Int64) + q2) - (0 : Int64))), .second, .val (.long (ms - (0 : Int64))), .second, .val (.long (ms - (0 : Int64))), .second] [(.long q2), (.long (0 : Int64)), (.ref o1)])) _
          refine XS.ladd X23.here hx rfl (hb hby d5_142) rfl ?_
          show Steps p.tables e below (T23.setTop (mkF m 143 #[.val (.ref o0), .val (.ref o1), .val (.long q2), .second, .val (.long (((0 : Int64) + q2) - (0 : Int64))), .second, .val (.long (ms - (0 : Int64))), .second, .val (.long (ms - (0 : Int64))), .second] [(.long ((0 : Int64) + q2)), (.ref o1)])) _
          refine st25 _ ?_
          show Steps p.tables e below (T25.setTop (mkF m 146 #[.val (.ref o0), .val (.ref o1), .val (.long q2), .second, .val (.long (((0 : Int64) + q2) - (0 : Int64))), .second, .val (.long (ms - (0 : Int64))), .second, .val (.long (ms - (0 : Int64))), .second] [])) _
          refine XS.iconst X25.here hx rfl (hb hby d5_146) ?_
          show Steps p.tables e below (T25.setTop (mkF m 147 #[.val (.ref o0), .val (.ref o1), .val (.long q2), .second, .val (.long (((0 : Int64) + q2) - (0 : Int64))), .second, .val (.long (ms - (0 : Int64))), .second, .val (.long (ms - (0 : Int64))), .second] [(.int (1 : Int32))])) _
          exact retN X25 hx (t := .boolean) Bd.returns (by simp) (hb hby d5_147) hr
        · show Q5 Z o0 o1 q2 ms fr lg mo h0 n0 _ T25.heap _
          rw [e25]
          exact ⟨by show _ = some (Value.int (own_gr q2 ms fr lg)); rw [own_gr, if_pos hc59_6, if_pos hc85_12, if_neg hc102_15], N25, J25, (by rw [own_gf, if_pos hc59_6, if_pos hc85_12, if_neg hc102_15]; exact c26), c27, c28⟩
    · skip
      obtain ⟨T29, X29, e29, st29⟩ := getF X10 hx hZ hown (host := "") (Or.inl (hw _ (List.mem_of_getElem? (i := 13) rfl))) Via.refl e10 F_free_o0 (g := (mkF m 116 #[.val (.ref o0), .val (.ref o1), .val (.long q2), .second, .val (.long (((0 : Int64) + q2) - (0 : Int64))), .second, .val (.long (ms - (0 : Int64))), .second, .val (.long (((0 : Int64) + q2) - (0 : Int64))), .second] [(.ref o0), (.ref o0)])) rfl rfl (hb hby d5_116)
      obtain ⟨T30, h30, X30, e30, W30, st30⟩ := putF X29 hx hZ hown (host := "") (Or.inl (hw _ (List.mem_of_getElem? (i := 13) rfl))) Via.refl e29 F_free_o0 E_o0 (Or.inl (hw _ (List.mem_of_getElem? (i := 14) rfl))) (hw _ (List.mem_of_getElem? (i := 3) rfl)) (ty := .long) (by decide) rfl rfl (g := (mkF m 122 #[.val (.ref o0), .val (.ref o1), .val (.long q2), .second, .val (.long (((0 : Int64) + q2) - (0 : Int64))), .second, .val (.long (ms - (0 : Int64))), .second, .val (.long (((0 : Int64) + q2) - (0 : Int64))), .second] [(.long (fr - (((0 : Int64) + q2) - (0 : Int64)))), (.ref o0)])) rfl rfl (hb hby d5_122)
      have Fw30 : Fld Z h30 o0 "com/example/leave_to_act/leavetoact/ByteBudget" "free" "J" (.long (fr - (((0 : Int64) + q2) - (0 : Int64)))) := F_free_o0.same W30
      have J30 : Keep h0 h30 [o0, o1] := (Keep.refl h0 [o0, o1]).wr W30 (Or.inl (List.mem_of_getElem? (i := 0) rfl))
      have N30 := Fr.snoc X30 N0 g_o0
      have c31 : Fld Z h30 o1 "com/example/leave_to_act/leavetoact/ByteBudget$Share" "given" "J" (.long (0 : Int64)) := (F_given_o1.other W30 (Or.inl (Ne.symm ne_o0_o1)))
      obtain ⟨T32, X32, e32, st32⟩ := own_getFR X30 hx hZ hown (hw _ (List.mem_of_getElem? (i := 43) rfl)) Via.refl e30 c31 (g := (mkF m 127 #[.val (.ref o0), .val (.ref o1), .val (.long q2), .second, .val (.long (((0 : Int64) + q2) - (0 : Int64))), .second, .val (.long (ms - (0 : Int64))), .second, .val (.long (((0 : Int64) + q2) - (0 : Int64))), .second] [(.ref o1), (.ref o1)])) rfl rfl (hb hby d5_127)
      have c33 : Exa Z h30 o1 "com/example/leave_to_act/leavetoact/ByteBudget$Share" := (E_o1.wr W30)
      obtain ⟨T34, h34, X34, e34, W34, st34⟩ := own_putFR X32 hx hZ hown (hw _ (List.mem_of_getElem? (i := 43) rfl)) Via.refl e32 c31 c33 (Or.inl (hw _ (List.mem_of_getElem? (i := 44) rfl))) (hw _ (List.mem_of_getElem? (i := 21) rfl)) (ty := .long) (by decide) rfl rfl (by rw [hnm]; decide) (g := (mkF m 133 #[.val (.ref o0), .val (.ref o1), .val (.long q2), .second, .val (.long (((0 : Int64) + q2) - (0 : Int64))), .second, .val (.long (ms - (0 : Int64))), .second, .val (.long (((0 : Int64) + q2) - (0 : Int64))), .second] [(.long ((0 : Int64) + (((0 : Int64) + q2) - (0 : Int64)))), (.ref o1)])) rfl rfl (hb hby d5_133)
      have Fw34 : Fld Z h34 o1 "com/example/leave_to_act/leavetoact/ByteBudget$Share" "given" "J" (.long ((0 : Int64) + (((0 : Int64) + q2) - (0 : Int64)))) := c31.same W34
      have J34 : Keep h0 h34 [o0, o1] := J30.wr W34 (Or.inl (List.mem_of_getElem? (i := 1) rfl))
      have N34 := Fr.snoc X34 N30 g_o1
      have c35 : Fld Z h34 o1 "com/example/leave_to_act/leavetoact/ByteBudget$Share" "taken" "J" (.long (0 : Int64)) := ((F_taken_o1.other W30 (Or.inl (Ne.symm ne_o0_o1))).other W34 (Or.inr (slot_ne (Or.inl (hw _ (List.mem_of_getElem? (i := 41) rfl))) (Or.inl (hw _ (List.mem_of_getElem? (i := 44) rfl))) (by decide) (t := .long) (t' := .long) (by decide) (by decide))))
      obtain ⟨T36, X36, e36, st36⟩ := own_getFR X34 hx hZ hown (hw _ (List.mem_of_getElem? (i := 40) rfl)) Via.refl e34 c35 (g := (mkF m 138 #[.val (.ref o0), .val (.ref o1), .val (.long q2), .second, .val (.long (((0 : Int64) + q2) - (0 : Int64))), .second, .val (.long (ms - (0 : Int64))), .second, .val (.long (((0 : Int64) + q2) - (0 : Int64))), .second] [(.ref o1), (.ref o1)])) rfl rfl (hb hby d5_138)
      have c37 : Exa Z h34 o1 "com/example/leave_to_act/leavetoact/ByteBudget$Share" := (c33.wr W34)
      obtain ⟨T38, h38, X38, e38, W38, st38⟩ := own_putFR X36 hx hZ hown (hw _ (List.mem_of_getElem? (i := 40) rfl)) Via.refl e36 c35 c37 (Or.inl (hw _ (List.mem_of_getElem? (i := 41) rfl))) (hw _ (List.mem_of_getElem? (i := 21) rfl)) (ty := .long) (by decide) rfl rfl (by rw [hnm]; decide) (g := (mkF m 143 #[.val (.ref o0), .val (.ref o1), .val (.long q2), .second, .val (.long (((0 : Int64) + q2) - (0 : Int64))), .second, .val (.long (ms - (0 : Int64))), .second, .val (.long (((0 : Int64) + q2) - (0 : Int64))), .second] [(.long ((0 : Int64) + q2)), (.ref o1)])) rfl rfl (hb hby d5_143)
      have Fw38 : Fld Z h38 o1 "com/example/leave_to_act/leavetoact/ByteBudget$Share" "taken" "J" (.long ((0 : Int64) + q2)) := c35.same W38
      have J38 : Keep h0 h38 [o0, o1] := J34.wr W38 (Or.inl (List.mem_of_getElem? (i := 1) rfl))
      have N38 := Fr.snoc X38 N34 g_o1
      have c39 : Fld Z h38 o0 "com/example/leave_to_act/leavetoact/ByteBudget" "free" "J" (.long (fr - (((0 : Int64) + q2) - (0 : Int64)))) := ((Fw30.other W34 (Or.inl ne_o0_o1)).other W38 (Or.inl ne_o0_o1))
      have c40 : Fld Z h38 o0 "com/example/leave_to_act/leavetoact/ByteBudget" "largest" "J" (.long lg) := (((F_largest_o0.other W30 (Or.inr (slot_ne (Or.inr (hw _ (List.mem_of_getElem? (i := 12) rfl))) (Or.inl (hw _ (List.mem_of_getElem? (i := 14) rfl))) (by decide) (t := .long) (t' := .long) (by decide) (by decide)))).other W34 (Or.inl ne_o0_o1)).other W38 (Or.inl ne_o0_o1))
      have c41 : own_Mo h38 o0 mo := (((M_o0.wr W30).wr W34).wr W38)
      obtain ⟨fs, hr, hrun, hended, hW, hsame⟩ := X38.leave (v := some (.int (1 : Int32))) (fun h => by rw [Bd.returns] at h; cases h)
      refine ⟨_, _, pre11 _ ?_, hrun, hended, _, _, rfl, ?_, ⟨_, rfl⟩, hW, hsame.mono (by decide) (by decide)⟩
      · show Steps p.tables e below (T10.setTop (mkF m 85 #[.val (.ref o0), .val (.ref o1), .val (.long q2), .second, .val (.long (((0 : Int64) + q2) - (0 : Int64))), .second, .val (.long (ms - (0 : Int64))), .second, .unset, .unset] [(.int (lcmpW (fr - (((0 : Int64) + q2) - (0 : Int64))) lg))])) _
        refine XS.ifNo X10.here hx rfl (hb hby d5_85) rfl ((if0 _ _).trans (flt (mt (lw_lt _ _).mp hc85_12)).1) ?_
        show Steps p.tables e below (T10.setTop (mkF m 88 #[.val (.ref o0), .val (.ref o1), .val (.long q2), .second, .val (.long (((0 : Int64) + q2) - (0 : Int64))), .second, .val (.long (ms - (0 : Int64))), .second, .unset, .unset] [])) _
        refine XS.lload X10.here hx rfl (hb hby d5_88) rfl ?_
        show Steps p.tables e below (T10.setTop (mkF m 90 #[.val (.ref o0), .val (.ref o1), .val (.long q2), .second, .val (.long (((0 : Int64) + q2) - (0 : Int64))), .second, .val (.long (ms - (0 : Int64))), .second, .unset, .unset] [(.long (((0 : Int64) + q2) - (0 : Int64)))])) _
        refine XS.lstore X10.here hx rfl (hb hby d5_90) rfl (l' := #[.val (.ref o0), .val (.ref o1), .val (.long q2), .second, .val (.long (((0 : Int64) + q2) - (0 : Int64))), .second, .val (.long (ms - (0 : Int64))), .second, .val (.long (((0 : Int64) + q2) - (0 : Int64))), .second]) rfl ?_
        show Steps p.tables e below (T10.setTop (mkF m 92 #[.val (.ref o0), .val (.ref o1), .val (.long q2), .second, .val (.long (((0 : Int64) + q2) - (0 : Int64))), .second, .val (.long (ms - (0 : Int64))), .second, .val (.long (((0 : Int64) + q2) - (0 : Int64))), .second] [])) _
        refine XS.goto X10.here hx rfl (pc0 := 92) (pc' := 114) rfl (hb hby d5_92) (by decide) (by decide) ?_
        show Steps p.tables e below (T10.setTop (mkF m 114 #[.val (.ref o0), .val (.ref o1), .val (.long q2), .second, .val (.long (((0 : Int64) + q2) - (0 : Int64))), .second, .val (.long (ms - (0 : Int64))), .second, .val (.long (((0 : Int64) + q2) - (0 : Int64))), .second] [])) _
        refine XS.aloadN X10.here hx rfl (hb hby d5_114) rfl rfl ?_
        show Steps p.tables e below (T10.setTop (mkF m 115 #[.val (.ref o0), .val (.ref o1), .val (.long q2), .second, .val (.long (((0 : Int64) + q2) - (0 : Int64))), .second, .val (.long (ms - (0 : Int64))), .second, .val (.long (((0 : Int64) + q2) - (0 : Int64))), .second] [(.ref o0)])) _
        refine XS.dup X10.here hx rfl (hb hby d5_115) rfl rfl ?_
        show Steps p.tables e below (T10.setTop (mkF m 116 #[.val (.ref o0), .val (.ref o1), .val (.long q2), .second, .val (.long (((0 : Int64) + q2) - (0 : Int64))), .second, .val (.long (ms - (0 : Int64))), .second, .val (.long (((0 : Int64) + q2) - (0 : Int64))), .second] [(.ref o0), (.ref o0)])) _
        refine st29 _ ?_
        show Steps p.tables e below (T29.setTop (mkF m 119 #[.val (.ref o0), .val (.ref o1), .val (.long q2), .second, .val (.long (((0 : Int64) + q2) - (0 : Int64))), .second, .val (.long (ms - (0 : Int64))), .second, .val (.long (((0 : Int64) + q2) - (0 : Int64))), .second] [(.long fr), (.ref o0)])) _
        refine XS.lload X29.here hx rfl (hb hby d5_119) rfl ?_
        show Steps p.tables e below (T29.setTop (mkF m 121 #[.val (.ref o0), .val (.ref o1), .val (.long q2), .second, .val (.long (((0 : Int64) + q2) - (0 : Int64))), .second, .val (.long (ms - (0 : Int64))), .second, .val (.long (((0 : Int64) + q2) - (0 : Int64))), .second] [(.long (((0 : Int64) + q2) - (0 : Int64))), (.long fr), (.ref o0)])) _
        refine XS.lsub X29.here hx rfl (hb hby d5_121) rfl ?_
        show Steps p.tables e below (T29.setTop (mkF m 122 #[.val (.ref o0), .val (.ref o1), .val (.long q2), .second, .val (.long (((0 : Int64) + q2) - (0 : Int64))), .second, .val (.long (ms - (0 : Int64))), .second, .val (.long (((0 : Int64) + q2) - (0 : Int64))), .second] [(.long (fr - (((0 : Int64) + q2) - (0 : Int64)))), (.ref o0)])) _
        refine st30 _ ?_
        show Steps p.tables e below (T30.setTop (mkF m 125 #[.val (.ref o0), .val (.ref o1), .val (.long q2), .second, .val (.long (((0 : Int64) + q2) - (0 : Int64))), .second, .val (.long (ms - (0 : Int64))), .second, .val (.long (((0 : Int64) + q2) - (0 : Int64))), .second] [])) _
        refine XS.aloadN X30.here hx rfl (hb hby d5_125) rfl rfl ?_
        show Steps p.tables e below (T30.setTop (mkF m 126 #[.val (.ref o0), .val (.ref o1), .val (.long q2), .second, .val (.long (((0 : Int64) + q2) - (0 : Int64))), .second, .val (.long (ms - (0 : Int64))), .second, .val (.long (((0 : Int64) + q2) - (0 : Int64))), .second] [(.ref o1)])) _
        refine XS.dup X30.here hx rfl (hb hby d5_126) rfl rfl ?_
        show Steps p.tables e below (T30.setTop (mkF m 127 #[.val (.ref o0), .val (.ref o1), .val (.long q2), .second, .val (.long (((0 : Int64) + q2) - (0 : Int64))), .second, .val (.long (ms - (0 : Int64))), .second, .val (.long (((0 : Int64) + q2) - (0 : Int64))), .second] [(.ref o1), (.ref o1)])) _
        refine st32 _ ?_
        show Steps p.tables e below (T32.setTop (mkF m 130 #[.val (.ref o0), .val (.ref o1), .val (.long q2), .second, .val (.long (((0 : Int64) + q2) - (0 : Int64))), .second, .val (.long (ms - (0 : Int64))), .second, .val (.long (((0 : Int64) + q2) - (0 : Int64))), .second] [(.long (0 : Int64)), (.ref o1)])) _
        refine XS.lload X32.here hx rfl (hb hby d5_130) rfl ?_
        show Steps p.tables e below (T32.setTop (mkF m 132 #[.val (.ref o0), .val (.ref o1), .val (.long q2), .second, .val (.long (((0 : Int64) + q2) - (0 : Int64))), .second, .val (.long (ms - (0 : Int64))), .second, .val (.long (((0 : Int64) + q2) - (0 : Int64))), .second] [(.long (((0 : Int64) + q2) - (0 : Int64))), (.long (0 : Int64)), (.ref o1)])) _
        refine XS.ladd X32.here hx rfl (hb hby d5_132) rfl ?_
        show Steps p.tables e below (T32.setTop (mkF m 133 #[.val (.ref o0), .val (.ref o1), .val (.long q2), .second, .val (.long (((0 : Int64) + q2) - (0 : Int64))), .second, .val (.long (ms - (0 : Int64))), .second, .val (.long (((0 : Int64) + q2) - (0 : Int64))), .second] [(.long ((0 : Int64) + (((0 : Int64) + q2) - (0 : Int64)))), (.ref o1)])) _
        refine st34 _ ?_
        show Steps p.tables e below (T34.setTop (mkF m 136 #[.val (.ref o0), .val (.ref o1), .val (.long q2), .second, .val (.long (((0 : Int64) + q2) - (0 : Int64))), .second, .val (.long (ms - (0 : Int64))), .second, .val (.long (((0 : Int64) + q2) - (0 : Int64))), .second] [])) _
        refine XS.aloadN X34.here hx rfl (hb hby d5_136) rfl rfl ?_
        show Steps p.tables e below (T34.setTop (mkF m 137 #[.val (.ref o0), .val (.ref o1), .val (.long q2), .second, .val (.long (((0 : Int64) + q2) - (0 : Int64))), .second, .val (.long (ms - (0 : Int64))), .second, .val (.long (((0 : Int64) + q2) - (0 : Int64))), .second] [(.ref o1)])) _
        refine XS.dup X34.here hx rfl (hb hby d5_137) rfl rfl ?_
        show Steps p.tables e below (T34.setTop (mkF m 138 #[.val (.ref o0), .val (.ref o1), .val (.long q2), .second, .val (.long (((0 : Int64) + q2) - (0 : Int64))), .second, .val (.long (ms - (0 : Int64))), .second, .val (.long (((0 : Int64) + q2) - (0 : Int64))), .second] [(.ref o1), (.ref o1)])) _
        refine st36 _ ?_
        show Steps p.tables e below (T36.setTop (mkF m 141 #[.val (.ref o0), .val (.ref o1), .val (.long q2), .second, .val (.long (((0 : Int64) + q2) - (0 : Int64))), .second, .val (.long (ms - (0 : Int64))), .second, .val (.long (((0 : Int64) + q2) - (0 : Int64))), .second] [(.long (0 : Int64)), (.ref o1)])) _
        refine XS.lloadN X36.here hx rfl (hb hby d5_141) rfl ?_
        show Steps p.tables e below (T36.setTop (mkF m 142 #[.val (.ref o0), .val (.ref o1), .val (.long q2), .second, .val (.long (((0 : Int64) + q2) - (0 : Int64))), .second, .val (.long (ms - (0 : Int64))), .second, .val (.long (((0 : Int64) + q2) - (0 : Int64))), .second] [(.long q2), (.long (0 : Int64)), (.ref o1)])) _
        refine XS.ladd X36.here hx rfl (hb hby d5_142) rfl ?_
        show Steps p.tables e below (T36.setTop (mkF m 143 #[.val (.ref o0), .val (.ref o1), .val (.long q2), .second, .val (.long (((0 : Int64) + q2) - (0 : Int64))), .second, .val (.long (ms - (0 : Int64))), .second, .val (.long (((0 : Int64) + q2) - (0 : Int64))), .second] [(.long ((0 : Int64) + q2)), (.ref o1)])) _
        refine st38 _ ?_
        show Steps p.tables e below (T38.setTop (mkF m 146 #[.val (.ref o0), .val (.ref o1), .val (.long q2), .second, .val (.long (((0 : Int64) + q2) - (0 : Int64))), .second, .val (.long (ms - (0 : Int64))), .second, .val (.long (((0 : Int64) + q2) - (0 : Int64))), .second] [])) _
        refine XS.iconst X38.here hx rfl (hb hby d5_146) ?_
        show Steps p.tables e below (T38.setTop (mkF m 147 #[.val (.ref o0), .val (.ref o1), .val (.long q2), .second, .val (.long (((0 : Int64) + q2) - (0 : Int64))), .second, .val (.long (ms - (0 : Int64))), .second, .val (.long (((0 : Int64) + q2) - (0 : Int64))), .second] [(.int (1 : Int32))])) _
        exact retN X38 hx (t := .boolean) Bd.returns (by simp) (hb hby d5_147) hr
      · show Q5 Z o0 o1 q2 ms fr lg mo h0 n0 _ T38.heap _
        rw [e38]
        exact ⟨by show _ = some (Value.int (own_gr q2 ms fr lg)); rw [own_gr, if_pos hc59_6, if_neg hc85_12], N38, J38, (by rw [own_gf, if_pos hc59_6, if_neg hc85_12]; exact c39), c40, c41⟩
  · skip
    obtain ⟨T42, X42, e42, st42⟩ := own_getFR X4 hx hZ hown (hw _ (List.mem_of_getElem? (i := 40) rfl)) Via.refl e4 F_taken_o1 (g := (mkF m 138 #[.val (.ref o0), .val (.ref o1), .val (.long q2), .second, .val (.long (((0 : Int64) + q2) - (0 : Int64))), .second, .unset, .unset, .unset, .unset] [(.ref o1), (.ref o1)])) rfl rfl (hb hby d5_138)
    obtain ⟨T43, h43, X43, e43, W43, st43⟩ := own_putFR X42 hx hZ hown (hw _ (List.mem_of_getElem? (i := 40) rfl)) Via.refl e42 F_taken_o1 E_o1 (Or.inl (hw _ (List.mem_of_getElem? (i := 41) rfl))) (hw _ (List.mem_of_getElem? (i := 21) rfl)) (ty := .long) (by decide) rfl rfl (by rw [hnm]; decide) (g := (mkF m 143 #[.val (.ref o0), .val (.ref o1), .val (.long q2), .second, .val (.long (((0 : Int64) + q2) - (0 : Int64))), .second, .unset, .unset, .unset, .unset] [(.long ((0 : Int64) + q2)), (.ref o1)])) rfl rfl (hb hby d5_143)
    have Fw43 : Fld Z h43 o1 "com/example/leave_to_act/leavetoact/ByteBudget$Share" "taken" "J" (.long ((0 : Int64) + q2)) := F_taken_o1.same W43
    have J43 : Keep h0 h43 [o0, o1] := (Keep.refl h0 [o0, o1]).wr W43 (Or.inl (List.mem_of_getElem? (i := 1) rfl))
    have N43 := Fr.snoc X43 N0 g_o1
    have c44 : Fld Z h43 o0 "com/example/leave_to_act/leavetoact/ByteBudget" "free" "J" (.long fr) := (F_free_o0.other W43 (Or.inl ne_o0_o1))
    have c45 : Fld Z h43 o0 "com/example/leave_to_act/leavetoact/ByteBudget" "largest" "J" (.long lg) := (F_largest_o0.other W43 (Or.inl ne_o0_o1))
    have c46 : own_Mo h43 o0 mo := (M_o0.wr W43)
    obtain ⟨fs, hr, hrun, hended, hW, hsame⟩ := X43.leave (v := some (.int (1 : Int32))) (fun h => by rw [Bd.returns] at h; cases h)
    refine ⟨_, _, pre5 _ ?_, hrun, hended, _, _, rfl, ?_, ⟨_, rfl⟩, hW, hsame.mono (by decide) (by decide)⟩
    · show Steps p.tables e below (T4.setTop (mkF m 59 #[.val (.ref o0), .val (.ref o1), .val (.long q2), .second, .val (.long (((0 : Int64) + q2) - (0 : Int64))), .second, .unset, .unset, .unset, .unset] [(.int (lcmpW (((0 : Int64) + q2) - (0 : Int64)) (0 : Int64)))])) _
      refine XS.ifYes X4.here hx rfl (pc0 := 59) (pc' := 136) rfl (hb hby d5_59) rfl ((if0 _ _).trans (flt (mt (lw_gt _ _).mp hc59_6)).2.2.2) (by decide) (by decide) ?_
      show Steps p.tables e below (T4.setTop (mkF m 136 #[.val (.ref o0), .val (.ref o1), .val (.long q2), .second, .val (.long (((0 : Int64) + q2) - (0 : Int64))), .second, .unset, .unset, .unset, .unset] [])) _
      refine XS.aloadN X4.here hx rfl (hb hby d5_136) rfl rfl ?_
      show Steps p.tables e below (T4.setTop (mkF m 137 #[.val (.ref o0), .val (.ref o1), .val (.long q2), .second, .val (.long (((0 : Int64) + q2) - (0 : Int64))), .second, .unset, .unset, .unset, .unset] [(.ref o1)])) _
      refine XS.dup X4.here hx rfl (hb hby d5_137) rfl rfl ?_
      show Steps p.tables e below (T4.setTop (mkF m 138 #[.val (.ref o0), .val (.ref o1), .val (.long q2), .second, .val (.long (((0 : Int64) + q2) - (0 : Int64))), .second, .unset, .unset, .unset, .unset] [(.ref o1), (.ref o1)])) _
      refine st42 _ ?_
      show Steps p.tables e below (T42.setTop (mkF m 141 #[.val (.ref o0), .val (.ref o1), .val (.long q2), .second, .val (.long (((0 : Int64) + q2) - (0 : Int64))), .second, .unset, .unset, .unset, .unset] [(.long (0 : Int64)), (.ref o1)])) _
      refine XS.lloadN X42.here hx rfl (hb hby d5_141) rfl ?_
      show Steps p.tables e below (T42.setTop (mkF m 142 #[.val (.ref o0), .val (.ref o1), .val (.long q2), .second, .val (.long (((0 : Int64) + q2) - (0 : Int64))), .second, .unset, .unset, .unset, .unset] [(.long q2), (.long (0 : Int64)), (.ref o1)])) _
      refine XS.ladd X42.here hx rfl (hb hby d5_142) rfl ?_
      show Steps p.tables e below (T42.setTop (mkF m 143 #[.val (.ref o0), .val (.ref o1), .val (.long q2), .second, .val (.long (((0 : Int64) + q2) - (0 : Int64))), .second, .unset, .unset, .unset, .unset] [(.long ((0 : Int64) + q2)), (.ref o1)])) _
      refine st43 _ ?_
      show Steps p.tables e below (T43.setTop (mkF m 146 #[.val (.ref o0), .val (.ref o1), .val (.long q2), .second, .val (.long (((0 : Int64) + q2) - (0 : Int64))), .second, .unset, .unset, .unset, .unset] [])) _
      refine XS.iconst X43.here hx rfl (hb hby d5_146) ?_
      show Steps p.tables e below (T43.setTop (mkF m 147 #[.val (.ref o0), .val (.ref o1), .val (.long q2), .second, .val (.long (((0 : Int64) + q2) - (0 : Int64))), .second, .unset, .unset, .unset, .unset] [(.int (1 : Int32))])) _
      exact retN X43 hx (t := .boolean) Bd.returns (by simp) (hb hby d5_147) hr
    · show Q5 Z o0 o1 q2 ms fr lg mo h0 n0 _ T43.heap _
      rw [e43]
      exact ⟨by show _ = some (Value.int (own_gr q2 ms fr lg)); rw [own_gr, if_neg hc59_6], N43, J43, (by rw [own_gf, if_neg hc59_6]; exact c44), c45, c46⟩
theorem d6_0 : decode prog_3_method_2_code 0 = .ok (.aload_n 0, 1) := by decide +kernel
theorem d6_1 : decode prog_3_method_2_code 1 = .ok (.getfield 1, 3) := by decide +kernel
theorem d6_4 : decode prog_3_method_2_code 4 = .ok (.dup, 1) := by decide +kernel
theorem d6_5 : decode prog_3_method_2_code 5 = .ok (.astore_n 3, 1) := by decide +kernel
theorem d6_6 : decode prog_3_method_2_code 6 = .ok (.monitorenter, 1) := by decide +kernel
theorem d6_7 : decode prog_3_method_2_code 7 = .ok (.aload_n 0, 1) := by decide +kernel
theorem d6_8 : decode prog_3_method_2_code 8 = .ok (.getfield 1, 3) := by decide +kernel
theorem d6_11 : decode prog_3_method_2_code 11 = .ok (.aload_n 0, 1) := by decide +kernel
theorem d6_12 : decode prog_3_method_2_code 12 = .ok (.lload_n 1, 1) := by decide +kernel
theorem d6_13 : decode prog_3_method_2_code 13 = .ok (.invokevirtual 17, 3) := by decide +kernel
theorem d6_16 : decode prog_3_method_2_code 16 = .ok (.aload_n 3, 1) := by decide +kernel
theorem d6_17 : decode prog_3_method_2_code 17 = .ok (.monitorexit, 1) := by decide +kernel
theorem d6_18 : decode prog_3_method_2_code 18 = .ok (.ireturn, 1) := by decide +kernel
theorem pd_1 : parseMethodDescriptor "(Lcom/example/leave_to_act/leavetoact/ByteBudget$Share;J)Z" = some ⟨[(.object "com/example/leave_to_act/leavetoact/ByteBudget$Share"), .long], some .boolean⟩ := by decide +kernel
theorem ef_6 (m : MethodId) (o0 : Addr) (q1 : Int64) : entryFrame m #[(.ref o0), (.long q1)] 5 = mkF m 0 #[.val (.ref o0), .val (.long q1), .second, .unset, .unset] [] := by first | (simp [entryFrame, mkF, argsToLocals, Value.category]; done) | rfl
def Q6 (Z : State) (o0 : Addr) (q1 : Int64) (bd : Addr) (ms : Int64) (fr : Int64) (lg : Int64) (h0 : Heap) (n0 : Nat) (v : Option Value) (h : Heap) (L : List Loc) : Prop := v = some (.int (own_gr q1 ms fr lg)) ∧ Fr n0 L ∧ Keep h0 h [bd, o0] ∧ Fld Z h bd "com/example/leave_to_act/leavetoact/ByteBudget" "free" "J" (.long (own_gf q1 ms fr lg)) ∧ Fld Z h bd "com/example/leave_to_act/leavetoact/ByteBudget" "largest" "J" (.long lg) ∧ own_Mo h bd {}
set_option maxRecDepth 65536 in
set_option maxHeartbeats 40000000 in
theorem rm6 (l : Launch) (Z : State) (a0 : Array Value) (hw : ∀ d ∈ tables_1, d.before a0 Z = true) (ws : List Jvm.Cond) (o0 : Addr) (q1 : Int64) (bd : Addr) (ms : Int64) (fr : Int64) (lg : Int64) (h0 : Heap) (n0 : Nat) (Z0 : n0 ≤ h0.size) (E_o0 : Exa Z h0 o0 "com/example/leave_to_act/leavetoact/ByteBudget$Share") (F_this_0_o0 : Fld Z h0 o0 "com/example/leave_to_act/leavetoact/ByteBudget$Share" "this$0" "Lcom/example/leave_to_act/leavetoact/ByteBudget;" (.ref bd)) (E_bd : Exa Z h0 bd "com/example/leave_to_act/leavetoact/ByteBudget") (F_largest_bd : Fld Z h0 bd "com/example/leave_to_act/leavetoact/ByteBudget" "largest" "J" (.long lg)) (F_free_bd : Fld Z h0 bd "com/example/leave_to_act/leavetoact/ByteBudget" "free" "J" (.long fr)) (F_most_o0 : Fld Z h0 o0 "com/example/leave_to_act/leavetoact/ByteBudget$Share" "most" "J" (.long ms)) (F_given_o0 : Fld Z h0 o0 "com/example/leave_to_act/leavetoact/ByteBudget$Share" "given" "J" (.long (0 : Int64))) (F_taken_o0 : Fld Z h0 o0 "com/example/leave_to_act/leavetoact/ByteBudget$Share" "taken" "J" (.long (0 : Int64))) (M_bd : own_Mo h0 bd {}) (g_bd : n0 ≤ bd) (g_o0 : n0 ≤ o0) (ne_bd_o0 : bd ≠ o0) (h0q : ¬ q1 < (0 : Int64)) (hqm : ¬ ms < ((0 : Int64) + q1)) :
    MetFree l (⟨"com/example/leave_to_act/leavetoact/ByteBudget$Share", "tryTake", "(J)Z"⟩ : MethodName) (head1 (Jvm.Cond.codeWith (⟨"com/example/leave_to_act/leavetoact/ByteBudget$Share", "tryTake", "(J)Z"⟩ : MethodName) prog_3_method_2_code 5 (some .boolean) [((7 : Nat), (18 : Nat), (19 : Nat), (0 : Nat)), ((19 : Nat), (23 : Nat), (19 : Nat), (0 : Nat))] :: ws) ({ frames := 1, cells := 0, slots := 0, locals := 23 } : Room)) (fun a U => a = #[(.ref o0), (.long q1)] ∧ Z.Warmed39 U.vm ∧ U.heap = h0) (fun _ _ _ _ _ => True) (fun _ U o U' => ∃ v L, o = .returned v ∧ Q6 Z o0 q1 bd ms fr lg h0 n0 v U'.heap L ∧ FrameEnd U o U' L ({ frames := 1, cells := 0, slots := 0, locals := 23 } : Room).cells ({ frames := 1, cells := 0, slots := 0, locals := 23 } : Room).slots) := by
  refine MetFree.of_bodySF (plainFor_of_name pn_com_example_leave_to_act_leavetoact_ByteBudget_Share) hisWith ?_
  intro p e s m args below meth c s₁ Bd hml0 hP hK
  obtain ⟨rfl, hZ, hh⟩ := hP
  have hx := Bd.exec
  have hby := Bd.bytes
  have hml : c.maxLocals = 5 := hml0
  have hown : s.vm.findClass "com/example/leave_to_act/leavetoact/ByteBudget$Share" = some m.cls := findClass_of_methodNamed Bd.named
  have hnm := (name_of_methodNamed Bd.named Bd.method).1
  have X0 : Stand p l e ({ frames := 1, cells := 0, slots := 0, locals := 23 } : Room) s m #[(.ref o0), (.long q1)] below meth c s₁ [] 0 0 := Stand.of_body Bd
  have e0 : s₁.heap = h0 := by rw [← hh, Bd.state]; rfl
  have N0 := Fr.nil n0
  have pre0 : ∀ t, Steps p.tables e below (s₁.setTop (mkF m 0 #[.val (.ref o0), .val (.long q1), .second, .unset, .unset] [])) t → Steps p.tables e below (s₁.setTop (entryFrame m #[(.ref o0), (.long q1)] 5)) t := fun t k => castTop (ef_6 m o0 q1) k
  obtain ⟨T1, X1, e1, st1⟩ := getF X0 hx hZ hown (host := "") (Or.inl (hw _ (List.mem_of_getElem? (i := 26) rfl))) Via.refl e0 F_this_0_o0 (g := (mkF m 1 #[.val (.ref o0), .val (.long q1), .second, .unset, .unset] [(.ref o0)])) rfl rfl (hb hby d6_1)
  obtain ⟨cm, hcm, hmo⟩ := M_bd
  have hsm : s.heap[bd]? = some cm := by rw [hh]; exact hcm
  have hsy : meth.isSynchronized = false := own_sync Bd.notSynchronized hnm (by decide)
  obtain ⟨X2, st2⟩ := X1.monitorenterAt hx (g := (mkF m 6 #[.val (.ref o0), .val (.long q1), .second, .val (.ref bd), .unset] [(.ref bd)])) rfl (by rw [hml]; rfl) (a := bd) (rest := []) rfl (hb hby d6_6) hsm (by rw [e1]; exact hcm) (Or.inl (by rw [hmo])) hsy (by show 2 * 1 + 0 ≤ _; decide)
  have hZ0 := hZ
  have hown0 := hown
  have hZ : Z.Warmed39 (s.setCell bd (cm.withEntry T1.cur)).vm := hZ0
  have hown : (s.setCell bd (cm.withEntry T1.cur)).vm.findClass "com/example/leave_to_act/leavetoact/ByteBudget$Share" = some m.cls := hown0
  have hent : cm.enterable T1.cur := Or.inl ⟨by rw [hmo], by rw [hmo]⟩
  obtain ⟨T2, hT2⟩ : ∃ z, z = T1.setCell bd (cm.withEntry T1.cur) := ⟨_, rfl⟩
  rw [← hT2] at X2 st2
  obtain ⟨h2, eh2⟩ : ∃ z, z = h0.setIfInBounds bd { cm with monitor := own_held T1.cur } := ⟨_, rfl⟩
  have e2 : T2.heap = h2 := by rw [hT2, eh2, ← own_entry hmo, ← e1]; rfl
  have Mn2 : Mon h0 h2 := eh2 ▸ mon_set hcm _
  have Mo2 : own_Mo h2 bd (own_held T1.cur) := eh2 ▸ own_set_at _ hcm
  have Km2 : Keep h0 h2 [bd] := eh2 ▸ own_keep_mon _ hcm
  have J2 : Keep h0 h2 [bd, o0] := (Keep.refl h0 [bd, o0]).trans Km2 (allS (Or.inl (List.mem_of_getElem? (i := 0) rfl)) all0)
  have c3 : Fld Z h2 o0 "com/example/leave_to_act/leavetoact/ByteBudget$Share" "this$0" "Lcom/example/leave_to_act/leavetoact/ByteBudget;" (.ref bd) := (F_this_0_o0.mon Mn2)
  obtain ⟨T4, X4, e4, st4⟩ := getF X2 hx hZ hown (host := "") (Or.inl (hw _ (List.mem_of_getElem? (i := 26) rfl))) Via.refl e2 c3 (g := ({ method := m, pc := 8, locals := #[.val (.ref o0), .val (.long q1), .second, .val (.ref bd), .unset], stack := [(.ref o0)], locked := none, entered := [bd], monitorRoom := 1 } : JFrame)) rfl rfl (hb hby d6_8)
  have c5 : Exa Z h2 bd "com/example/leave_to_act/leavetoact/ByteBudget" := (E_bd.mon Mn2)
  have c6 : Exa Z h2 o0 "com/example/leave_to_act/leavetoact/ByteBudget$Share" := (E_o0.mon Mn2)
  have c7 : Fld Z h2 bd "com/example/leave_to_act/leavetoact/ByteBudget" "largest" "J" (.long lg) := (F_largest_bd.mon Mn2)
  have c8 : Fld Z h2 bd "com/example/leave_to_act/leavetoact/ByteBudget" "free" "J" (.long fr) := (F_free_bd.mon Mn2)
  have c9 : Fld Z h2 o0 "com/example/leave_to_act/leavetoact/ByteBudget$Share" "most" "J" (.long ms) := (F_most_o0.mon Mn2)
  have c10 : Fld Z h2 o0 "com/example/leave_to_act/leavetoact/ByteBudget$Share" "given" "J" (.long (0 : Int64)) := (F_given_o0.mon Mn2)
  have c11 : Fld Z h2 o0 "com/example/leave_to_act/leavetoact/ByteBudget$Share" "taken" "J" (.long (0 : Int64)) := (F_taken_o0.mon Mn2)
  have z12 : n0 ≤ h2.size := (Nat.le_trans Z0 (Nat.le_of_eq Mn2.size.symm))
  obtain ⟨cq13, qh13, qh13'⟩ := c5.cell
  -- pc 13: ByteBudget.give by rm5
  obtain ⟨_, _, ⟨T13, L13, k13, n13⟩, -, X13, ⟨Lc13, hQ13, l13, y13, z13'⟩, st13⟩ := own_privateBackN X4 hx (y := (⟨"com/example/leave_to_act/leavetoact/ByteBudget", "give", "(Lcom/example/leave_to_act/leavetoact/ByteBudget$Share;J)Z"⟩ : MethodName)) hown (own_mvMN hZ (hw _ (List.mem_of_getElem? (i := 36) rfl))) (mvT hZ (hw _ (List.mem_of_getElem? (i := 37) rfl))) (own_selP hZ (hw _ (List.mem_of_getElem? (i := 3) rfl)) (hw _ (List.mem_of_getElem? (i := 38) rfl)) (hw _ (List.mem_of_getElem? (i := 37) rfl)) (by decide)) (Cond.privateMethod_at (mvP hZ (hw _ (List.mem_of_getElem? (i := 38) rfl)) (args := #[]))) (mvT hZ (hw _ (List.mem_of_getElem? (i := 39) rfl))) (by decide) (backOf (W := 2) (rm5 l Z a0 hw [] bd o0 q1 ms fr lg (own_held T1.cur) h2 n0 z12 c5 c6 c7 c8 c9 c10 c11 Mo2 g_bd g_o0 ne_bd_o0 h0q hqm) hZ (hw _ (List.mem_of_getElem? (i := 39) rfl)) (hw _ (List.mem_of_getElem? (i := 4) rfl)) (by decide) (by decide)) (g := ({ method := m, pc := 13, locals := #[.val (.ref o0), .val (.long q1), .second, .val (.ref bd), .unset], stack := [(.long q1), (.ref o0), (.ref bd)], locked := none, entered := [bd], monitorRoom := 1 } : JFrame)) rfl (by rw [hml]; rfl) (Steps.refl _) (a := bd) (by rw [e4]; exact qh13) qh13' (argsL := [(.ref o0), (.long q1)]) (rest := []) (lenOf pd_1 rfl) rfl (by show 2 * 1 + _ ≤ _; exact Nat.le_of_eq rfl) (hb hby d6_13) (fun _ _ => ⟨rfl, e4, (by decide : 0 + 0 ≤ _), (by decide : 0 + 0 ≤ _)⟩)
  dsimp only [Pt.U, Pt.locs, Pt.cells, Pt.slots] at X13 l13 y13 z13' st13 hQ13
  subst l13 y13 z13'
  obtain ⟨rfl, N13q, K13, r0_13, r1_13, r2_13⟩ := hQ13
  have N13 := Fr.app N0 N13q
  have J13 : Keep h0 T13.heap [bd, o0] := J2.trans K13 (allS (Or.inl (List.mem_of_getElem? (i := 0) rfl)) (allS (Or.inl (List.mem_of_getElem? (i := 1) rfl)) all0))
  obtain ⟨cx, hcx, hmx⟩ := r2_13
  have hcur : T13.cur = T1.cur := X13.cur_eq.trans X1.cur_eq.symm
  obtain ⟨X14, st14⟩ := X13.monitorexitAt hx (g := ({ method := m, pc := 17, locals := #[.val (.ref o0), .val (.long q1), .second, .val (.ref bd), .unset], stack := [(.ref bd), (.int (own_gr q1 ms fr lg))], locked := none, entered := [bd], monitorRoom := 1 } : JFrame)) rfl (rest := [(.int (own_gr q1 ms fr lg))]) (more := []) rfl (hb hby d6_17) hsm hent (by exact hcx) (by rw [hmx, hcur]; rfl) rfl
  have hZ := hZ0
  have hown := hown0
  rw [own_left hmx] at X14 st14
  obtain ⟨T14, hT14⟩ : ∃ z, z = T13.setCell bd { cx with monitor := {} } := ⟨_, rfl⟩
  rw [← hT14] at X14 st14
  obtain ⟨h14, eh14⟩ : ∃ z, z = T13.heap.setIfInBounds bd { cx with monitor := {} } := ⟨_, rfl⟩
  have e14 : T14.heap = h14 := by rw [hT14, eh14]; rfl
  have Mn14 : Mon T13.heap h14 := eh14 ▸ mon_set hcx _
  have Mo14 : own_Mo h14 bd {} := eh14 ▸ own_set_at _ hcx
  have Km14 : Keep T13.heap h14 [bd] := eh14 ▸ own_keep_mon _ hcx
  have J14 : Keep h0 h14 [bd, o0] := J13.trans Km14 (allS (Or.inl (List.mem_of_getElem? (i := 0) rfl)) all0)
  have c15 : Fld Z h14 bd "com/example/leave_to_act/leavetoact/ByteBudget" "free" "J" (.long (own_gf q1 ms fr lg)) := (r0_13.mon Mn14)
  have c16 : Fld Z h14 bd "com/example/leave_to_act/leavetoact/ByteBudget" "largest" "J" (.long lg) := (r1_13.mon Mn14)
  obtain ⟨fs, hr, hrun, hended, hW, hsame⟩ := X14.leave (v := some (.int (nar .boolean (own_gr q1 ms fr lg)))) (fun h => by rw [Bd.returns] at h; cases h)
  refine ⟨_, _, pre0 _ ?_, hrun, hended, _, _, rfl, ?_, ⟨_, rfl⟩, hW, hsame.mono (by decide) (by decide)⟩
  · show Steps p.tables e below (s₁.setTop (mkF m 0 #[.val (.ref o0), .val (.long q1), .second, .unset, .unset] [])) _
    refine XS.aloadN X0.here hx rfl (hb hby d6_0) rfl rfl ?_
    show Steps p.tables e below (s₁.setTop (mkF m 1 #[.val (.ref o0), .val (.long q1), .second, .unset, .unset] [(.ref o0)])) _
    refine st1 _ ?_
    show Steps p.tables e below (T1.setTop (mkF m 4 #[.val (.ref o0), .val (.long q1), .second, .unset, .unset] [(.ref bd)])) _
    refine XS.dup X1.here hx rfl (hb hby d6_4) rfl rfl ?_
    show Steps p.tables e below (T1.setTop (mkF m 5 #[.val (.ref o0), .val (.long q1), .second, .unset, .unset] [(.ref bd), (.ref bd)])) _
    refine XS.astoreN X1.here hx rfl (hb hby d6_5) rfl rfl (l' := #[.val (.ref o0), .val (.long q1), .second, .val (.ref bd), .unset]) rfl ?_
    show Steps p.tables e below (T1.setTop (mkF m 6 #[.val (.ref o0), .val (.long q1), .second, .val (.ref bd), .unset] [(.ref bd)])) _
    refine st2 _ ?_
    show Steps p.tables e below (T2.setTop ({ method := m, pc := 7, locals := #[.val (.ref o0), .val (.long q1), .second, .val (.ref bd), .unset], stack := [], locked := none, entered := [bd], monitorRoom := 1 } : JFrame)) _
    refine XS.aloadN X2.here hx rfl (hb hby d6_7) rfl rfl ?_
    show Steps p.tables e below (T2.setTop ({ method := m, pc := 8, locals := #[.val (.ref o0), .val (.long q1), .second, .val (.ref bd), .unset], stack := [(.ref o0)], locked := none, entered := [bd], monitorRoom := 1 } : JFrame)) _
    refine st4 _ ?_
    show Steps p.tables e below (T4.setTop ({ method := m, pc := 11, locals := #[.val (.ref o0), .val (.long q1), .second, .val (.ref bd), .unset], stack := [(.ref bd)], locked := none, entered := [bd], monitorRoom := 1 } : JFrame)) _
    refine XS.aloadN X4.here hx rfl (hb hby d6_11) rfl rfl ?_
    show Steps p.tables e below (T4.setTop ({ method := m, pc := 12, locals := #[.val (.ref o0), .val (.long q1), .second, .val (.ref bd), .unset], stack := [(.ref o0), (.ref bd)], locked := none, entered := [bd], monitorRoom := 1 } : JFrame)) _
    refine XS.lloadN X4.here hx rfl (hb hby d6_12) rfl ?_
    show Steps p.tables e below (T4.setTop ({ method := m, pc := 13, locals := #[.val (.ref o0), .val (.long q1), .second, .val (.ref bd), .unset], stack := [(.long q1), (.ref o0), (.ref bd)], locked := none, entered := [bd], monitorRoom := 1 } : JFrame)) _
    refine st13.trans ?_
    show Steps p.tables e below (T13.setTop ({ method := m, pc := 16, locals := #[.val (.ref o0), .val (.long q1), .second, .val (.ref bd), .unset], stack := [(.int (own_gr q1 ms fr lg))], locked := none, entered := [bd], monitorRoom := 1 } : JFrame)) _
    refine XS.aloadN X13.here hx rfl (hb hby d6_16) rfl rfl ?_
    show Steps p.tables e below (T13.setTop ({ method := m, pc := 17, locals := #[.val (.ref o0), .val (.long q1), .second, .val (.ref bd), .unset], stack := [(.ref bd), (.int (own_gr q1 ms fr lg))], locked := none, entered := [bd], monitorRoom := 1 } : JFrame)) _
    refine st14 _ ?_
    show Steps p.tables e below (T14.setTop ({ method := m, pc := 18, locals := #[.val (.ref o0), .val (.long q1), .second, .val (.ref bd), .unset], stack := [(.int (own_gr q1 ms fr lg))], locked := none, entered := [], monitorRoom := 1 } : JFrame)) _
    exact own_retNg X14 hx (g := ({ method := m, pc := 18, locals := #[.val (.ref o0), .val (.long q1), .second, .val (.ref bd), .unset], stack := [(.int (own_gr q1 ms fr lg))], locked := none, entered := [], monitorRoom := 1 } : JFrame)) (z := (own_gr q1 ms fr lg)) (rest := []) rfl rfl rfl rfl Bd.returns (hb hby d6_18) hr
  · show Q6 Z o0 q1 bd ms fr lg h0 n0 _ T14.heap _
    rw [e14]
    exact ⟨by rw [own_ngr], N13, J14, c15, c16, Mo14⟩
theorem pn_com_example_leave_to_act_leavetoact_ByteBudgetOpenPinLaw : plainName "com/example/leave_to_act/leavetoact/ByteBudgetOpenPinLaw" = true := by first | (simp [plainName, overriddenIn]; done) | decide +kernel
theorem pd_2 : parseMethodDescriptor "(JJ)V" = some ⟨[.long, .long], none⟩ := by decide +kernel
theorem pd_3 : parseMethodDescriptor "(J)Lcom/example/leave_to_act/leavetoact/ByteBudget$Share;" = some ⟨[.long], some (.object "com/example/leave_to_act/leavetoact/ByteBudget$Share")⟩ := by decide +kernel
theorem pd_4 : parseMethodDescriptor "(J)Z" = some ⟨[.long], some .boolean⟩ := by decide +kernel
theorem ef_0 (m : MethodId) (q0 : Int64) (q1 : Int64) (q2 : Int64) (q3 : Int64) (q4 : Int64) : entryFrame m #[(.long q0), (.long q1), (.long q2), (.long q3), (.long q4)] maxLocals = mkF m 0 #[.val (.long q0), .second, .val (.long q1), .second, .val (.long q2), .second, .val (.long q3), .second, .val (.long q4), .second, .unset, .unset, .unset, .unset, .unset, .unset, .unset, .unset, .unset, .unset, .unset, .unset, .unset, .unset, .unset, .unset, .unset, .unset, .unset, .unset] [] := by first | (simp [entryFrame, mkF, argsToLocals, Value.category, maxLocals]; done) | rfl
def Q0 (Z : State) (q0 : Int64) (q1 : Int64) (q2 : Int64) (q3 : Int64) (q4 : Int64) (h0 : Heap) (n0 : Nat) (v : Option Value) (h : Heap) (L : List Loc) : Prop := v = some (.int (1 : Int32)) ∧ Fr n0 L
set_option maxRecDepth 65536 in
set_option maxHeartbeats 40000000 in
theorem rm0 (l : Launch) (Z : State) (a0 : Array Value) (hw : ∀ d ∈ tables_1, d.before a0 Z = true) (ws : List Jvm.Cond) (q0 : Int64) (q1 : Int64) (q2 : Int64) (q3 : Int64) (q4 : Int64) (h0 : Heap) (n0 : Nat) (Z0 : n0 ≤ h0.size) :
    MetFree l x (head1 (Jvm.Cond.code x code maxLocals ret :: ws) room_1) (fun a U => a = #[(.long q0), (.long q1), (.long q2), (.long q3), (.long q4)] ∧ Z.Warmed39 U.vm ∧ U.heap = h0) (fun _ _ _ _ _ => True) (fun _ U o U' => ∃ v L, o = .returned v ∧ Q0 Z q0 q1 q2 q3 q4 h0 n0 v U'.heap L ∧ FrameEnd U o U' L room_1.cells room_1.slots) := by
  refine MetFree.of_bodySF (plainFor_of_name pn_com_example_leave_to_act_leavetoact_ByteBudgetOpenPinLaw) hisR ?_
  intro p e s m args below meth c s₁ Bd hml0 hP hK
  obtain ⟨rfl, hZ, hh⟩ := hP
  have hx := Bd.exec
  have hby := Bd.bytes
  have hml : c.maxLocals = 30 := hml0
  have hown : s.vm.findClass "com/example/leave_to_act/leavetoact/ByteBudgetOpenPinLaw" = some m.cls := findClass_of_methodNamed Bd.named
  have hnm := (name_of_methodNamed Bd.named Bd.method).1
  have X0 : Stand p l e room_1 s m #[(.long q0), (.long q1), (.long q2), (.long q3), (.long q4)] below meth c s₁ [] 0 0 := Stand.of_body Bd
  have e0 : s₁.heap = h0 := by rw [← hh, Bd.state]; rfl
  have N0 := Fr.nil n0
  have pre0 : ∀ t, Steps p.tables e below (s₁.setTop (mkF m 0 #[.val (.long q0), .second, .val (.long q1), .second, .val (.long q2), .second, .val (.long q3), .second, .val (.long q4), .second, .unset, .unset, .unset, .unset, .unset, .unset, .unset, .unset, .unset, .unset, .unset, .unset, .unset, .unset, .unset, .unset, .unset, .unset, .unset, .unset] [])) t → Steps p.tables e below (s₁.setTop (entryFrame m #[(.long q0), (.long q1), (.long q2), (.long q3), (.long q4)] maxLocals)) t := fun t k => castTop (ef_0 m q0 q1 q2 q3 q4) k
  obtain ⟨lg, e_lg⟩ : ∃ z : Int64, z = (q0 &&& (4611686018427387903 : Int64)) := ⟨_, rfl⟩
  have hlg := own_lg e_lg
  obtain ⟨sz, e_sz⟩ : ∃ z : Int64, z = (lg + (q1 &&& (4611686018427387903 : Int64))) := ⟨_, rfl⟩
  have hsz := own_sz hlg e_sz
  obtain ⟨mm, e_mm⟩ : ∃ z : Int64, z = ((q2 &&& (9223372036854775807 : Int64)) - ((q2 &&& (9223372036854775807 : Int64)) / (lg + (1 : Int64))) * (lg + (1 : Int64))) := ⟨_, rfl⟩
  have hm := own_rm ⟨hlg.1, by omega⟩ e_mm
  obtain ⟨kk, e_kk⟩ : ∃ z : Int64, z = ((q3 &&& (9223372036854775807 : Int64)) - ((q3 &&& (9223372036854775807 : Int64)) / (mm + (1 : Int64))) * (mm + (1 : Int64))) := ⟨_, rfl⟩
  have hk := own_rm ⟨hm.1, by omega⟩ e_kk
  obtain ⟨mb, e_mb⟩ : ∃ z : Int64, z = ((q4 &&& (9223372036854775807 : Int64)) - ((q4 &&& (9223372036854775807 : Int64)) / (lg + (1 : Int64))) * (lg + (1 : Int64))) := ⟨_, rfl⟩
  have hmb := own_rm ⟨hlg.1, by omega⟩ e_mb
  obtain ⟨tv, e_tv⟩ : ∃ z : Int64, z = (if (0 : Int64) < mb then (1 : Int64) else (0 : Int64)) := ⟨_, rfl⟩
  have pre2 : ∀ t, Steps p.tables e below (s₁.setTop (mkF m 68 #[.val (.long q0), .second, .val (.long q1), .second, .val (.long q2), .second, .val (.long q3), .second, .val (.long q4), .second, .val (.long lg), .second, .val (.long sz), .second, .val (.long mm), .second, .val (.long kk), .second, .val (.long mb), .second, .unset, .unset, .unset, .unset, .unset, .unset, .unset, .unset, .unset, .unset] [(.long tv)])) t → Steps p.tables e below (s₁.setTop (entryFrame m #[(.long q0), (.long q1), (.long q2), (.long q3), (.long q4)] maxLocals)) t := by
    intro t kt
    refine pre0 _ ?_
    show Steps p.tables e below (s₁.setTop (mkF m 0 #[.val (.long q0), .second, .val (.long q1), .second, .val (.long q2), .second, .val (.long q3), .second, .val (.long q4), .second, .unset, .unset, .unset, .unset, .unset, .unset, .unset, .unset, .unset, .unset, .unset, .unset, .unset, .unset, .unset, .unset, .unset, .unset, .unset, .unset] [])) _
    refine XS.lloadN X0.here hx rfl (hb hby at_0) rfl ?_
    show Steps p.tables e below (s₁.setTop (mkF m 1 #[.val (.long q0), .second, .val (.long q1), .second, .val (.long q2), .second, .val (.long q3), .second, .val (.long q4), .second, .unset, .unset, .unset, .unset, .unset, .unset, .unset, .unset, .unset, .unset, .unset, .unset, .unset, .unset, .unset, .unset, .unset, .unset, .unset, .unset] [(.long q0)])) _
    refine X0.ldc2Long hx hown (mvT hZ (hw _ (List.mem_of_getElem? (i := 0) rfl))) (g := (mkF m 1 #[.val (.long q0), .second, .val (.long q1), .second, .val (.long q2), .second, .val (.long q3), .second, .val (.long q4), .second, .unset, .unset, .unset, .unset, .unset, .unset, .unset, .unset, .unset, .unset, .unset, .unset, .unset, .unset, .unset, .unset, .unset, .unset, .unset, .unset] [(.long q0)])) rfl (hb hby at_1) _ ?_
    show Steps p.tables e below (s₁.setTop (mkF m 4 #[.val (.long q0), .second, .val (.long q1), .second, .val (.long q2), .second, .val (.long q3), .second, .val (.long q4), .second, .unset, .unset, .unset, .unset, .unset, .unset, .unset, .unset, .unset, .unset, .unset, .unset, .unset, .unset, .unset, .unset, .unset, .unset, .unset, .unset] [(.long (4611686018427387903 : Int64)), (.long q0)])) _
    refine XS.land X0.here hx rfl (hb hby at_4) rfl ?_
    show Steps p.tables e below (s₁.setTop (mkF m 5 #[.val (.long q0), .second, .val (.long q1), .second, .val (.long q2), .second, .val (.long q3), .second, .val (.long q4), .second, .unset, .unset, .unset, .unset, .unset, .unset, .unset, .unset, .unset, .unset, .unset, .unset, .unset, .unset, .unset, .unset, .unset, .unset, .unset, .unset] [(.long (q0 &&& (4611686018427387903 : Int64)))])) _
    rw [← e_lg]
    show Steps p.tables e below (s₁.setTop (mkF m 5 #[.val (.long q0), .second, .val (.long q1), .second, .val (.long q2), .second, .val (.long q3), .second, .val (.long q4), .second, .unset, .unset, .unset, .unset, .unset, .unset, .unset, .unset, .unset, .unset, .unset, .unset, .unset, .unset, .unset, .unset, .unset, .unset, .unset, .unset] [(.long lg)])) _
    refine XS.lstore X0.here hx rfl (hb hby at_5) rfl (l' := #[.val (.long q0), .second, .val (.long q1), .second, .val (.long q2), .second, .val (.long q3), .second, .val (.long q4), .second, .val (.long lg), .second, .unset, .unset, .unset, .unset, .unset, .unset, .unset, .unset, .unset, .unset, .unset, .unset, .unset, .unset, .unset, .unset, .unset, .unset]) rfl ?_
    show Steps p.tables e below (s₁.setTop (mkF m 7 #[.val (.long q0), .second, .val (.long q1), .second, .val (.long q2), .second, .val (.long q3), .second, .val (.long q4), .second, .val (.long lg), .second, .unset, .unset, .unset, .unset, .unset, .unset, .unset, .unset, .unset, .unset, .unset, .unset, .unset, .unset, .unset, .unset, .unset, .unset] [])) _
    refine XS.lload X0.here hx rfl (hb hby at_7) rfl ?_
    show Steps p.tables e below (s₁.setTop (mkF m 9 #[.val (.long q0), .second, .val (.long q1), .second, .val (.long q2), .second, .val (.long q3), .second, .val (.long q4), .second, .val (.long lg), .second, .unset, .unset, .unset, .unset, .unset, .unset, .unset, .unset, .unset, .unset, .unset, .unset, .unset, .unset, .unset, .unset, .unset, .unset] [(.long lg)])) _
    refine XS.lloadN X0.here hx rfl (hb hby at_9) rfl ?_
    show Steps p.tables e below (s₁.setTop (mkF m 10 #[.val (.long q0), .second, .val (.long q1), .second, .val (.long q2), .second, .val (.long q3), .second, .val (.long q4), .second, .val (.long lg), .second, .unset, .unset, .unset, .unset, .unset, .unset, .unset, .unset, .unset, .unset, .unset, .unset, .unset, .unset, .unset, .unset, .unset, .unset] [(.long q1), (.long lg)])) _
    refine X0.ldc2Long hx hown (mvT hZ (hw _ (List.mem_of_getElem? (i := 0) rfl))) (g := (mkF m 10 #[.val (.long q0), .second, .val (.long q1), .second, .val (.long q2), .second, .val (.long q3), .second, .val (.long q4), .second, .val (.long lg), .second, .unset, .unset, .unset, .unset, .unset, .unset, .unset, .unset, .unset, .unset, .unset, .unset, .unset, .unset, .unset, .unset, .unset, .unset] [(.long q1), (.long lg)])) rfl (hb hby at_10) _ ?_
    show Steps p.tables e below (s₁.setTop (mkF m 13 #[.val (.long q0), .second, .val (.long q1), .second, .val (.long q2), .second, .val (.long q3), .second, .val (.long q4), .second, .val (.long lg), .second, .unset, .unset, .unset, .unset, .unset, .unset, .unset, .unset, .unset, .unset, .unset, .unset, .unset, .unset, .unset, .unset, .unset, .unset] [(.long (4611686018427387903 : Int64)), (.long q1), (.long lg)])) _
    refine XS.land X0.here hx rfl (hb hby at_13) rfl ?_
    show Steps p.tables e below (s₁.setTop (mkF m 14 #[.val (.long q0), .second, .val (.long q1), .second, .val (.long q2), .second, .val (.long q3), .second, .val (.long q4), .second, .val (.long lg), .second, .unset, .unset, .unset, .unset, .unset, .unset, .unset, .unset, .unset, .unset, .unset, .unset, .unset, .unset, .unset, .unset, .unset, .unset] [(.long (q1 &&& (4611686018427387903 : Int64))), (.long lg)])) _
    refine XS.ladd X0.here hx rfl (hb hby at_14) rfl ?_
    show Steps p.tables e below (s₁.setTop (mkF m 15 #[.val (.long q0), .second, .val (.long q1), .second, .val (.long q2), .second, .val (.long q3), .second, .val (.long q4), .second, .val (.long lg), .second, .unset, .unset, .unset, .unset, .unset, .unset, .unset, .unset, .unset, .unset, .unset, .unset, .unset, .unset, .unset, .unset, .unset, .unset] [(.long (lg + (q1 &&& (4611686018427387903 : Int64))))])) _
    rw [← e_sz]
    show Steps p.tables e below (s₁.setTop (mkF m 15 #[.val (.long q0), .second, .val (.long q1), .second, .val (.long q2), .second, .val (.long q3), .second, .val (.long q4), .second, .val (.long lg), .second, .unset, .unset, .unset, .unset, .unset, .unset, .unset, .unset, .unset, .unset, .unset, .unset, .unset, .unset, .unset, .unset, .unset, .unset] [(.long sz)])) _
    refine XS.lstore X0.here hx rfl (hb hby at_15) rfl (l' := #[.val (.long q0), .second, .val (.long q1), .second, .val (.long q2), .second, .val (.long q3), .second, .val (.long q4), .second, .val (.long lg), .second, .val (.long sz), .second, .unset, .unset, .unset, .unset, .unset, .unset, .unset, .unset, .unset, .unset, .unset, .unset, .unset, .unset, .unset, .unset]) rfl ?_
    show Steps p.tables e below (s₁.setTop (mkF m 17 #[.val (.long q0), .second, .val (.long q1), .second, .val (.long q2), .second, .val (.long q3), .second, .val (.long q4), .second, .val (.long lg), .second, .val (.long sz), .second, .unset, .unset, .unset, .unset, .unset, .unset, .unset, .unset, .unset, .unset, .unset, .unset, .unset, .unset, .unset, .unset] [])) _
    refine XS.lload X0.here hx rfl (hb hby at_17) rfl ?_
    show Steps p.tables e below (s₁.setTop (mkF m 19 #[.val (.long q0), .second, .val (.long q1), .second, .val (.long q2), .second, .val (.long q3), .second, .val (.long q4), .second, .val (.long lg), .second, .val (.long sz), .second, .unset, .unset, .unset, .unset, .unset, .unset, .unset, .unset, .unset, .unset, .unset, .unset, .unset, .unset, .unset, .unset] [(.long q2)])) _
    refine X0.ldc2Long hx hown (mvT hZ (hw _ (List.mem_of_getElem? (i := 1) rfl))) (g := (mkF m 19 #[.val (.long q0), .second, .val (.long q1), .second, .val (.long q2), .second, .val (.long q3), .second, .val (.long q4), .second, .val (.long lg), .second, .val (.long sz), .second, .unset, .unset, .unset, .unset, .unset, .unset, .unset, .unset, .unset, .unset, .unset, .unset, .unset, .unset, .unset, .unset] [(.long q2)])) rfl (hb hby at_19) _ ?_
    show Steps p.tables e below (s₁.setTop (mkF m 22 #[.val (.long q0), .second, .val (.long q1), .second, .val (.long q2), .second, .val (.long q3), .second, .val (.long q4), .second, .val (.long lg), .second, .val (.long sz), .second, .unset, .unset, .unset, .unset, .unset, .unset, .unset, .unset, .unset, .unset, .unset, .unset, .unset, .unset, .unset, .unset] [(.long (9223372036854775807 : Int64)), (.long q2)])) _
    refine XS.land X0.here hx rfl (hb hby at_22) rfl ?_
    show Steps p.tables e below (s₁.setTop (mkF m 23 #[.val (.long q0), .second, .val (.long q1), .second, .val (.long q2), .second, .val (.long q3), .second, .val (.long q4), .second, .val (.long lg), .second, .val (.long sz), .second, .unset, .unset, .unset, .unset, .unset, .unset, .unset, .unset, .unset, .unset, .unset, .unset, .unset, .unset, .unset, .unset] [(.long (q2 &&& (9223372036854775807 : Int64)))])) _
    refine XS.lload X0.here hx rfl (hb hby at_23) rfl ?_
    show Steps p.tables e below (s₁.setTop (mkF m 25 #[.val (.long q0), .second, .val (.long q1), .second, .val (.long q2), .second, .val (.long q3), .second, .val (.long q4), .second, .val (.long lg), .second, .val (.long sz), .second, .unset, .unset, .unset, .unset, .unset, .unset, .unset, .unset, .unset, .unset, .unset, .unset, .unset, .unset, .unset, .unset] [(.long lg), (.long (q2 &&& (9223372036854775807 : Int64)))])) _
    refine XS.lconst X0.here hx rfl (hb hby at_25) ?_
    show Steps p.tables e below (s₁.setTop (mkF m 26 #[.val (.long q0), .second, .val (.long q1), .second, .val (.long q2), .second, .val (.long q3), .second, .val (.long q4), .second, .val (.long lg), .second, .val (.long sz), .second, .unset, .unset, .unset, .unset, .unset, .unset, .unset, .unset, .unset, .unset, .unset, .unset, .unset, .unset, .unset, .unset] [(.long (1 : Int64)), (.long lg), (.long (q2 &&& (9223372036854775807 : Int64)))])) _
    refine XS.ladd X0.here hx rfl (hb hby at_26) rfl ?_
    show Steps p.tables e below (s₁.setTop (mkF m 27 #[.val (.long q0), .second, .val (.long q1), .second, .val (.long q2), .second, .val (.long q3), .second, .val (.long q4), .second, .val (.long lg), .second, .val (.long sz), .second, .unset, .unset, .unset, .unset, .unset, .unset, .unset, .unset, .unset, .unset, .unset, .unset, .unset, .unset, .unset, .unset] [(.long (lg + (1 : Int64))), (.long (q2 &&& (9223372036854775807 : Int64)))])) _
    refine XS.lrem X0.here hx rfl (hb hby at_27) rfl (own_nz ⟨hlg.1, by omega⟩) ?_
    show Steps p.tables e below (s₁.setTop (mkF m 28 #[.val (.long q0), .second, .val (.long q1), .second, .val (.long q2), .second, .val (.long q3), .second, .val (.long q4), .second, .val (.long lg), .second, .val (.long sz), .second, .unset, .unset, .unset, .unset, .unset, .unset, .unset, .unset, .unset, .unset, .unset, .unset, .unset, .unset, .unset, .unset] [(.long ((q2 &&& (9223372036854775807 : Int64)) - ((q2 &&& (9223372036854775807 : Int64)) / (lg + (1 : Int64))) * (lg + (1 : Int64))))])) _
    rw [← e_mm]
    show Steps p.tables e below (s₁.setTop (mkF m 28 #[.val (.long q0), .second, .val (.long q1), .second, .val (.long q2), .second, .val (.long q3), .second, .val (.long q4), .second, .val (.long lg), .second, .val (.long sz), .second, .unset, .unset, .unset, .unset, .unset, .unset, .unset, .unset, .unset, .unset, .unset, .unset, .unset, .unset, .unset, .unset] [(.long mm)])) _
    refine XS.lstore X0.here hx rfl (hb hby at_28) rfl (l' := #[.val (.long q0), .second, .val (.long q1), .second, .val (.long q2), .second, .val (.long q3), .second, .val (.long q4), .second, .val (.long lg), .second, .val (.long sz), .second, .val (.long mm), .second, .unset, .unset, .unset, .unset, .unset, .unset, .unset, .unset, .unset, .unset, .unset, .unset, .unset, .unset]) rfl ?_
    show Steps p.tables e below (s₁.setTop (mkF m 30 #[.val (.long q0), .second, .val (.long q1), .second, .val (.long q2), .second, .val (.long q3), .second, .val (.long q4), .second, .val (.long lg), .second, .val (.long sz), .second, .val (.long mm), .second, .unset, .unset, .unset, .unset, .unset, .unset, .unset, .unset, .unset, .unset, .unset, .unset, .unset, .unset] [])) _
    refine XS.lload X0.here hx rfl (hb hby at_30) rfl ?_
    show Steps p.tables e below (s₁.setTop (mkF m 32 #[.val (.long q0), .second, .val (.long q1), .second, .val (.long q2), .second, .val (.long q3), .second, .val (.long q4), .second, .val (.long lg), .second, .val (.long sz), .second, .val (.long mm), .second, .unset, .unset, .unset, .unset, .unset, .unset, .unset, .unset, .unset, .unset, .unset, .unset, .unset, .unset] [(.long q3)])) _
    refine X0.ldc2Long hx hown (mvT hZ (hw _ (List.mem_of_getElem? (i := 1) rfl))) (g := (mkF m 32 #[.val (.long q0), .second, .val (.long q1), .second, .val (.long q2), .second, .val (.long q3), .second, .val (.long q4), .second, .val (.long lg), .second, .val (.long sz), .second, .val (.long mm), .second, .unset, .unset, .unset, .unset, .unset, .unset, .unset, .unset, .unset, .unset, .unset, .unset, .unset, .unset] [(.long q3)])) rfl (hb hby at_32) _ ?_
    show Steps p.tables e below (s₁.setTop (mkF m 35 #[.val (.long q0), .second, .val (.long q1), .second, .val (.long q2), .second, .val (.long q3), .second, .val (.long q4), .second, .val (.long lg), .second, .val (.long sz), .second, .val (.long mm), .second, .unset, .unset, .unset, .unset, .unset, .unset, .unset, .unset, .unset, .unset, .unset, .unset, .unset, .unset] [(.long (9223372036854775807 : Int64)), (.long q3)])) _
    refine XS.land X0.here hx rfl (hb hby at_35) rfl ?_
    show Steps p.tables e below (s₁.setTop (mkF m 36 #[.val (.long q0), .second, .val (.long q1), .second, .val (.long q2), .second, .val (.long q3), .second, .val (.long q4), .second, .val (.long lg), .second, .val (.long sz), .second, .val (.long mm), .second, .unset, .unset, .unset, .unset, .unset, .unset, .unset, .unset, .unset, .unset, .unset, .unset, .unset, .unset] [(.long (q3 &&& (9223372036854775807 : Int64)))])) _
    refine XS.lload X0.here hx rfl (hb hby at_36) rfl ?_
    show Steps p.tables e below (s₁.setTop (mkF m 38 #[.val (.long q0), .second, .val (.long q1), .second, .val (.long q2), .second, .val (.long q3), .second, .val (.long q4), .second, .val (.long lg), .second, .val (.long sz), .second, .val (.long mm), .second, .unset, .unset, .unset, .unset, .unset, .unset, .unset, .unset, .unset, .unset, .unset, .unset, .unset, .unset] [(.long mm), (.long (q3 &&& (9223372036854775807 : Int64)))])) _
    refine XS.lconst X0.here hx rfl (hb hby at_38) ?_
    show Steps p.tables e below (s₁.setTop (mkF m 39 #[.val (.long q0), .second, .val (.long q1), .second, .val (.long q2), .second, .val (.long q3), .second, .val (.long q4), .second, .val (.long lg), .second, .val (.long sz), .second, .val (.long mm), .second, .unset, .unset, .unset, .unset, .unset, .unset, .unset, .unset, .unset, .unset, .unset, .unset, .unset, .unset] [(.long (1 : Int64)), (.long mm), (.long (q3 &&& (9223372036854775807 : Int64)))])) _
    refine XS.ladd X0.here hx rfl (hb hby at_39) rfl ?_
    show Steps p.tables e below (s₁.setTop (mkF m 40 #[.val (.long q0), .second, .val (.long q1), .second, .val (.long q2), .second, .val (.long q3), .second, .val (.long q4), .second, .val (.long lg), .second, .val (.long sz), .second, .val (.long mm), .second, .unset, .unset, .unset, .unset, .unset, .unset, .unset, .unset, .unset, .unset, .unset, .unset, .unset, .unset] [(.long (mm + (1 : Int64))), (.long (q3 &&& (9223372036854775807 : Int64)))])) _
    refine XS.lrem X0.here hx rfl (hb hby at_40) rfl (own_nz ⟨hm.1, by omega⟩) ?_
    show Steps p.tables e below (s₁.setTop (mkF m 41 #[.val (.long q0), .second, .val (.long q1), .second, .val (.long q2), .second, .val (.long q3), .second, .val (.long q4), .second, .val (.long lg), .second, .val (.long sz), .second, .val (.long mm), .second, .unset, .unset, .unset, .unset, .unset, .unset, .unset, .unset, .unset, .unset, .unset, .unset, .unset, .unset] [(.long ((q3 &&& (9223372036854775807 : Int64)) - ((q3 &&& (9223372036854775807 : Int64)) / (mm + (1 : Int64))) * (mm + (1 : Int64))))])) _
    rw [← e_kk]
    show Steps p.tables e below (s₁.setTop (mkF m 41 #[.val (.long q0), .second, .val (.long q1), .second, .val (.long q2), .second, .val (.long q3), .second, .val (.long q4), .second, .val (.long lg), .second, .val (.long sz), .second, .val (.long mm), .second, .unset, .unset, .unset, .unset, .unset, .unset, .unset, .unset, .unset, .unset, .unset, .unset, .unset, .unset] [(.long kk)])) _
    refine XS.lstore X0.here hx rfl (hb hby at_41) rfl (l' := #[.val (.long q0), .second, .val (.long q1), .second, .val (.long q2), .second, .val (.long q3), .second, .val (.long q4), .second, .val (.long lg), .second, .val (.long sz), .second, .val (.long mm), .second, .val (.long kk), .second, .unset, .unset, .unset, .unset, .unset, .unset, .unset, .unset, .unset, .unset, .unset, .unset]) rfl ?_
    show Steps p.tables e below (s₁.setTop (mkF m 43 #[.val (.long q0), .second, .val (.long q1), .second, .val (.long q2), .second, .val (.long q3), .second, .val (.long q4), .second, .val (.long lg), .second, .val (.long sz), .second, .val (.long mm), .second, .val (.long kk), .second, .unset, .unset, .unset, .unset, .unset, .unset, .unset, .unset, .unset, .unset, .unset, .unset] [])) _
    refine XS.lload X0.here hx rfl (hb hby at_43) rfl ?_
    show Steps p.tables e below (s₁.setTop (mkF m 45 #[.val (.long q0), .second, .val (.long q1), .second, .val (.long q2), .second, .val (.long q3), .second, .val (.long q4), .second, .val (.long lg), .second, .val (.long sz), .second, .val (.long mm), .second, .val (.long kk), .second, .unset, .unset, .unset, .unset, .unset, .unset, .unset, .unset, .unset, .unset, .unset, .unset] [(.long q4)])) _
    refine X0.ldc2Long hx hown (mvT hZ (hw _ (List.mem_of_getElem? (i := 1) rfl))) (g := (mkF m 45 #[.val (.long q0), .second, .val (.long q1), .second, .val (.long q2), .second, .val (.long q3), .second, .val (.long q4), .second, .val (.long lg), .second, .val (.long sz), .second, .val (.long mm), .second, .val (.long kk), .second, .unset, .unset, .unset, .unset, .unset, .unset, .unset, .unset, .unset, .unset, .unset, .unset] [(.long q4)])) rfl (hb hby at_45) _ ?_
    show Steps p.tables e below (s₁.setTop (mkF m 48 #[.val (.long q0), .second, .val (.long q1), .second, .val (.long q2), .second, .val (.long q3), .second, .val (.long q4), .second, .val (.long lg), .second, .val (.long sz), .second, .val (.long mm), .second, .val (.long kk), .second, .unset, .unset, .unset, .unset, .unset, .unset, .unset, .unset, .unset, .unset, .unset, .unset] [(.long (9223372036854775807 : Int64)), (.long q4)])) _
    refine XS.land X0.here hx rfl (hb hby at_48) rfl ?_
    show Steps p.tables e below (s₁.setTop (mkF m 49 #[.val (.long q0), .second, .val (.long q1), .second, .val (.long q2), .second, .val (.long q3), .second, .val (.long q4), .second, .val (.long lg), .second, .val (.long sz), .second, .val (.long mm), .second, .val (.long kk), .second, .unset, .unset, .unset, .unset, .unset, .unset, .unset, .unset, .unset, .unset, .unset, .unset] [(.long (q4 &&& (9223372036854775807 : Int64)))])) _
    refine XS.lload X0.here hx rfl (hb hby at_49) rfl ?_
    show Steps p.tables e below (s₁.setTop (mkF m 51 #[.val (.long q0), .second, .val (.long q1), .second, .val (.long q2), .second, .val (.long q3), .second, .val (.long q4), .second, .val (.long lg), .second, .val (.long sz), .second, .val (.long mm), .second, .val (.long kk), .second, .unset, .unset, .unset, .unset, .unset, .unset, .unset, .unset, .unset, .unset, .unset, .unset] [(.long lg), (.long (q4 &&& (9223372036854775807 : Int64)))])) _
    refine XS.lconst X0.here hx rfl (hb hby at_51) ?_
    show Steps p.tables e below (s₁.setTop (mkF m 52 #[.val (.long q0), .second, .val (.long q1), .second, .val (.long q2), .second, .val (.long q3), .second, .val (.long q4), .second, .val (.long lg), .second, .val (.long sz), .second, .val (.long mm), .second, .val (.long kk), .second, .unset, .unset, .unset, .unset, .unset, .unset, .unset, .unset, .unset, .unset, .unset, .unset] [(.long (1 : Int64)), (.long lg), (.long (q4 &&& (9223372036854775807 : Int64)))])) _
    refine XS.ladd X0.here hx rfl (hb hby at_52) rfl ?_
    show Steps p.tables e below (s₁.setTop (mkF m 53 #[.val (.long q0), .second, .val (.long q1), .second, .val (.long q2), .second, .val (.long q3), .second, .val (.long q4), .second, .val (.long lg), .second, .val (.long sz), .second, .val (.long mm), .second, .val (.long kk), .second, .unset, .unset, .unset, .unset, .unset, .unset, .unset, .unset, .unset, .unset, .unset, .unset] [(.long (lg + (1 : Int64))), (.long (q4 &&& (9223372036854775807 : Int64)))])) _
    refine XS.lrem X0.here hx rfl (hb hby at_53) rfl (own_nz ⟨hlg.1, by omega⟩) ?_
    show Steps p.tables e below (s₁.setTop (mkF m 54 #[.val (.long q0), .second, .val (.long q1), .second, .val (.long q2), .second, .val (.long q3), .second, .val (.long q4), .second, .val (.long lg), .second, .val (.long sz), .second, .val (.long mm), .second, .val (.long kk), .second, .unset, .unset, .unset, .unset, .unset, .unset, .unset, .unset, .unset, .unset, .unset, .unset] [(.long ((q4 &&& (9223372036854775807 : Int64)) - ((q4 &&& (9223372036854775807 : Int64)) / (lg + (1 : Int64))) * (lg + (1 : Int64))))])) _
    rw [← e_mb]
    show Steps p.tables e below (s₁.setTop (mkF m 54 #[.val (.long q0), .second, .val (.long q1), .second, .val (.long q2), .second, .val (.long q3), .second, .val (.long q4), .second, .val (.long lg), .second, .val (.long sz), .second, .val (.long mm), .second, .val (.long kk), .second, .unset, .unset, .unset, .unset, .unset, .unset, .unset, .unset, .unset, .unset, .unset, .unset] [(.long mb)])) _
    refine XS.lstore X0.here hx rfl (hb hby at_54) rfl (l' := #[.val (.long q0), .second, .val (.long q1), .second, .val (.long q2), .second, .val (.long q3), .second, .val (.long q4), .second, .val (.long lg), .second, .val (.long sz), .second, .val (.long mm), .second, .val (.long kk), .second, .val (.long mb), .second, .unset, .unset, .unset, .unset, .unset, .unset, .unset, .unset, .unset, .unset]) rfl ?_
    show Steps p.tables e below (s₁.setTop (mkF m 56 #[.val (.long q0), .second, .val (.long q1), .second, .val (.long q2), .second, .val (.long q3), .second, .val (.long q4), .second, .val (.long lg), .second, .val (.long sz), .second, .val (.long mm), .second, .val (.long kk), .second, .val (.long mb), .second, .unset, .unset, .unset, .unset, .unset, .unset, .unset, .unset, .unset, .unset] [])) _
    refine XS.lload X0.here hx rfl (hb hby at_56) rfl ?_
    show Steps p.tables e below (s₁.setTop (mkF m 58 #[.val (.long q0), .second, .val (.long q1), .second, .val (.long q2), .second, .val (.long q3), .second, .val (.long q4), .second, .val (.long lg), .second, .val (.long sz), .second, .val (.long mm), .second, .val (.long kk), .second, .val (.long mb), .second, .unset, .unset, .unset, .unset, .unset, .unset, .unset, .unset, .unset, .unset] [(.long mb)])) _
    refine XS.lconst X0.here hx rfl (hb hby at_58) ?_
    show Steps p.tables e below (s₁.setTop (mkF m 59 #[.val (.long q0), .second, .val (.long q1), .second, .val (.long q2), .second, .val (.long q3), .second, .val (.long q4), .second, .val (.long lg), .second, .val (.long sz), .second, .val (.long mm), .second, .val (.long kk), .second, .val (.long mb), .second, .unset, .unset, .unset, .unset, .unset, .unset, .unset, .unset, .unset, .unset] [(.long (0 : Int64)), (.long mb)])) _
    refine XS.lcmp X0.here hx rfl (hb hby at_59) rfl ?_
    by_cases hc60_1 : (0 : Int64) < mb
    · rw [if_pos hc60_1] at e_tv
      show Steps p.tables e below (s₁.setTop (mkF m 60 #[.val (.long q0), .second, .val (.long q1), .second, .val (.long q2), .second, .val (.long q3), .second, .val (.long q4), .second, .val (.long lg), .second, .val (.long sz), .second, .val (.long mm), .second, .val (.long kk), .second, .val (.long mb), .second, .unset, .unset, .unset, .unset, .unset, .unset, .unset, .unset, .unset, .unset] [(.int (lcmpW mb (0 : Int64)))])) _
      refine XS.ifNo X0.here hx rfl (hb hby at_60) rfl ((if0 _ _).trans (tlt ((lw_gt _ _).mpr hc60_1)).2.2.2) ?_
      show Steps p.tables e below (s₁.setTop (mkF m 63 #[.val (.long q0), .second, .val (.long q1), .second, .val (.long q2), .second, .val (.long q3), .second, .val (.long q4), .second, .val (.long lg), .second, .val (.long sz), .second, .val (.long mm), .second, .val (.long kk), .second, .val (.long mb), .second, .unset, .unset, .unset, .unset, .unset, .unset, .unset, .unset, .unset, .unset] [])) _
      refine XS.lconst X0.here hx rfl (hb hby at_63) ?_
      show Steps p.tables e below (s₁.setTop (mkF m 64 #[.val (.long q0), .second, .val (.long q1), .second, .val (.long q2), .second, .val (.long q3), .second, .val (.long q4), .second, .val (.long lg), .second, .val (.long sz), .second, .val (.long mm), .second, .val (.long kk), .second, .val (.long mb), .second, .unset, .unset, .unset, .unset, .unset, .unset, .unset, .unset, .unset, .unset] [(.long (1 : Int64))])) _
      refine XS.goto X0.here hx rfl (pc0 := 64) (pc' := 68) rfl (hb hby at_64) (by decide) (by decide) ?_
      subst e_tv
      exact kt
    · rw [if_neg hc60_1] at e_tv
      show Steps p.tables e below (s₁.setTop (mkF m 60 #[.val (.long q0), .second, .val (.long q1), .second, .val (.long q2), .second, .val (.long q3), .second, .val (.long q4), .second, .val (.long lg), .second, .val (.long sz), .second, .val (.long mm), .second, .val (.long kk), .second, .val (.long mb), .second, .unset, .unset, .unset, .unset, .unset, .unset, .unset, .unset, .unset, .unset] [(.int (lcmpW mb (0 : Int64)))])) _
      refine XS.ifYes X0.here hx rfl (pc0 := 60) (pc' := 67) rfl (hb hby at_60) rfl ((if0 _ _).trans (flt (mt (lw_gt _ _).mp hc60_1)).2.2.2) (by decide) (by decide) ?_
      show Steps p.tables e below (s₁.setTop (mkF m 67 #[.val (.long q0), .second, .val (.long q1), .second, .val (.long q2), .second, .val (.long q3), .second, .val (.long q4), .second, .val (.long lg), .second, .val (.long sz), .second, .val (.long mm), .second, .val (.long kk), .second, .val (.long mb), .second, .unset, .unset, .unset, .unset, .unset, .unset, .unset, .unset, .unset, .unset] [])) _
      refine XS.lconst X0.here hx rfl (hb hby at_67) ?_
      subst e_tv
      exact kt
  have ht := own_t hmb.1 e_tv
  obtain ⟨T3, h3, X3, e3, E3, A3, D3, U3, st3⟩ := newO X0 hx hZ hown (hw _ (List.mem_of_getElem? (i := 2) rfl)) (hw _ (List.mem_of_getElem? (i := 3) rfl)) (hw _ (List.mem_of_getElem? (i := 4) rfl)) e0 (g := (mkF m 70 #[.val (.long q0), .second, .val (.long q1), .second, .val (.long q2), .second, .val (.long q3), .second, .val (.long q4), .second, .val (.long lg), .second, .val (.long sz), .second, .val (.long mm), .second, .val (.long kk), .second, .val (.long mb), .second, .val (.long tv), .second, .unset, .unset, .unset, .unset, .unset, .unset, .unset, .unset] [])) rfl (hb hby at_70) (by decide) (by decide)
  obtain ⟨b3, g3⟩ : ∃ z, z = h0.size := ⟨_, rfl⟩
  rw [← g3] at A3 D3 U3 st3
  have g_b3 : n0 ≤ b3 := Nat.le_trans Z0 (Nat.le_of_eq g3.symm)
  have sz_b3 : h0.size ≤ b3 := Nat.le_trans (Keep.refl h0 []).1 (Nat.le_of_eq g3.symm)
  have F_largest_b3 : Fld Z h3 b3 "com/example/leave_to_act/leavetoact/ByteBudget" "largest" "J" (.long (0 : Int64)) := D3 (Or.inr (hw _ (List.mem_of_getElem? (i := 12) rfl))) (ty := .long) (by decide)
  have F_free_b3 : Fld Z h3 b3 "com/example/leave_to_act/leavetoact/ByteBudget" "free" "J" (.long (0 : Int64)) := D3 (Or.inl (hw _ (List.mem_of_getElem? (i := 14) rfl))) (ty := .long) (by decide)
  have J3 : Keep h0 h3 [] := (Keep.refl h0 []).ext E3
  have z4 : n0 ≤ h3.size := (Nat.le_trans Z0 E3.1)
  -- pc 78: ByteBudget.<init> by rm1
  obtain ⟨_, _, ⟨T5, L5, k5, n5⟩, -, X5, ⟨Lc5, hQ5, l5, y5, z5'⟩, st5⟩ := X3.specialBack hx (y := (⟨"com/example/leave_to_act/leavetoact/ByteBudget", "<init>", "(JJ)V"⟩ : MethodName)) rfl hown (mvT hZ (hw _ (List.mem_of_getElem? (i := 5) rfl))) (mvT hZ (hw _ (List.mem_of_getElem? (i := 6) rfl))) (mvT hZ (hw _ (List.mem_of_getElem? (i := 7) rfl))) (by decide) (backOf (W := 1) (rm1 l Z a0 hw [] b3 sz lg h3 n0 z4 A3 F_largest_b3 F_free_b3 (own_Mo.ofU U3) g_b3 (own_ge0 hlg.1) (own_le hsz.1)) hZ (hw _ (List.mem_of_getElem? (i := 7) rfl)) (hw _ (List.mem_of_getElem? (i := 4) rfl)) (by decide) (by decide)) (g := (mkF m 78 #[.val (.long q0), .second, .val (.long q1), .second, .val (.long q2), .second, .val (.long q3), .second, .val (.long q4), .second, .val (.long lg), .second, .val (.long sz), .second, .val (.long mm), .second, .val (.long kk), .second, .val (.long mb), .second, .val (.long tv), .second, .unset, .unset, .unset, .unset, .unset, .unset, .unset, .unset] [(.long lg), (.long sz), (.ref b3), (.ref b3)])) rfl (by rw [hml]; rfl) (Steps.refl _) (a := b3) (argsL := [(.long sz), (.long lg)]) (rest := [(.ref b3)]) (lenOf pd_2 rfl) rfl (by show 2 * 0 + _ ≤ _; exact Nat.le_of_eq rfl) (hb hby at_78) (fun _ _ => ⟨rfl, e3, (by decide : 1 + 0 ≤ _), (by decide : 2 + 0 ≤ _)⟩)
  dsimp only [Pt.U, Pt.locs, Pt.cells, Pt.slots] at X5 l5 y5 z5' st5 hQ5
  subst l5 y5 z5'
  obtain ⟨rfl, N5q, K5, r0_5, r1_5, r2_5⟩ := hQ5
  have N5 := Fr.app N0 N5q
  have J5 : Keep h0 T5.heap [] := J3.trans K5 (allS (Or.inr sz_b3) all0)
  have z6 : n0 ≤ T5.heap.size := (Nat.le_trans z4 K5.1)
  have c8 : Exa Z T5.heap b3 "com/example/leave_to_act/leavetoact/ByteBudget" := (A3.keep K5)
  obtain ⟨cq7, kq7, q7a, q7b, q7c⟩ := isOf hZ rfl c8
  -- pc 87: ByteBudget.open by rm2
  obtain ⟨_, _, ⟨T7, L7, k7, n7⟩, -, X7, ⟨Lc7, hQ7, l7, y7, z7'⟩, st7⟩ := X5.virtualBack hx (y := (⟨"com/example/leave_to_act/leavetoact/ByteBudget", "open", "(J)Lcom/example/leave_to_act/leavetoact/ByteBudget$Share;"⟩ : MethodName)) (z := (⟨"com/example/leave_to_act/leavetoact/ByteBudget", "open", "(J)Lcom/example/leave_to_act/leavetoact/ByteBudget$Share;"⟩ : MethodName)) hown (mvT hZ (hw _ (List.mem_of_getElem? (i := 15) rfl))) (mvT hZ (hw _ (List.mem_of_getElem? (i := 16) rfl))) (notFace_of_selects (args := #[]) (mvT hZ (hw _ (List.mem_of_getElem? (i := 18) rfl)))) (mvT hZ (hw _ (List.mem_of_getElem? (i := 18) rfl))) (mvT hZ (hw _ (List.mem_of_getElem? (i := 17) rfl))) (by decide) (backOf (W := 0) (rm2 l Z a0 hw [] b3 mm lg T5.heap n0 z6 r0_5 (own_ge0 hm.1) (own_le hm.2)) hZ (hw _ (List.mem_of_getElem? (i := 19) rfl)) (hw _ (List.mem_of_getElem? (i := 4) rfl)) (by decide) (by decide)) q7a q7c (g := (mkF m 87 #[.val (.long q0), .second, .val (.long q1), .second, .val (.long q2), .second, .val (.long q3), .second, .val (.long q4), .second, .val (.long lg), .second, .val (.long sz), .second, .val (.long mm), .second, .val (.long kk), .second, .val (.long mb), .second, .val (.long tv), .second, .val (.ref b3), .unset, .unset, .unset, .unset, .unset, .unset, .unset] [(.long mm), (.ref b3)])) rfl (by rw [hml]; rfl) (Steps.refl _) (argsL := [(.long mm)]) (rest := []) (lenOf pd_3 rfl) rfl (by show 2 * 0 + _ ≤ _; exact Nat.le_of_eq rfl) (hb hby at_87) (fun _ _ => ⟨rfl, rfl, (by decide : 1 + 1 ≤ _), (by decide : 2 + 4 ≤ _)⟩)
  dsimp only [Pt.U, Pt.locs, Pt.cells, Pt.slots] at X7 l7 y7 z7' st7 hQ7
  subst l7 y7 z7'
  obtain ⟨b_7, rfl, N7q, K7, r0_7, r1_7, r2_7, r3_7, r4_7, r5_7⟩ := hQ7
  have N7 := Fr.app N5 N7q
  have J7 : Keep h0 T7.heap [] := J5.trans K7 all0
  have g_b_7 : n0 ≤ b_7 := Nat.le_trans z6 r0_7
  have sz_b_7 : h0.size ≤ b_7 := Nat.le_trans J5.1 r0_7
  have ne9 : b3 ≠ b_7 := Nat.ne_of_lt (Nat.lt_of_lt_of_le c8.lt r0_7)
  have c10 : Exa Z T7.heap b3 "com/example/leave_to_act/leavetoact/ByteBudget" := (c8.keep K7)
  have c11 : Fld Z T7.heap b3 "com/example/leave_to_act/leavetoact/ByteBudget" "largest" "J" (.long lg) := (r0_5.keep K7 nin0)
  have c12 : Fld Z T7.heap b3 "com/example/leave_to_act/leavetoact/ByteBudget" "free" "J" (.long sz) := (r1_5.keep K7 nin0)
  have c13 : own_Mo T7.heap b3 {} := (r2_5.keep K7 nin0)
  have z14 : n0 ≤ T7.heap.size := (Nat.le_trans z6 K7.1)
  obtain ⟨cq15, kq15, q15a, q15b, q15c⟩ := isOf hZ rfl r1_7
  -- pc 96: ByteBudget$Share.tryTake by rm6
  obtain ⟨_, _, ⟨T15, L15, k15, n15⟩, -, X15, ⟨Lc15, hQ15, l15, y15, z15'⟩, st15⟩ := X7.virtualBack hx (y := (⟨"com/example/leave_to_act/leavetoact/ByteBudget$Share", "tryTake", "(J)Z"⟩ : MethodName)) (z := (⟨"com/example/leave_to_act/leavetoact/ByteBudget$Share", "tryTake", "(J)Z"⟩ : MethodName)) hown (mvT hZ (hw _ (List.mem_of_getElem? (i := 31) rfl))) (mvT hZ (hw _ (List.mem_of_getElem? (i := 32) rfl))) (notFace_of_selects (args := #[]) (mvT hZ (hw _ (List.mem_of_getElem? (i := 34) rfl)))) (mvT hZ (hw _ (List.mem_of_getElem? (i := 34) rfl))) (mvT hZ (hw _ (List.mem_of_getElem? (i := 33) rfl))) (by decide) (backOfWith (W := 0) (rm6 l Z a0 hw [] b_7 kk b3 mm sz lg T7.heap n0 z14 r1_7 r2_7 c10 c11 c12 r3_7 r4_7 r5_7 c13 g_b3 g_b_7 ne9 (own_ge0 hk.1) (own_tk hk.2)) hZ (hw _ (List.mem_of_getElem? (i := 35) rfl)) (hw _ (List.mem_of_getElem? (i := 22) rfl)) (by decide) (by decide)) q15a q15c (g := (mkF m 96 #[.val (.long q0), .second, .val (.long q1), .second, .val (.long q2), .second, .val (.long q3), .second, .val (.long q4), .second, .val (.long lg), .second, .val (.long sz), .second, .val (.long mm), .second, .val (.long kk), .second, .val (.long mb), .second, .val (.long tv), .second, .val (.ref b3), .val (.ref b_7), .unset, .unset, .unset, .unset, .unset, .unset] [(.long kk), (.ref b_7)])) rfl (by rw [hml]; rfl) (Steps.refl _) (argsL := [(.long kk)]) (rest := []) (lenOf pd_4 rfl) rfl (by show 2 * 0 + _ ≤ _; exact Nat.le_of_eq rfl) (hb hby at_96) (fun _ _ => ⟨rfl, rfl, (by decide : 2 + 0 ≤ _), (by decide : 6 + 0 ≤ _)⟩)
  dsimp only [Pt.U, Pt.locs, Pt.cells, Pt.slots] at X15 l15 y15 z15' st15 hQ15
  subst l15 y15 z15'
  obtain ⟨rfl, N15q, K15, r0_15, r1_15, r2_15⟩ := hQ15
  have N15 := Fr.app N7 N15q
  have J15 : Keep h0 T15.heap [] := J7.trans K15 (allS (Or.inr sz_b3) (allS (Or.inr sz_b_7) all0))
  have c16 : Exa Z T15.heap b_7 "com/example/leave_to_act/leavetoact/ByteBudget$Share" := (r1_7.keep K15)
  have z17 : n0 ≤ T15.heap.size := (Nat.le_trans z14 K15.1)
  have c19 : Exa Z T15.heap b3 "com/example/leave_to_act/leavetoact/ByteBudget" := (c10.keep K15)
  obtain ⟨cq18, kq18, q18a, q18b, q18c⟩ := isOf hZ rfl c19
  -- pc 105: ByteBudget.open by rm2
  obtain ⟨_, _, ⟨T18, L18, k18, n18⟩, -, X18, ⟨Lc18, hQ18, l18, y18, z18'⟩, st18⟩ := X15.virtualBack hx (y := (⟨"com/example/leave_to_act/leavetoact/ByteBudget", "open", "(J)Lcom/example/leave_to_act/leavetoact/ByteBudget$Share;"⟩ : MethodName)) (z := (⟨"com/example/leave_to_act/leavetoact/ByteBudget", "open", "(J)Lcom/example/leave_to_act/leavetoact/ByteBudget$Share;"⟩ : MethodName)) hown (mvT hZ (hw _ (List.mem_of_getElem? (i := 15) rfl))) (mvT hZ (hw _ (List.mem_of_getElem? (i := 16) rfl))) (notFace_of_selects (args := #[]) (mvT hZ (hw _ (List.mem_of_getElem? (i := 18) rfl)))) (mvT hZ (hw _ (List.mem_of_getElem? (i := 18) rfl))) (mvT hZ (hw _ (List.mem_of_getElem? (i := 17) rfl))) (by decide) (backOf (W := 0) (rm2 l Z a0 hw [] b3 mb lg T15.heap n0 z17 r1_15 (own_ge0 hmb.1) (own_le hmb.2)) hZ (hw _ (List.mem_of_getElem? (i := 19) rfl)) (hw _ (List.mem_of_getElem? (i := 4) rfl)) (by decide) (by decide)) q18a q18c (g := (mkF m 105 #[.val (.long q0), .second, .val (.long q1), .second, .val (.long q2), .second, .val (.long q3), .second, .val (.long q4), .second, .val (.long lg), .second, .val (.long sz), .second, .val (.long mm), .second, .val (.long kk), .second, .val (.long mb), .second, .val (.long tv), .second, .val (.ref b3), .val (.ref b_7), .val (.int (own_gr kk mm sz lg)), .unset, .unset, .unset, .unset, .unset] [(.long mb), (.ref b3)])) rfl (by rw [hml]; rfl) (Steps.refl _) (argsL := [(.long mb)]) (rest := []) (lenOf pd_3 rfl) rfl (by show 2 * 0 + _ ≤ _; exact Nat.le_of_eq rfl) (hb hby at_105) (fun _ _ => ⟨rfl, rfl, (by decide : 2 + 1 ≤ _), (by decide : 6 + 4 ≤ _)⟩)
  dsimp only [Pt.U, Pt.locs, Pt.cells, Pt.slots] at X18 l18 y18 z18' st18 hQ18
  subst l18 y18 z18'
  obtain ⟨b_18, rfl, N18q, K18, r0_18, r1_18, r2_18, r3_18, r4_18, r5_18⟩ := hQ18
  have N18 := Fr.app N15 N18q
  have J18 : Keep h0 T18.heap [] := J15.trans K18 all0
  have g_b_18 : n0 ≤ b_18 := Nat.le_trans z17 r0_18
  have sz_b_18 : h0.size ≤ b_18 := Nat.le_trans J15.1 r0_18
  have ne20 : b3 ≠ b_18 := Nat.ne_of_lt (Nat.lt_of_lt_of_le c19.lt r0_18)
  have ne21 : b_7 ≠ b_18 := Nat.ne_of_lt (Nat.lt_of_lt_of_le c16.lt r0_18)
  have c22 : Exa Z T18.heap b3 "com/example/leave_to_act/leavetoact/ByteBudget" := (c19.keep K18)
  have c23 : Fld Z T18.heap b3 "com/example/leave_to_act/leavetoact/ByteBudget" "largest" "J" (.long lg) := (r1_15.keep K18 nin0)
  have c24 : Fld Z T18.heap b3 "com/example/leave_to_act/leavetoact/ByteBudget" "free" "J" (.long (own_gf kk mm sz lg)) := (r0_15.keep K18 nin0)
  have c25 : own_Mo T18.heap b3 {} := (r2_15.keep K18 nin0)
  have z26 : n0 ≤ T18.heap.size := (Nat.le_trans z17 K18.1)
  obtain ⟨cq27, kq27, q27a, q27b, q27c⟩ := isOf hZ rfl r1_18
  -- pc 114: ByteBudget$Share.tryTake by rm6
  obtain ⟨_, _, ⟨T27, L27, k27, n27⟩, -, X27, ⟨Lc27, hQ27, l27, y27, z27'⟩, st27⟩ := X18.virtualBack hx (y := (⟨"com/example/leave_to_act/leavetoact/ByteBudget$Share", "tryTake", "(J)Z"⟩ : MethodName)) (z := (⟨"com/example/leave_to_act/leavetoact/ByteBudget$Share", "tryTake", "(J)Z"⟩ : MethodName)) hown (mvT hZ (hw _ (List.mem_of_getElem? (i := 31) rfl))) (mvT hZ (hw _ (List.mem_of_getElem? (i := 32) rfl))) (notFace_of_selects (args := #[]) (mvT hZ (hw _ (List.mem_of_getElem? (i := 34) rfl)))) (mvT hZ (hw _ (List.mem_of_getElem? (i := 34) rfl))) (mvT hZ (hw _ (List.mem_of_getElem? (i := 33) rfl))) (by decide) (backOfWith (W := 0) (rm6 l Z a0 hw [] b_18 tv b3 mb (own_gf kk mm sz lg) lg T18.heap n0 z26 r1_18 r2_18 c22 c23 c24 r3_18 r4_18 r5_18 c25 g_b3 g_b_18 ne20 (own_ge0 ht.1) (own_tk ht.2)) hZ (hw _ (List.mem_of_getElem? (i := 35) rfl)) (hw _ (List.mem_of_getElem? (i := 22) rfl)) (by decide) (by decide)) q27a q27c (g := (mkF m 114 #[.val (.long q0), .second, .val (.long q1), .second, .val (.long q2), .second, .val (.long q3), .second, .val (.long q4), .second, .val (.long lg), .second, .val (.long sz), .second, .val (.long mm), .second, .val (.long kk), .second, .val (.long mb), .second, .val (.long tv), .second, .val (.ref b3), .val (.ref b_7), .val (.int (own_gr kk mm sz lg)), .val (.ref b_18), .unset, .unset, .unset, .unset] [(.long tv), (.ref b_18)])) rfl (by rw [hml]; rfl) (Steps.refl _) (argsL := [(.long tv)]) (rest := []) (lenOf pd_4 rfl) rfl (by show 2 * 0 + _ ≤ _; exact Nat.le_of_eq rfl) (hb hby at_114) (fun _ _ => ⟨rfl, rfl, (by decide : 3 + 0 ≤ _), (by decide : 10 + 0 ≤ _)⟩)
  dsimp only [Pt.U, Pt.locs, Pt.cells, Pt.slots] at X27 l27 y27 z27' st27 hQ27
  subst l27 y27 z27'
  obtain ⟨rfl, N27q, K27, r0_27, r1_27, r2_27⟩ := hQ27
  have N27 := Fr.app N18 N27q
  have J27 : Keep h0 T27.heap [] := J18.trans K27 (allS (Or.inr sz_b3) (allS (Or.inr sz_b_18) all0))
  obtain ⟨fre, e_fre⟩ : ∃ z : Int64, z = (if kk = (0 : Int64) then sz else (if (sz - kk) < lg then (sz - mm) else (sz - kk))) := ⟨_, rfl⟩
  have pre30 : ∀ t, Steps p.tables e below (T27.setTop (mkF m 161 #[.val (.long q0), .second, .val (.long q1), .second, .val (.long q2), .second, .val (.long q3), .second, .val (.long q4), .second, .val (.long lg), .second, .val (.long sz), .second, .val (.long mm), .second, .val (.long kk), .second, .val (.long mb), .second, .val (.long tv), .second, .val (.ref b3), .val (.ref b_7), .val (.int (own_gr kk mm sz lg)), .val (.ref b_18), .val (.int (own_gr tv mb (own_gf kk mm sz lg) lg)), .val (.long fre), .second, .unset] [])) t → Steps p.tables e below (s₁.setTop (entryFrame m #[(.long q0), (.long q1), (.long q2), (.long q3), (.long q4)] maxLocals)) t := by
    intro t kt
    refine pre2 _ ?_
    show Steps p.tables e below (s₁.setTop (mkF m 68 #[.val (.long q0), .second, .val (.long q1), .second, .val (.long q2), .second, .val (.long q3), .second, .val (.long q4), .second, .val (.long lg), .second, .val (.long sz), .second, .val (.long mm), .second, .val (.long kk), .second, .val (.long mb), .second, .unset, .unset, .unset, .unset, .unset, .unset, .unset, .unset, .unset, .unset] [(.long tv)])) _
    refine XS.lstore X0.here hx rfl (hb hby at_68) rfl (l' := #[.val (.long q0), .second, .val (.long q1), .second, .val (.long q2), .second, .val (.long q3), .second, .val (.long q4), .second, .val (.long lg), .second, .val (.long sz), .second, .val (.long mm), .second, .val (.long kk), .second, .val (.long mb), .second, .val (.long tv), .second, .unset, .unset, .unset, .unset, .unset, .unset, .unset, .unset]) rfl ?_
    show Steps p.tables e below (s₁.setTop (mkF m 70 #[.val (.long q0), .second, .val (.long q1), .second, .val (.long q2), .second, .val (.long q3), .second, .val (.long q4), .second, .val (.long lg), .second, .val (.long sz), .second, .val (.long mm), .second, .val (.long kk), .second, .val (.long mb), .second, .val (.long tv), .second, .unset, .unset, .unset, .unset, .unset, .unset, .unset, .unset] [])) _
    refine st3 _ ?_
    show Steps p.tables e below (T3.setTop (mkF m 73 #[.val (.long q0), .second, .val (.long q1), .second, .val (.long q2), .second, .val (.long q3), .second, .val (.long q4), .second, .val (.long lg), .second, .val (.long sz), .second, .val (.long mm), .second, .val (.long kk), .second, .val (.long mb), .second, .val (.long tv), .second, .unset, .unset, .unset, .unset, .unset, .unset, .unset, .unset] [(.ref b3)])) _
    refine XS.dup X3.here hx rfl (hb hby at_73) rfl rfl ?_
    show Steps p.tables e below (T3.setTop (mkF m 74 #[.val (.long q0), .second, .val (.long q1), .second, .val (.long q2), .second, .val (.long q3), .second, .val (.long q4), .second, .val (.long lg), .second, .val (.long sz), .second, .val (.long mm), .second, .val (.long kk), .second, .val (.long mb), .second, .val (.long tv), .second, .unset, .unset, .unset, .unset, .unset, .unset, .unset, .unset] [(.ref b3), (.ref b3)])) _
    refine XS.lload X3.here hx rfl (hb hby at_74) rfl ?_
    show Steps p.tables e below (T3.setTop (mkF m 76 #[.val (.long q0), .second, .val (.long q1), .second, .val (.long q2), .second, .val (.long q3), .second, .val (.long q4), .second, .val (.long lg), .second, .val (.long sz), .second, .val (.long mm), .second, .val (.long kk), .second, .val (.long mb), .second, .val (.long tv), .second, .unset, .unset, .unset, .unset, .unset, .unset, .unset, .unset] [(.long sz), (.ref b3), (.ref b3)])) _
    refine XS.lload X3.here hx rfl (hb hby at_76) rfl ?_
    show Steps p.tables e below (T3.setTop (mkF m 78 #[.val (.long q0), .second, .val (.long q1), .second, .val (.long q2), .second, .val (.long q3), .second, .val (.long q4), .second, .val (.long lg), .second, .val (.long sz), .second, .val (.long mm), .second, .val (.long kk), .second, .val (.long mb), .second, .val (.long tv), .second, .unset, .unset, .unset, .unset, .unset, .unset, .unset, .unset] [(.long lg), (.long sz), (.ref b3), (.ref b3)])) _
    refine st5.trans ?_
    show Steps p.tables e below (T5.setTop (mkF m 81 #[.val (.long q0), .second, .val (.long q1), .second, .val (.long q2), .second, .val (.long q3), .second, .val (.long q4), .second, .val (.long lg), .second, .val (.long sz), .second, .val (.long mm), .second, .val (.long kk), .second, .val (.long mb), .second, .val (.long tv), .second, .unset, .unset, .unset, .unset, .unset, .unset, .unset, .unset] [(.ref b3)])) _
    refine XS.astore X5.here hx rfl (hb hby at_81) rfl rfl (l' := #[.val (.long q0), .second, .val (.long q1), .second, .val (.long q2), .second, .val (.long q3), .second, .val (.long q4), .second, .val (.long lg), .second, .val (.long sz), .second, .val (.long mm), .second, .val (.long kk), .second, .val (.long mb), .second, .val (.long tv), .second, .val (.ref b3), .unset, .unset, .unset, .unset, .unset, .unset, .unset]) rfl ?_
    show Steps p.tables e below (T5.setTop (mkF m 83 #[.val (.long q0), .second, .val (.long q1), .second, .val (.long q2), .second, .val (.long q3), .second, .val (.long q4), .second, .val (.long lg), .second, .val (.long sz), .second, .val (.long mm), .second, .val (.long kk), .second, .val (.long mb), .second, .val (.long tv), .second, .val (.ref b3), .unset, .unset, .unset, .unset, .unset, .unset, .unset] [])) _
    refine XS.aload X5.here hx rfl (hb hby at_83) rfl rfl ?_
    show Steps p.tables e below (T5.setTop (mkF m 85 #[.val (.long q0), .second, .val (.long q1), .second, .val (.long q2), .second, .val (.long q3), .second, .val (.long q4), .second, .val (.long lg), .second, .val (.long sz), .second, .val (.long mm), .second, .val (.long kk), .second, .val (.long mb), .second, .val (.long tv), .second, .val (.ref b3), .unset, .unset, .unset, .unset, .unset, .unset, .unset] [(.ref b3)])) _
    refine XS.lload X5.here hx rfl (hb hby at_85) rfl ?_
    show Steps p.tables e below (T5.setTop (mkF m 87 #[.val (.long q0), .second, .val (.long q1), .second, .val (.long q2), .second, .val (.long q3), .second, .val (.long q4), .second, .val (.long lg), .second, .val (.long sz), .second, .val (.long mm), .second, .val (.long kk), .second, .val (.long mb), .second, .val (.long tv), .second, .val (.ref b3), .unset, .unset, .unset, .unset, .unset, .unset, .unset] [(.long mm), (.ref b3)])) _
    refine st7.trans ?_
    show Steps p.tables e below (T7.setTop (mkF m 90 #[.val (.long q0), .second, .val (.long q1), .second, .val (.long q2), .second, .val (.long q3), .second, .val (.long q4), .second, .val (.long lg), .second, .val (.long sz), .second, .val (.long mm), .second, .val (.long kk), .second, .val (.long mb), .second, .val (.long tv), .second, .val (.ref b3), .unset, .unset, .unset, .unset, .unset, .unset, .unset] [(.ref b_7)])) _
    refine XS.astore X7.here hx rfl (hb hby at_90) rfl rfl (l' := #[.val (.long q0), .second, .val (.long q1), .second, .val (.long q2), .second, .val (.long q3), .second, .val (.long q4), .second, .val (.long lg), .second, .val (.long sz), .second, .val (.long mm), .second, .val (.long kk), .second, .val (.long mb), .second, .val (.long tv), .second, .val (.ref b3), .val (.ref b_7), .unset, .unset, .unset, .unset, .unset, .unset]) rfl ?_
    show Steps p.tables e below (T7.setTop (mkF m 92 #[.val (.long q0), .second, .val (.long q1), .second, .val (.long q2), .second, .val (.long q3), .second, .val (.long q4), .second, .val (.long lg), .second, .val (.long sz), .second, .val (.long mm), .second, .val (.long kk), .second, .val (.long mb), .second, .val (.long tv), .second, .val (.ref b3), .val (.ref b_7), .unset, .unset, .unset, .unset, .unset, .unset] [])) _
    refine XS.aload X7.here hx rfl (hb hby at_92) rfl rfl ?_
    show Steps p.tables e below (T7.setTop (mkF m 94 #[.val (.long q0), .second, .val (.long q1), .second, .val (.long q2), .second, .val (.long q3), .second, .val (.long q4), .second, .val (.long lg), .second, .val (.long sz), .second, .val (.long mm), .second, .val (.long kk), .second, .val (.long mb), .second, .val (.long tv), .second, .val (.ref b3), .val (.ref b_7), .unset, .unset, .unset, .unset, .unset, .unset] [(.ref b_7)])) _
    refine XS.lload X7.here hx rfl (hb hby at_94) rfl ?_
    show Steps p.tables e below (T7.setTop (mkF m 96 #[.val (.long q0), .second, .val (.long q1), .second, .val (.long q2), .second, .val (.long q3), .second, .val (.long q4), .second, .val (.long lg), .second, .val (.long sz), .second, .val (.long mm), .second, .val (.long kk), .second, .val (.long mb), .second, .val (.long tv), .second, .val (.ref b3), .val (.ref b_7), .unset, .unset, .unset, .unset, .unset, .unset] [(.long kk), (.ref b_7)])) _
    refine st15.trans ?_
    show Steps p.tables e below (T15.setTop (mkF m 99 #[.val (.long q0), .second, .val (.long q1), .second, .val (.long q2), .second, .val (.long q3), .second, .val (.long q4), .second, .val (.long lg), .second, .val (.long sz), .second, .val (.long mm), .second, .val (.long kk), .second, .val (.long mb), .second, .val (.long tv), .second, .val (.ref b3), .val (.ref b_7), .unset, .unset, .unset, .unset, .unset, .unset] [(.int (own_gr kk mm sz lg))])) _
    refine XS.istore X15.here hx rfl (hb hby at_99) rfl (l' := #[.val (.long q0), .second, .val (.long q1), .second, .val (.long q2), .second, .val (.long q3), .second, .val (.long q4), .second, .val (.long lg), .second, .val (.long sz), .second, .val (.long mm), .second, .val (.long kk), .second, .val (.long mb), .second, .val (.long tv), .second, .val (.ref b3), .val (.ref b_7), .val (.int (own_gr kk mm sz lg)), .unset, .unset, .unset, .unset, .unset]) rfl ?_
    show Steps p.tables e below (T15.setTop (mkF m 101 #[.val (.long q0), .second, .val (.long q1), .second, .val (.long q2), .second, .val (.long q3), .second, .val (.long q4), .second, .val (.long lg), .second, .val (.long sz), .second, .val (.long mm), .second, .val (.long kk), .second, .val (.long mb), .second, .val (.long tv), .second, .val (.ref b3), .val (.ref b_7), .val (.int (own_gr kk mm sz lg)), .unset, .unset, .unset, .unset, .unset] [])) _
    refine XS.aload X15.here hx rfl (hb hby at_101) rfl rfl ?_
    show Steps p.tables e below (T15.setTop (mkF m 103 #[.val (.long q0), .second, .val (.long q1), .second, .val (.long q2), .second, .val (.long q3), .second, .val (.long q4), .second, .val (.long lg), .second, .val (.long sz), .second, .val (.long mm), .second, .val (.long kk), .second, .val (.long mb), .second, .val (.long tv), .second, .val (.ref b3), .val (.ref b_7), .val (.int (own_gr kk mm sz lg)), .unset, .unset, .unset, .unset, .unset] [(.ref b3)])) _
    refine XS.lload X15.here hx rfl (hb hby at_103) rfl ?_
    show Steps p.tables e below (T15.setTop (mkF m 105 #[.val (.long q0), .second, .val (.long q1), .second, .val (.long q2), .second, .val (.long q3), .second, .val (.long q4), .second, .val (.long lg), .second, .val (.long sz), .second, .val (.long mm), .second, .val (.long kk), .second, .val (.long mb), .second, .val (.long tv), .second, .val (.ref b3), .val (.ref b_7), .val (.int (own_gr kk mm sz lg)), .unset, .unset, .unset, .unset, .unset] [(.long mb), (.ref b3)])) _
    refine st18.trans ?_
    show Steps p.tables e below (T18.setTop (mkF m 108 #[.val (.long q0), .second, .val (.long q1), .second, .val (.long q2), .second, .val (.long q3), .second, .val (.long q4), .second, .val (.long lg), .second, .val (.long sz), .second, .val (.long mm), .second, .val (.long kk), .second, .val (.long mb), .second, .val (.long tv), .second, .val (.ref b3), .val (.ref b_7), .val (.int (own_gr kk mm sz lg)), .unset, .unset, .unset, .unset, .unset] [(.ref b_18)])) _
    refine XS.astore X18.here hx rfl (hb hby at_108) rfl rfl (l' := #[.val (.long q0), .second, .val (.long q1), .second, .val (.long q2), .second, .val (.long q3), .second, .val (.long q4), .second, .val (.long lg), .second, .val (.long sz), .second, .val (.long mm), .second, .val (.long kk), .second, .val (.long mb), .second, .val (.long tv), .second, .val (.ref b3), .val (.ref b_7), .val (.int (own_gr kk mm sz lg)), .val (.ref b_18), .unset, .unset, .unset, .unset]) rfl ?_
    show Steps p.tables e below (T18.setTop (mkF m 110 #[.val (.long q0), .second, .val (.long q1), .second, .val (.long q2), .second, .val (.long q3), .second, .val (.long q4), .second, .val (.long lg), .second, .val (.long sz), .second, .val (.long mm), .second, .val (.long kk), .second, .val (.long mb), .second, .val (.long tv), .second, .val (.ref b3), .val (.ref b_7), .val (.int (own_gr kk mm sz lg)), .val (.ref b_18), .unset, .unset, .unset, .unset] [])) _
    refine XS.aload X18.here hx rfl (hb hby at_110) rfl rfl ?_
    show Steps p.tables e below (T18.setTop (mkF m 112 #[.val (.long q0), .second, .val (.long q1), .second, .val (.long q2), .second, .val (.long q3), .second, .val (.long q4), .second, .val (.long lg), .second, .val (.long sz), .second, .val (.long mm), .second, .val (.long kk), .second, .val (.long mb), .second, .val (.long tv), .second, .val (.ref b3), .val (.ref b_7), .val (.int (own_gr kk mm sz lg)), .val (.ref b_18), .unset, .unset, .unset, .unset] [(.ref b_18)])) _
    refine XS.lload X18.here hx rfl (hb hby at_112) rfl ?_
    show Steps p.tables e below (T18.setTop (mkF m 114 #[.val (.long q0), .second, .val (.long q1), .second, .val (.long q2), .second, .val (.long q3), .second, .val (.long q4), .second, .val (.long lg), .second, .val (.long sz), .second, .val (.long mm), .second, .val (.long kk), .second, .val (.long mb), .second, .val (.long tv), .second, .val (.ref b3), .val (.ref b_7), .val (.int (own_gr kk mm sz lg)), .val (.ref b_18), .unset, .unset, .unset, .unset] [(.long tv), (.ref b_18)])) _
    refine st27.trans ?_
    show Steps p.tables e below (T27.setTop (mkF m 117 #[.val (.long q0), .second, .val (.long q1), .second, .val (.long q2), .second, .val (.long q3), .second, .val (.long q4), .second, .val (.long lg), .second, .val (.long sz), .second, .val (.long mm), .second, .val (.long kk), .second, .val (.long mb), .second, .val (.long tv), .second, .val (.ref b3), .val (.ref b_7), .val (.int (own_gr kk mm sz lg)), .val (.ref b_18), .unset, .unset, .unset, .unset] [(.int (own_gr tv mb (own_gf kk mm sz lg) lg))])) _
    refine XS.istore X27.here hx rfl (hb hby at_117) rfl (l' := #[.val (.long q0), .second, .val (.long q1), .second, .val (.long q2), .second, .val (.long q3), .second, .val (.long q4), .second, .val (.long lg), .second, .val (.long sz), .second, .val (.long mm), .second, .val (.long kk), .second, .val (.long mb), .second, .val (.long tv), .second, .val (.ref b3), .val (.ref b_7), .val (.int (own_gr kk mm sz lg)), .val (.ref b_18), .val (.int (own_gr tv mb (own_gf kk mm sz lg) lg)), .unset, .unset, .unset]) rfl ?_
    show Steps p.tables e below (T27.setTop (mkF m 119 #[.val (.long q0), .second, .val (.long q1), .second, .val (.long q2), .second, .val (.long q3), .second, .val (.long q4), .second, .val (.long lg), .second, .val (.long sz), .second, .val (.long mm), .second, .val (.long kk), .second, .val (.long mb), .second, .val (.long tv), .second, .val (.ref b3), .val (.ref b_7), .val (.int (own_gr kk mm sz lg)), .val (.ref b_18), .val (.int (own_gr tv mb (own_gf kk mm sz lg) lg)), .unset, .unset, .unset] [])) _
    refine XS.lload X27.here hx rfl (hb hby at_119) rfl ?_
    show Steps p.tables e below (T27.setTop (mkF m 121 #[.val (.long q0), .second, .val (.long q1), .second, .val (.long q2), .second, .val (.long q3), .second, .val (.long q4), .second, .val (.long lg), .second, .val (.long sz), .second, .val (.long mm), .second, .val (.long kk), .second, .val (.long mb), .second, .val (.long tv), .second, .val (.ref b3), .val (.ref b_7), .val (.int (own_gr kk mm sz lg)), .val (.ref b_18), .val (.int (own_gr tv mb (own_gf kk mm sz lg) lg)), .unset, .unset, .unset] [(.long kk)])) _
    refine XS.lconst X27.here hx rfl (hb hby at_121) ?_
    show Steps p.tables e below (T27.setTop (mkF m 122 #[.val (.long q0), .second, .val (.long q1), .second, .val (.long q2), .second, .val (.long q3), .second, .val (.long q4), .second, .val (.long lg), .second, .val (.long sz), .second, .val (.long mm), .second, .val (.long kk), .second, .val (.long mb), .second, .val (.long tv), .second, .val (.ref b3), .val (.ref b_7), .val (.int (own_gr kk mm sz lg)), .val (.ref b_18), .val (.int (own_gr tv mb (own_gf kk mm sz lg) lg)), .unset, .unset, .unset] [(.long (0 : Int64)), (.long kk)])) _
    refine XS.lcmp X27.here hx rfl (hb hby at_122) rfl ?_
    by_cases hc123_28 : kk = (0 : Int64)
    · rw [if_pos hc123_28] at e_fre
      show Steps p.tables e below (T27.setTop (mkF m 123 #[.val (.long q0), .second, .val (.long q1), .second, .val (.long q2), .second, .val (.long q3), .second, .val (.long q4), .second, .val (.long lg), .second, .val (.long sz), .second, .val (.long mm), .second, .val (.long kk), .second, .val (.long mb), .second, .val (.long tv), .second, .val (.ref b3), .val (.ref b_7), .val (.int (own_gr kk mm sz lg)), .val (.ref b_18), .val (.int (own_gr tv mb (own_gf kk mm sz lg) lg)), .unset, .unset, .unset] [(.int (lcmpW kk (0 : Int64)))])) _
      refine XS.ifNo X27.here hx rfl (hb hby at_123) rfl ((if0 _ _).trans (teq ((lw_eq _ _).mpr hc123_28)).2) ?_
      show Steps p.tables e below (T27.setTop (mkF m 126 #[.val (.long q0), .second, .val (.long q1), .second, .val (.long q2), .second, .val (.long q3), .second, .val (.long q4), .second, .val (.long lg), .second, .val (.long sz), .second, .val (.long mm), .second, .val (.long kk), .second, .val (.long mb), .second, .val (.long tv), .second, .val (.ref b3), .val (.ref b_7), .val (.int (own_gr kk mm sz lg)), .val (.ref b_18), .val (.int (own_gr tv mb (own_gf kk mm sz lg) lg)), .unset, .unset, .unset] [])) _
      refine XS.lload X27.here hx rfl (hb hby at_126) rfl ?_
      show Steps p.tables e below (T27.setTop (mkF m 128 #[.val (.long q0), .second, .val (.long q1), .second, .val (.long q2), .second, .val (.long q3), .second, .val (.long q4), .second, .val (.long lg), .second, .val (.long sz), .second, .val (.long mm), .second, .val (.long kk), .second, .val (.long mb), .second, .val (.long tv), .second, .val (.ref b3), .val (.ref b_7), .val (.int (own_gr kk mm sz lg)), .val (.ref b_18), .val (.int (own_gr tv mb (own_gf kk mm sz lg) lg)), .unset, .unset, .unset] [(.long sz)])) _
      refine XS.lstore X27.here hx rfl (hb hby at_128) rfl (l' := #[.val (.long q0), .second, .val (.long q1), .second, .val (.long q2), .second, .val (.long q3), .second, .val (.long q4), .second, .val (.long lg), .second, .val (.long sz), .second, .val (.long mm), .second, .val (.long kk), .second, .val (.long mb), .second, .val (.long tv), .second, .val (.ref b3), .val (.ref b_7), .val (.int (own_gr kk mm sz lg)), .val (.ref b_18), .val (.int (own_gr tv mb (own_gf kk mm sz lg) lg)), .val (.long sz), .second, .unset]) rfl ?_
      show Steps p.tables e below (T27.setTop (mkF m 130 #[.val (.long q0), .second, .val (.long q1), .second, .val (.long q2), .second, .val (.long q3), .second, .val (.long q4), .second, .val (.long lg), .second, .val (.long sz), .second, .val (.long mm), .second, .val (.long kk), .second, .val (.long mb), .second, .val (.long tv), .second, .val (.ref b3), .val (.ref b_7), .val (.int (own_gr kk mm sz lg)), .val (.ref b_18), .val (.int (own_gr tv mb (own_gf kk mm sz lg) lg)), .val (.long sz), .second, .unset] [])) _
      refine XS.goto X27.here hx rfl (pc0 := 130) (pc' := 161) rfl (hb hby at_130) (by decide) (by decide) ?_
      subst e_fre
      exact kt
    · rw [if_neg hc123_28] at e_fre
      show Steps p.tables e below (T27.setTop (mkF m 123 #[.val (.long q0), .second, .val (.long q1), .second, .val (.long q2), .second, .val (.long q3), .second, .val (.long q4), .second, .val (.long lg), .second, .val (.long sz), .second, .val (.long mm), .second, .val (.long kk), .second, .val (.long mb), .second, .val (.long tv), .second, .val (.ref b3), .val (.ref b_7), .val (.int (own_gr kk mm sz lg)), .val (.ref b_18), .val (.int (own_gr tv mb (own_gf kk mm sz lg) lg)), .unset, .unset, .unset] [(.int (lcmpW kk (0 : Int64)))])) _
      refine XS.ifYes X27.here hx rfl (pc0 := 123) (pc' := 133) rfl (hb hby at_123) rfl ((if0 _ _).trans (feq (mt (lw_eq _ _).mp hc123_28)).2) (by decide) (by decide) ?_
      show Steps p.tables e below (T27.setTop (mkF m 133 #[.val (.long q0), .second, .val (.long q1), .second, .val (.long q2), .second, .val (.long q3), .second, .val (.long q4), .second, .val (.long lg), .second, .val (.long sz), .second, .val (.long mm), .second, .val (.long kk), .second, .val (.long mb), .second, .val (.long tv), .second, .val (.ref b3), .val (.ref b_7), .val (.int (own_gr kk mm sz lg)), .val (.ref b_18), .val (.int (own_gr tv mb (own_gf kk mm sz lg) lg)), .unset, .unset, .unset] [])) _
      refine XS.lload X27.here hx rfl (hb hby at_133) rfl ?_
      show Steps p.tables e below (T27.setTop (mkF m 135 #[.val (.long q0), .second, .val (.long q1), .second, .val (.long q2), .second, .val (.long q3), .second, .val (.long q4), .second, .val (.long lg), .second, .val (.long sz), .second, .val (.long mm), .second, .val (.long kk), .second, .val (.long mb), .second, .val (.long tv), .second, .val (.ref b3), .val (.ref b_7), .val (.int (own_gr kk mm sz lg)), .val (.ref b_18), .val (.int (own_gr tv mb (own_gf kk mm sz lg) lg)), .unset, .unset, .unset] [(.long sz)])) _
      refine XS.lload X27.here hx rfl (hb hby at_135) rfl ?_
      show Steps p.tables e below (T27.setTop (mkF m 137 #[.val (.long q0), .second, .val (.long q1), .second, .val (.long q2), .second, .val (.long q3), .second, .val (.long q4), .second, .val (.long lg), .second, .val (.long sz), .second, .val (.long mm), .second, .val (.long kk), .second, .val (.long mb), .second, .val (.long tv), .second, .val (.ref b3), .val (.ref b_7), .val (.int (own_gr kk mm sz lg)), .val (.ref b_18), .val (.int (own_gr tv mb (own_gf kk mm sz lg) lg)), .unset, .unset, .unset] [(.long kk), (.long sz)])) _
      refine XS.lsub X27.here hx rfl (hb hby at_137) rfl ?_
      show Steps p.tables e below (T27.setTop (mkF m 138 #[.val (.long q0), .second, .val (.long q1), .second, .val (.long q2), .second, .val (.long q3), .second, .val (.long q4), .second, .val (.long lg), .second, .val (.long sz), .second, .val (.long mm), .second, .val (.long kk), .second, .val (.long mb), .second, .val (.long tv), .second, .val (.ref b3), .val (.ref b_7), .val (.int (own_gr kk mm sz lg)), .val (.ref b_18), .val (.int (own_gr tv mb (own_gf kk mm sz lg) lg)), .unset, .unset, .unset] [(.long (sz - kk))])) _
      refine XS.lload X27.here hx rfl (hb hby at_138) rfl ?_
      show Steps p.tables e below (T27.setTop (mkF m 140 #[.val (.long q0), .second, .val (.long q1), .second, .val (.long q2), .second, .val (.long q3), .second, .val (.long q4), .second, .val (.long lg), .second, .val (.long sz), .second, .val (.long mm), .second, .val (.long kk), .second, .val (.long mb), .second, .val (.long tv), .second, .val (.ref b3), .val (.ref b_7), .val (.int (own_gr kk mm sz lg)), .val (.ref b_18), .val (.int (own_gr tv mb (own_gf kk mm sz lg) lg)), .unset, .unset, .unset] [(.long lg), (.long (sz - kk))])) _
      refine XS.lcmp X27.here hx rfl (hb hby at_140) rfl ?_
      by_cases hc141_29 : (sz - kk) < lg
      · rw [if_pos hc141_29] at e_fre
        show Steps p.tables e below (T27.setTop (mkF m 141 #[.val (.long q0), .second, .val (.long q1), .second, .val (.long q2), .second, .val (.long q3), .second, .val (.long q4), .second, .val (.long lg), .second, .val (.long sz), .second, .val (.long mm), .second, .val (.long kk), .second, .val (.long mb), .second, .val (.long tv), .second, .val (.ref b3), .val (.ref b_7), .val (.int (own_gr kk mm sz lg)), .val (.ref b_18), .val (.int (own_gr tv mb (own_gf kk mm sz lg) lg)), .unset, .unset, .unset] [(.int (lcmpW (sz - kk) lg))])) _
        refine XS.ifYes X27.here hx rfl (pc0 := 141) (pc' := 154) rfl (hb hby at_141) rfl ((if0 _ _).trans (tlt ((lw_lt _ _).mpr hc141_29)).1) (by decide) (by decide) ?_
        show Steps p.tables e below (T27.setTop (mkF m 154 #[.val (.long q0), .second, .val (.long q1), .second, .val (.long q2), .second, .val (.long q3), .second, .val (.long q4), .second, .val (.long lg), .second, .val (.long sz), .second, .val (.long mm), .second, .val (.long kk), .second, .val (.long mb), .second, .val (.long tv), .second, .val (.ref b3), .val (.ref b_7), .val (.int (own_gr kk mm sz lg)), .val (.ref b_18), .val (.int (own_gr tv mb (own_gf kk mm sz lg) lg)), .unset, .unset, .unset] [])) _
        refine XS.lload X27.here hx rfl (hb hby at_154) rfl ?_
        show Steps p.tables e below (T27.setTop (mkF m 156 #[.val (.long q0), .second, .val (.long q1), .second, .val (.long q2), .second, .val (.long q3), .second, .val (.long q4), .second, .val (.long lg), .second, .val (.long sz), .second, .val (.long mm), .second, .val (.long kk), .second, .val (.long mb), .second, .val (.long tv), .second, .val (.ref b3), .val (.ref b_7), .val (.int (own_gr kk mm sz lg)), .val (.ref b_18), .val (.int (own_gr tv mb (own_gf kk mm sz lg) lg)), .unset, .unset, .unset] [(.long sz)])) _
        refine XS.lload X27.here hx rfl (hb hby at_156) rfl ?_
        show Steps p.tables e below (T27.setTop (mkF m 158 #[.val (.long q0), .second, .val (.long q1), .second, .val (.long q2), .second, .val (.long q3), .second, .val (.long q4), .second, .val (.long lg), .second, .val (.long sz), .second, .val (.long mm), .second, .val (.long kk), .second, .val (.long mb), .second, .val (.long tv), .second, .val (.ref b3), .val (.ref b_7), .val (.int (own_gr kk mm sz lg)), .val (.ref b_18), .val (.int (own_gr tv mb (own_gf kk mm sz lg) lg)), .unset, .unset, .unset] [(.long mm), (.long sz)])) _
        refine XS.lsub X27.here hx rfl (hb hby at_158) rfl ?_
        show Steps p.tables e below (T27.setTop (mkF m 159 #[.val (.long q0), .second, .val (.long q1), .second, .val (.long q2), .second, .val (.long q3), .second, .val (.long q4), .second, .val (.long lg), .second, .val (.long sz), .second, .val (.long mm), .second, .val (.long kk), .second, .val (.long mb), .second, .val (.long tv), .second, .val (.ref b3), .val (.ref b_7), .val (.int (own_gr kk mm sz lg)), .val (.ref b_18), .val (.int (own_gr tv mb (own_gf kk mm sz lg) lg)), .unset, .unset, .unset] [(.long (sz - mm))])) _
        refine XS.lstore X27.here hx rfl (hb hby at_159) rfl (l' := #[.val (.long q0), .second, .val (.long q1), .second, .val (.long q2), .second, .val (.long q3), .second, .val (.long q4), .second, .val (.long lg), .second, .val (.long sz), .second, .val (.long mm), .second, .val (.long kk), .second, .val (.long mb), .second, .val (.long tv), .second, .val (.ref b3), .val (.ref b_7), .val (.int (own_gr kk mm sz lg)), .val (.ref b_18), .val (.int (own_gr tv mb (own_gf kk mm sz lg) lg)), .val (.long (sz - mm)), .second, .unset]) rfl ?_
        subst e_fre
        exact kt
      · rw [if_neg hc141_29] at e_fre
        show Steps p.tables e below (T27.setTop (mkF m 141 #[.val (.long q0), .second, .val (.long q1), .second, .val (.long q2), .second, .val (.long q3), .second, .val (.long q4), .second, .val (.long lg), .second, .val (.long sz), .second, .val (.long mm), .second, .val (.long kk), .second, .val (.long mb), .second, .val (.long tv), .second, .val (.ref b3), .val (.ref b_7), .val (.int (own_gr kk mm sz lg)), .val (.ref b_18), .val (.int (own_gr tv mb (own_gf kk mm sz lg) lg)), .unset, .unset, .unset] [(.int (lcmpW (sz - kk) lg))])) _
        refine XS.ifNo X27.here hx rfl (hb hby at_141) rfl ((if0 _ _).trans (flt (mt (lw_lt _ _).mp hc141_29)).1) ?_
        show Steps p.tables e below (T27.setTop (mkF m 144 #[.val (.long q0), .second, .val (.long q1), .second, .val (.long q2), .second, .val (.long q3), .second, .val (.long q4), .second, .val (.long lg), .second, .val (.long sz), .second, .val (.long mm), .second, .val (.long kk), .second, .val (.long mb), .second, .val (.long tv), .second, .val (.ref b3), .val (.ref b_7), .val (.int (own_gr kk mm sz lg)), .val (.ref b_18), .val (.int (own_gr tv mb (own_gf kk mm sz lg) lg)), .unset, .unset, .unset] [])) _
        refine XS.lload X27.here hx rfl (hb hby at_144) rfl ?_
        show Steps p.tables e below (T27.setTop (mkF m 146 #[.val (.long q0), .second, .val (.long q1), .second, .val (.long q2), .second, .val (.long q3), .second, .val (.long q4), .second, .val (.long lg), .second, .val (.long sz), .second, .val (.long mm), .second, .val (.long kk), .second, .val (.long mb), .second, .val (.long tv), .second, .val (.ref b3), .val (.ref b_7), .val (.int (own_gr kk mm sz lg)), .val (.ref b_18), .val (.int (own_gr tv mb (own_gf kk mm sz lg) lg)), .unset, .unset, .unset] [(.long sz)])) _
        refine XS.lload X27.here hx rfl (hb hby at_146) rfl ?_
        show Steps p.tables e below (T27.setTop (mkF m 148 #[.val (.long q0), .second, .val (.long q1), .second, .val (.long q2), .second, .val (.long q3), .second, .val (.long q4), .second, .val (.long lg), .second, .val (.long sz), .second, .val (.long mm), .second, .val (.long kk), .second, .val (.long mb), .second, .val (.long tv), .second, .val (.ref b3), .val (.ref b_7), .val (.int (own_gr kk mm sz lg)), .val (.ref b_18), .val (.int (own_gr tv mb (own_gf kk mm sz lg) lg)), .unset, .unset, .unset] [(.long kk), (.long sz)])) _
        refine XS.lsub X27.here hx rfl (hb hby at_148) rfl ?_
        show Steps p.tables e below (T27.setTop (mkF m 149 #[.val (.long q0), .second, .val (.long q1), .second, .val (.long q2), .second, .val (.long q3), .second, .val (.long q4), .second, .val (.long lg), .second, .val (.long sz), .second, .val (.long mm), .second, .val (.long kk), .second, .val (.long mb), .second, .val (.long tv), .second, .val (.ref b3), .val (.ref b_7), .val (.int (own_gr kk mm sz lg)), .val (.ref b_18), .val (.int (own_gr tv mb (own_gf kk mm sz lg) lg)), .unset, .unset, .unset] [(.long (sz - kk))])) _
        refine XS.lstore X27.here hx rfl (hb hby at_149) rfl (l' := #[.val (.long q0), .second, .val (.long q1), .second, .val (.long q2), .second, .val (.long q3), .second, .val (.long q4), .second, .val (.long lg), .second, .val (.long sz), .second, .val (.long mm), .second, .val (.long kk), .second, .val (.long mb), .second, .val (.long tv), .second, .val (.ref b3), .val (.ref b_7), .val (.int (own_gr kk mm sz lg)), .val (.ref b_18), .val (.int (own_gr tv mb (own_gf kk mm sz lg) lg)), .val (.long (sz - kk)), .second, .unset]) rfl ?_
        show Steps p.tables e below (T27.setTop (mkF m 151 #[.val (.long q0), .second, .val (.long q1), .second, .val (.long q2), .second, .val (.long q3), .second, .val (.long q4), .second, .val (.long lg), .second, .val (.long sz), .second, .val (.long mm), .second, .val (.long kk), .second, .val (.long mb), .second, .val (.long tv), .second, .val (.ref b3), .val (.ref b_7), .val (.int (own_gr kk mm sz lg)), .val (.ref b_18), .val (.int (own_gr tv mb (own_gf kk mm sz lg) lg)), .val (.long (sz - kk)), .second, .unset] [])) _
        refine XS.goto X27.here hx rfl (pc0 := 151) (pc' := 161) rfl (hb hby at_151) (by decide) (by decide) ?_
        subst e_fre
        exact kt
  obtain ⟨ex2, e_ex2⟩ : ∃ z : Int32, z = (if tv = (0 : Int64) then (1 : Int32) else (if (fre - (1 : Int64)) < lg then (if fre < mb then (0 : Int32) else 1) else (1 : Int32))) := ⟨_, rfl⟩
  have pre33 : ∀ t, Steps p.tables e below (T27.setTop (mkF m 205 #[.val (.long q0), .second, .val (.long q1), .second, .val (.long q2), .second, .val (.long q3), .second, .val (.long q4), .second, .val (.long lg), .second, .val (.long sz), .second, .val (.long mm), .second, .val (.long kk), .second, .val (.long mb), .second, .val (.long tv), .second, .val (.ref b3), .val (.ref b_7), .val (.int (own_gr kk mm sz lg)), .val (.ref b_18), .val (.int (own_gr tv mb (own_gf kk mm sz lg) lg)), .val (.long fre), .second, .val (.int ex2)] [])) t → Steps p.tables e below (s₁.setTop (entryFrame m #[(.long q0), (.long q1), (.long q2), (.long q3), (.long q4)] maxLocals)) t := by
    intro t kt
    refine pre30 _ ?_
    show Steps p.tables e below (T27.setTop (mkF m 161 #[.val (.long q0), .second, .val (.long q1), .second, .val (.long q2), .second, .val (.long q3), .second, .val (.long q4), .second, .val (.long lg), .second, .val (.long sz), .second, .val (.long mm), .second, .val (.long kk), .second, .val (.long mb), .second, .val (.long tv), .second, .val (.ref b3), .val (.ref b_7), .val (.int (own_gr kk mm sz lg)), .val (.ref b_18), .val (.int (own_gr tv mb (own_gf kk mm sz lg) lg)), .val (.long fre), .second, .unset] [])) _
    refine XS.lload X27.here hx rfl (hb hby at_161) rfl ?_
    show Steps p.tables e below (T27.setTop (mkF m 163 #[.val (.long q0), .second, .val (.long q1), .second, .val (.long q2), .second, .val (.long q3), .second, .val (.long q4), .second, .val (.long lg), .second, .val (.long sz), .second, .val (.long mm), .second, .val (.long kk), .second, .val (.long mb), .second, .val (.long tv), .second, .val (.ref b3), .val (.ref b_7), .val (.int (own_gr kk mm sz lg)), .val (.ref b_18), .val (.int (own_gr tv mb (own_gf kk mm sz lg) lg)), .val (.long fre), .second, .unset] [(.long tv)])) _
    refine XS.lconst X27.here hx rfl (hb hby at_163) ?_
    show Steps p.tables e below (T27.setTop (mkF m 164 #[.val (.long q0), .second, .val (.long q1), .second, .val (.long q2), .second, .val (.long q3), .second, .val (.long q4), .second, .val (.long lg), .second, .val (.long sz), .second, .val (.long mm), .second, .val (.long kk), .second, .val (.long mb), .second, .val (.long tv), .second, .val (.ref b3), .val (.ref b_7), .val (.int (own_gr kk mm sz lg)), .val (.ref b_18), .val (.int (own_gr tv mb (own_gf kk mm sz lg) lg)), .val (.long fre), .second, .unset] [(.long (0 : Int64)), (.long tv)])) _
    refine XS.lcmp X27.here hx rfl (hb hby at_164) rfl ?_
    by_cases hc165_31 : tv = (0 : Int64)
    · rw [if_pos hc165_31] at e_ex2
      show Steps p.tables e below (T27.setTop (mkF m 165 #[.val (.long q0), .second, .val (.long q1), .second, .val (.long q2), .second, .val (.long q3), .second, .val (.long q4), .second, .val (.long lg), .second, .val (.long sz), .second, .val (.long mm), .second, .val (.long kk), .second, .val (.long mb), .second, .val (.long tv), .second, .val (.ref b3), .val (.ref b_7), .val (.int (own_gr kk mm sz lg)), .val (.ref b_18), .val (.int (own_gr tv mb (own_gf kk mm sz lg) lg)), .val (.long fre), .second, .unset] [(.int (lcmpW tv (0 : Int64)))])) _
      refine XS.ifNo X27.here hx rfl (hb hby at_165) rfl ((if0 _ _).trans (teq ((lw_eq _ _).mpr hc165_31)).2) ?_
      show Steps p.tables e below (T27.setTop (mkF m 168 #[.val (.long q0), .second, .val (.long q1), .second, .val (.long q2), .second, .val (.long q3), .second, .val (.long q4), .second, .val (.long lg), .second, .val (.long sz), .second, .val (.long mm), .second, .val (.long kk), .second, .val (.long mb), .second, .val (.long tv), .second, .val (.ref b3), .val (.ref b_7), .val (.int (own_gr kk mm sz lg)), .val (.ref b_18), .val (.int (own_gr tv mb (own_gf kk mm sz lg) lg)), .val (.long fre), .second, .unset] [])) _
      refine XS.iconst X27.here hx rfl (hb hby at_168) ?_
      show Steps p.tables e below (T27.setTop (mkF m 169 #[.val (.long q0), .second, .val (.long q1), .second, .val (.long q2), .second, .val (.long q3), .second, .val (.long q4), .second, .val (.long lg), .second, .val (.long sz), .second, .val (.long mm), .second, .val (.long kk), .second, .val (.long mb), .second, .val (.long tv), .second, .val (.ref b3), .val (.ref b_7), .val (.int (own_gr kk mm sz lg)), .val (.ref b_18), .val (.int (own_gr tv mb (own_gf kk mm sz lg) lg)), .val (.long fre), .second, .unset] [(.int (1 : Int32))])) _
      refine XS.istore X27.here hx rfl (hb hby at_169) rfl (l' := #[.val (.long q0), .second, .val (.long q1), .second, .val (.long q2), .second, .val (.long q3), .second, .val (.long q4), .second, .val (.long lg), .second, .val (.long sz), .second, .val (.long mm), .second, .val (.long kk), .second, .val (.long mb), .second, .val (.long tv), .second, .val (.ref b3), .val (.ref b_7), .val (.int (own_gr kk mm sz lg)), .val (.ref b_18), .val (.int (own_gr tv mb (own_gf kk mm sz lg) lg)), .val (.long fre), .second, .val (.int (1 : Int32))]) rfl ?_
      show Steps p.tables e below (T27.setTop (mkF m 171 #[.val (.long q0), .second, .val (.long q1), .second, .val (.long q2), .second, .val (.long q3), .second, .val (.long q4), .second, .val (.long lg), .second, .val (.long sz), .second, .val (.long mm), .second, .val (.long kk), .second, .val (.long mb), .second, .val (.long tv), .second, .val (.ref b3), .val (.ref b_7), .val (.int (own_gr kk mm sz lg)), .val (.ref b_18), .val (.int (own_gr tv mb (own_gf kk mm sz lg) lg)), .val (.long fre), .second, .val (.int (1 : Int32))] [])) _
      refine XS.goto X27.here hx rfl (pc0 := 171) (pc' := 205) rfl (hb hby at_171) (by decide) (by decide) ?_
      subst e_ex2
      exact kt
    · rw [if_neg hc165_31] at e_ex2
      show Steps p.tables e below (T27.setTop (mkF m 165 #[.val (.long q0), .second, .val (.long q1), .second, .val (.long q2), .second, .val (.long q3), .second, .val (.long q4), .second, .val (.long lg), .second, .val (.long sz), .second, .val (.long mm), .second, .val (.long kk), .second, .val (.long mb), .second, .val (.long tv), .second, .val (.ref b3), .val (.ref b_7), .val (.int (own_gr kk mm sz lg)), .val (.ref b_18), .val (.int (own_gr tv mb (own_gf kk mm sz lg) lg)), .val (.long fre), .second, .unset] [(.int (lcmpW tv (0 : Int64)))])) _
      refine XS.ifYes X27.here hx rfl (pc0 := 165) (pc' := 174) rfl (hb hby at_165) rfl ((if0 _ _).trans (feq (mt (lw_eq _ _).mp hc165_31)).2) (by decide) (by decide) ?_
      show Steps p.tables e below (T27.setTop (mkF m 174 #[.val (.long q0), .second, .val (.long q1), .second, .val (.long q2), .second, .val (.long q3), .second, .val (.long q4), .second, .val (.long lg), .second, .val (.long sz), .second, .val (.long mm), .second, .val (.long kk), .second, .val (.long mb), .second, .val (.long tv), .second, .val (.ref b3), .val (.ref b_7), .val (.int (own_gr kk mm sz lg)), .val (.ref b_18), .val (.int (own_gr tv mb (own_gf kk mm sz lg) lg)), .val (.long fre), .second, .unset] [])) _
      refine XS.lload X27.here hx rfl (hb hby at_174) rfl ?_
      show Steps p.tables e below (T27.setTop (mkF m 176 #[.val (.long q0), .second, .val (.long q1), .second, .val (.long q2), .second, .val (.long q3), .second, .val (.long q4), .second, .val (.long lg), .second, .val (.long sz), .second, .val (.long mm), .second, .val (.long kk), .second, .val (.long mb), .second, .val (.long tv), .second, .val (.ref b3), .val (.ref b_7), .val (.int (own_gr kk mm sz lg)), .val (.ref b_18), .val (.int (own_gr tv mb (own_gf kk mm sz lg) lg)), .val (.long fre), .second, .unset] [(.long fre)])) _
      refine XS.lconst X27.here hx rfl (hb hby at_176) ?_
      show Steps p.tables e below (T27.setTop (mkF m 177 #[.val (.long q0), .second, .val (.long q1), .second, .val (.long q2), .second, .val (.long q3), .second, .val (.long q4), .second, .val (.long lg), .second, .val (.long sz), .second, .val (.long mm), .second, .val (.long kk), .second, .val (.long mb), .second, .val (.long tv), .second, .val (.ref b3), .val (.ref b_7), .val (.int (own_gr kk mm sz lg)), .val (.ref b_18), .val (.int (own_gr tv mb (own_gf kk mm sz lg) lg)), .val (.long fre), .second, .unset] [(.long (1 : Int64)), (.long fre)])) _
      refine XS.lsub X27.here hx rfl (hb hby at_177) rfl ?_
      show Steps p.tables e below (T27.setTop (mkF m 178 #[.val (.long q0), .second, .val (.long q1), .second, .val (.long q2), .second, .val (.long q3), .second, .val (.long q4), .second, .val (.long lg), .second, .val (.long sz), .second, .val (.long mm), .second, .val (.long kk), .second, .val (.long mb), .second, .val (.long tv), .second, .val (.ref b3), .val (.ref b_7), .val (.int (own_gr kk mm sz lg)), .val (.ref b_18), .val (.int (own_gr tv mb (own_gf kk mm sz lg) lg)), .val (.long fre), .second, .unset] [(.long (fre - (1 : Int64)))])) _
      refine XS.lload X27.here hx rfl (hb hby at_178) rfl ?_
      show Steps p.tables e below (T27.setTop (mkF m 180 #[.val (.long q0), .second, .val (.long q1), .second, .val (.long q2), .second, .val (.long q3), .second, .val (.long q4), .second, .val (.long lg), .second, .val (.long sz), .second, .val (.long mm), .second, .val (.long kk), .second, .val (.long mb), .second, .val (.long tv), .second, .val (.ref b3), .val (.ref b_7), .val (.int (own_gr kk mm sz lg)), .val (.ref b_18), .val (.int (own_gr tv mb (own_gf kk mm sz lg) lg)), .val (.long fre), .second, .unset] [(.long lg), (.long (fre - (1 : Int64)))])) _
      refine XS.lcmp X27.here hx rfl (hb hby at_180) rfl ?_
      by_cases hc181_32 : (fre - (1 : Int64)) < lg
      · rw [if_pos hc181_32] at e_ex2
        show Steps p.tables e below (T27.setTop (mkF m 181 #[.val (.long q0), .second, .val (.long q1), .second, .val (.long q2), .second, .val (.long q3), .second, .val (.long q4), .second, .val (.long lg), .second, .val (.long sz), .second, .val (.long mm), .second, .val (.long kk), .second, .val (.long mb), .second, .val (.long tv), .second, .val (.ref b3), .val (.ref b_7), .val (.int (own_gr kk mm sz lg)), .val (.ref b_18), .val (.int (own_gr tv mb (own_gf kk mm sz lg) lg)), .val (.long fre), .second, .unset] [(.int (lcmpW (fre - (1 : Int64)) lg))])) _
        refine XS.ifYes X27.here hx rfl (pc0 := 181) (pc' := 190) rfl (hb hby at_181) rfl ((if0 _ _).trans (tlt ((lw_lt _ _).mpr hc181_32)).1) (by decide) (by decide) ?_
        show Steps p.tables e below (T27.setTop (mkF m 190 #[.val (.long q0), .second, .val (.long q1), .second, .val (.long q2), .second, .val (.long q3), .second, .val (.long q4), .second, .val (.long lg), .second, .val (.long sz), .second, .val (.long mm), .second, .val (.long kk), .second, .val (.long mb), .second, .val (.long tv), .second, .val (.ref b3), .val (.ref b_7), .val (.int (own_gr kk mm sz lg)), .val (.ref b_18), .val (.int (own_gr tv mb (own_gf kk mm sz lg) lg)), .val (.long fre), .second, .unset] [])) _
        refine XS.lload X27.here hx rfl (hb hby at_190) rfl ?_
        show Steps p.tables e below (T27.setTop (mkF m 192 #[.val (.long q0), .second, .val (.long q1), .second, .val (.long q2), .second, .val (.long q3), .second, .val (.long q4), .second, .val (.long lg), .second, .val (.long sz), .second, .val (.long mm), .second, .val (.long kk), .second, .val (.long mb), .second, .val (.long tv), .second, .val (.ref b3), .val (.ref b_7), .val (.int (own_gr kk mm sz lg)), .val (.ref b_18), .val (.int (own_gr tv mb (own_gf kk mm sz lg) lg)), .val (.long fre), .second, .unset] [(.long mb)])) _
        refine XS.lload X27.here hx rfl (hb hby at_192) rfl ?_
        show Steps p.tables e below (T27.setTop (mkF m 194 #[.val (.long q0), .second, .val (.long q1), .second, .val (.long q2), .second, .val (.long q3), .second, .val (.long q4), .second, .val (.long lg), .second, .val (.long sz), .second, .val (.long mm), .second, .val (.long kk), .second, .val (.long mb), .second, .val (.long tv), .second, .val (.ref b3), .val (.ref b_7), .val (.int (own_gr kk mm sz lg)), .val (.ref b_18), .val (.int (own_gr tv mb (own_gf kk mm sz lg) lg)), .val (.long fre), .second, .unset] [(.long fre), (.long mb)])) _
        refine XS.lcmp X27.here hx rfl (hb hby at_194) rfl ?_
        show Steps p.tables e below (T27.setTop (mkF m 195 #[.val (.long q0), .second, .val (.long q1), .second, .val (.long q2), .second, .val (.long q3), .second, .val (.long q4), .second, .val (.long lg), .second, .val (.long sz), .second, .val (.long mm), .second, .val (.long kk), .second, .val (.long mb), .second, .val (.long tv), .second, .val (.ref b3), .val (.ref b_7), .val (.int (own_gr kk mm sz lg)), .val (.ref b_18), .val (.int (own_gr tv mb (own_gf kk mm sz lg) lg)), .val (.long fre), .second, .unset] [(.int (lcmpW mb fre))])) _
        refine own_diaT X27.here hx rfl (pc0 := 195) rfl (hb hby at_195) (hb hby at_198) (hb hby at_199) (hb hby at_202) rfl (fun hq => ((if0 _ _).trans (tlt ((lw_gt _ _).mpr hq)).2.2.1)) (fun hq => ((if0 _ _).trans (flt (mt (lw_gt _ _).mp hq)).2.2.1)) ?_
        show Steps p.tables e below (T27.setTop (mkF m 203 #[.val (.long q0), .second, .val (.long q1), .second, .val (.long q2), .second, .val (.long q3), .second, .val (.long q4), .second, .val (.long lg), .second, .val (.long sz), .second, .val (.long mm), .second, .val (.long kk), .second, .val (.long mb), .second, .val (.long tv), .second, .val (.ref b3), .val (.ref b_7), .val (.int (own_gr kk mm sz lg)), .val (.ref b_18), .val (.int (own_gr tv mb (own_gf kk mm sz lg) lg)), .val (.long fre), .second, .unset] [(.int (if fre < mb then (0 : Int32) else 1))])) _
        refine XS.istore X27.here hx rfl (hb hby at_203) rfl (l' := #[.val (.long q0), .second, .val (.long q1), .second, .val (.long q2), .second, .val (.long q3), .second, .val (.long q4), .second, .val (.long lg), .second, .val (.long sz), .second, .val (.long mm), .second, .val (.long kk), .second, .val (.long mb), .second, .val (.long tv), .second, .val (.ref b3), .val (.ref b_7), .val (.int (own_gr kk mm sz lg)), .val (.ref b_18), .val (.int (own_gr tv mb (own_gf kk mm sz lg) lg)), .val (.long fre), .second, .val (.int (if fre < mb then (0 : Int32) else 1))]) rfl ?_
        subst e_ex2
        exact kt
      · rw [if_neg hc181_32] at e_ex2
        show Steps p.tables e below (T27.setTop (mkF m 181 #[.val (.long q0), .second, .val (.long q1), .second, .val (.long q2), .second, .val (.long q3), .second, .val (.long q4), .second, .val (.long lg), .second, .val (.long sz), .second, .val (.long mm), .second, .val (.long kk), .second, .val (.long mb), .second, .val (.long tv), .second, .val (.ref b3), .val (.ref b_7), .val (.int (own_gr kk mm sz lg)), .val (.ref b_18), .val (.int (own_gr tv mb (own_gf kk mm sz lg) lg)), .val (.long fre), .second, .unset] [(.int (lcmpW (fre - (1 : Int64)) lg))])) _
        refine XS.ifNo X27.here hx rfl (hb hby at_181) rfl ((if0 _ _).trans (flt (mt (lw_lt _ _).mp hc181_32)).1) ?_
        show Steps p.tables e below (T27.setTop (mkF m 184 #[.val (.long q0), .second, .val (.long q1), .second, .val (.long q2), .second, .val (.long q3), .second, .val (.long q4), .second, .val (.long lg), .second, .val (.long sz), .second, .val (.long mm), .second, .val (.long kk), .second, .val (.long mb), .second, .val (.long tv), .second, .val (.ref b3), .val (.ref b_7), .val (.int (own_gr kk mm sz lg)), .val (.ref b_18), .val (.int (own_gr tv mb (own_gf kk mm sz lg) lg)), .val (.long fre), .second, .unset] [])) _
        refine XS.iconst X27.here hx rfl (hb hby at_184) ?_
        show Steps p.tables e below (T27.setTop (mkF m 185 #[.val (.long q0), .second, .val (.long q1), .second, .val (.long q2), .second, .val (.long q3), .second, .val (.long q4), .second, .val (.long lg), .second, .val (.long sz), .second, .val (.long mm), .second, .val (.long kk), .second, .val (.long mb), .second, .val (.long tv), .second, .val (.ref b3), .val (.ref b_7), .val (.int (own_gr kk mm sz lg)), .val (.ref b_18), .val (.int (own_gr tv mb (own_gf kk mm sz lg) lg)), .val (.long fre), .second, .unset] [(.int (1 : Int32))])) _
        refine XS.istore X27.here hx rfl (hb hby at_185) rfl (l' := #[.val (.long q0), .second, .val (.long q1), .second, .val (.long q2), .second, .val (.long q3), .second, .val (.long q4), .second, .val (.long lg), .second, .val (.long sz), .second, .val (.long mm), .second, .val (.long kk), .second, .val (.long mb), .second, .val (.long tv), .second, .val (.ref b3), .val (.ref b_7), .val (.int (own_gr kk mm sz lg)), .val (.ref b_18), .val (.int (own_gr tv mb (own_gf kk mm sz lg) lg)), .val (.long fre), .second, .val (.int (1 : Int32))]) rfl ?_
        show Steps p.tables e below (T27.setTop (mkF m 187 #[.val (.long q0), .second, .val (.long q1), .second, .val (.long q2), .second, .val (.long q3), .second, .val (.long q4), .second, .val (.long lg), .second, .val (.long sz), .second, .val (.long mm), .second, .val (.long kk), .second, .val (.long mb), .second, .val (.long tv), .second, .val (.ref b3), .val (.ref b_7), .val (.int (own_gr kk mm sz lg)), .val (.ref b_18), .val (.int (own_gr tv mb (own_gf kk mm sz lg) lg)), .val (.long fre), .second, .val (.int (1 : Int32))] [])) _
        refine XS.goto X27.here hx rfl (pc0 := 187) (pc' := 205) rfl (hb hby at_187) (by decide) (by decide) ?_
        subst e_ex2
        exact kt
  have hc207_34 : ¬ ((own_gr kk mm sz lg) = (0 : Int32)) := by rw [own_r1 hk.1 hk.2 hm.2 hsz.1]; decide
  have hc214_35 : (own_gr tv mb (own_gf kk mm sz lg) lg) = ex2 := by rw [own_r2 e_tv, own_f1 hk.1 hk.2 hm.2 hsz.1, ← e_fre]; exact e_ex2.symm
  obtain ⟨fs, hr, hrun, hended, hW, hsame⟩ := X27.leave (v := some (.int (1 : Int32))) (fun h => by rw [Bd.returns] at h; cases h)
  refine ⟨_, _, pre33 _ ?_, hrun, hended, _, _, rfl, ?_, ⟨_, rfl⟩, hW, hsame.mono (by decide) (by decide)⟩
  · show Steps p.tables e below (T27.setTop (mkF m 205 #[.val (.long q0), .second, .val (.long q1), .second, .val (.long q2), .second, .val (.long q3), .second, .val (.long q4), .second, .val (.long lg), .second, .val (.long sz), .second, .val (.long mm), .second, .val (.long kk), .second, .val (.long mb), .second, .val (.long tv), .second, .val (.ref b3), .val (.ref b_7), .val (.int (own_gr kk mm sz lg)), .val (.ref b_18), .val (.int (own_gr tv mb (own_gf kk mm sz lg) lg)), .val (.long fre), .second, .val (.int ex2)] [])) _
    refine XS.iload X27.here hx rfl (hb hby at_205) rfl ?_
    show Steps p.tables e below (T27.setTop (mkF m 207 #[.val (.long q0), .second, .val (.long q1), .second, .val (.long q2), .second, .val (.long q3), .second, .val (.long q4), .second, .val (.long lg), .second, .val (.long sz), .second, .val (.long mm), .second, .val (.long kk), .second, .val (.long mb), .second, .val (.long tv), .second, .val (.ref b3), .val (.ref b_7), .val (.int (own_gr kk mm sz lg)), .val (.ref b_18), .val (.int (own_gr tv mb (own_gf kk mm sz lg) lg)), .val (.long fre), .second, .val (.int ex2)] [(.int (own_gr kk mm sz lg))])) _
    refine XS.ifNo X27.here hx rfl (hb hby at_207) rfl ((if0 _ _).trans (feq hc207_34).1) ?_
    show Steps p.tables e below (T27.setTop (mkF m 210 #[.val (.long q0), .second, .val (.long q1), .second, .val (.long q2), .second, .val (.long q3), .second, .val (.long q4), .second, .val (.long lg), .second, .val (.long sz), .second, .val (.long mm), .second, .val (.long kk), .second, .val (.long mb), .second, .val (.long tv), .second, .val (.ref b3), .val (.ref b_7), .val (.int (own_gr kk mm sz lg)), .val (.ref b_18), .val (.int (own_gr tv mb (own_gf kk mm sz lg) lg)), .val (.long fre), .second, .val (.int ex2)] [])) _
    refine XS.iload X27.here hx rfl (hb hby at_210) rfl ?_
    show Steps p.tables e below (T27.setTop (mkF m 212 #[.val (.long q0), .second, .val (.long q1), .second, .val (.long q2), .second, .val (.long q3), .second, .val (.long q4), .second, .val (.long lg), .second, .val (.long sz), .second, .val (.long mm), .second, .val (.long kk), .second, .val (.long mb), .second, .val (.long tv), .second, .val (.ref b3), .val (.ref b_7), .val (.int (own_gr kk mm sz lg)), .val (.ref b_18), .val (.int (own_gr tv mb (own_gf kk mm sz lg) lg)), .val (.long fre), .second, .val (.int ex2)] [(.int (own_gr tv mb (own_gf kk mm sz lg) lg))])) _
    refine XS.iload X27.here hx rfl (hb hby at_212) rfl ?_
    show Steps p.tables e below (T27.setTop (mkF m 214 #[.val (.long q0), .second, .val (.long q1), .second, .val (.long q2), .second, .val (.long q3), .second, .val (.long q4), .second, .val (.long lg), .second, .val (.long sz), .second, .val (.long mm), .second, .val (.long kk), .second, .val (.long mb), .second, .val (.long tv), .second, .val (.ref b3), .val (.ref b_7), .val (.int (own_gr kk mm sz lg)), .val (.ref b_18), .val (.int (own_gr tv mb (own_gf kk mm sz lg) lg)), .val (.long fre), .second, .val (.int ex2)] [(.int ex2), (.int (own_gr tv mb (own_gf kk mm sz lg) lg))])) _
    refine XS.icmpNo X27.here hx rfl (hb hby at_214) rfl (teq hc214_35).2 ?_
    show Steps p.tables e below (T27.setTop (mkF m 217 #[.val (.long q0), .second, .val (.long q1), .second, .val (.long q2), .second, .val (.long q3), .second, .val (.long q4), .second, .val (.long lg), .second, .val (.long sz), .second, .val (.long mm), .second, .val (.long kk), .second, .val (.long mb), .second, .val (.long tv), .second, .val (.ref b3), .val (.ref b_7), .val (.int (own_gr kk mm sz lg)), .val (.ref b_18), .val (.int (own_gr tv mb (own_gf kk mm sz lg) lg)), .val (.long fre), .second, .val (.int ex2)] [])) _
    refine XS.iconst X27.here hx rfl (hb hby at_217) ?_
    show Steps p.tables e below (T27.setTop (mkF m 218 #[.val (.long q0), .second, .val (.long q1), .second, .val (.long q2), .second, .val (.long q3), .second, .val (.long q4), .second, .val (.long lg), .second, .val (.long sz), .second, .val (.long mm), .second, .val (.long kk), .second, .val (.long mb), .second, .val (.long tv), .second, .val (.ref b3), .val (.ref b_7), .val (.int (own_gr kk mm sz lg)), .val (.ref b_18), .val (.int (own_gr tv mb (own_gf kk mm sz lg) lg)), .val (.long fre), .second, .val (.int ex2)] [(.int (1 : Int32))])) _
    refine XS.goto X27.here hx rfl (pc0 := 218) (pc' := 222) rfl (hb hby at_218) (by decide) (by decide) ?_
    show Steps p.tables e below (T27.setTop (mkF m 222 #[.val (.long q0), .second, .val (.long q1), .second, .val (.long q2), .second, .val (.long q3), .second, .val (.long q4), .second, .val (.long lg), .second, .val (.long sz), .second, .val (.long mm), .second, .val (.long kk), .second, .val (.long mb), .second, .val (.long tv), .second, .val (.ref b3), .val (.ref b_7), .val (.int (own_gr kk mm sz lg)), .val (.ref b_18), .val (.int (own_gr tv mb (own_gf kk mm sz lg) lg)), .val (.long fre), .second, .val (.int ex2)] [(.int (1 : Int32))])) _
    exact retN X27 hx (t := .boolean) Bd.returns (by simp) (hb hby at_222) hr
  · show Q0 Z q0 q1 q2 q3 q4 h0 n0 _ T27.heap _
    exact ⟨rfl, N27⟩
set_option maxRecDepth 65536 in
set_option maxHeartbeats 40000000 in
theorem comes_1 {Post : Tables → Env → Array Value → State → Outcome → State → Prop} (hpost : ∀ tb e args s v u, (limb_1_1.after args s (.returned v) u = true ∧ limb_1_2.after args s (.returned v) u = true ∧ True) → FrameEnd s (.returned v) u (Jvm.fieldLocs frame_1_writes args s ++ Jvm.arrayLocs frame_1_arrays args s ++ Jvm.staticLocs frame_1_statics s) 16 128 → Post tb e args s (.returned v) u) :
    ArmFor flags0 classFile x code maxLocals ret World_1 tables_1 room_1 Calls_1 rest_1 Pre_1 Post := by
  intro l hfl _ _ p e ha hc hk s m args below hf hA hF happ hP
  obtain ⟨hcalls, hrest, hpre⟩ := hP
  obtain ⟨-, -, -, hnamed, -, -, -, hat⟩ := (Spec.applies_iff hf).mp happ
  obtain ⟨hg, hn⟩ := and_e (Cond.before_iff.mp (show (Jvm.Cond.and given_1 narrow_1).before args s = true from hpre))
  obtain ⟨g1, g2⟩ := and_e hg
  obtain ⟨g3, g4⟩ := and_e g2
  obtain ⟨g5, g6⟩ := and_e g4
  obtain ⟨g7, g8⟩ := and_e g6
  obtain ⟨g9, g10⟩ := and_e g8
  obtain ⟨w0, w1, w2, w3, w4, rfl⟩ : ∃ w0 w1 w2 w3 w4 : Value, args = #[w0, w1, w2, w3, w4] := by
    have hs : args.size = 5 := by simpa [Cond.value, given_1] using g1
    obtain ⟨L⟩ := args
    match L, hs with
    | [w0, w1, w2, w3, w4], _ => exact ⟨w0, w1, w2, w3, w4, rfl⟩
  have hw := fun d (hd : d ∈ tables_1) => atoms_spec (ws := Jvm.Cond.code x code maxLocals ret :: tables_1) hat d (List.mem_cons_of_mem _ hd)
  have hfit : Fit s := fun {y c} hc i hi => by
    obtain ⟨ha, rfl⟩ := Array.getElem?_eq_some_iff.mp hc
    have q := List.all_eq_true.mp ((Array.all_eq_true_iff_forall_mem.mp hF) _ (Array.getElem_mem ha)) i (List.mem_range.mpr hi)
    simpa [Array.getElem?_eq_getElem hi] using q
  obtain ⟨i0, ei0⟩ := isL_v g3
  obtain rfl : w0 = (.long i0) := Option.some.inj ei0
  obtain ⟨i1, ei1⟩ := isL_v g5
  obtain rfl : w1 = (.long i1) := Option.some.inj ei1
  obtain ⟨i2, ei2⟩ := isL_v g7
  obtain rfl : w2 = (.long i2) := Option.some.inj ei2
  obtain ⟨i3, ei3⟩ := isL_v g9
  obtain rfl : w3 = (.long i3) := Option.some.inj ei3
  obtain ⟨i4, ei4⟩ := isL_v g10
  obtain rfl : w4 = (.long i4) := Option.some.inj ei4
  obtain ⟨n, o, h1, h2, h3, _, L, rfl, ⟨rfl, N⟩, hq⟩ := rm0 l s _ hw tables_1 i0 i1 i2 i3 i4 s.heap s.heap.size (Nat.le_refl _) p e ha hc hk s m _ below hf ((Spec.applies_iff_loose hf).mp happ).1 ⟨rfl, State.Warmed39.refl s, rfl⟩ trivial
  refine ⟨n, _, h1, h2, h3, hpost _ _ _ _ _ _ ⟨Cond.after_iff.mpr rfl, Cond.after_iff.mpr (eq_i res_at (Term.int_eval (1)) rfl), trivial⟩ ⟨hq.1, hq.2.1, (hq.2.2.sift fun y hy => Or.inr (N y hy)).mono (by decide) (by decide)⟩⟩
theorem main_1_1 : Claimed_1_1 := comes_1 fun _ _ _ _ _ _ h hF => ⟨h.1, hF⟩
theorem main_1_2 : Claimed_1_2 := comes_1 fun _ _ _ _ _ _ h hF => ⟨h.2.1, hF⟩
end Jvm.Pilot.@@N@@
namespace Jvm.Pilot.@@N@@
open Jvm Jvm.ClassFile Sem Op Lib Jvm.Free Jvm.Stand Jvm.Pilot.@@N@@.Jvm.D
/-! MADE BY PROGRAM (witnessworld.py) out of the Statement's table words and the real class files: 11 classes; the members and pool entries that the words name. The judged class is class 1, her method 1. -/
namespace start1
open Jvm.ClassFile
def u (s : String) : CpInfo := .utf8 (stringToUtf16 s)
/-- a pool by its gaps: so many unusable entries, then the entry; so many at the end -/
def gap : Nat → List CpInfo → List CpInfo
  | 0, r => r
  | n + 1, r => .unusable :: gap n r
def poolList (es : List (Nat × CpInfo)) (last : Nat) : List CpInfo := es.foldr (fun e r => gap e.1 (e.2 :: r)) (gap last [])
def pool (es : List (Nat × CpInfo)) (last : Nat) : Array CpInfo := ⟨poolList es last⟩
def fileOf (pool : Array CpInfo) (this : Nat) (attrs : Array Attribute := #[]) (ms : Array MethodInfo := #[]) (fl : Nat := 33) (sup : Nat := 0) (ifs : Array Nat := #[]) (fds : Array FieldInfo := #[]) : ClassFile where
  minorVersion := 0
  majorVersion := 65
  constantPool := pool
  accessFlags := fl
  thisClass := this
  superClass := sup
  interfaces := ifs
  fields := fds
  methods := ms
  attributes := attrs
def plain (name : String) (sup : Option ClassId) : Class where
  name := name
  kind := .ordinary
  loader := none
  accessFlags := 33
  super := sup
  interfaces := #[]
  cf := none
  fields := #[]
  methods := #[]
  instanceTypes := #[]
  staticTypes := #[]
  resolved := #[]
  callSites := []
  init := .initialized
  statics := none
  mirror := none

def pool0 : Array CpInfo := pool [(5, u "<init>"), (0, u "()V"), (1, .class_ 10), (1, u "java/lang/Object")] 113

def k0c0 : Code := { maxStack := 0, maxLocals := 1, code := object_method_1_code, exceptionTable := #[], attributes := #[] }
def k0m0 : Method := { name := "<init>", desc := "()V", sig := { parameters := [], returnType := none }, accessFlags := 1, code := some k0c0 }
/-- java/lang/Object -/
def k0 : Class := { plain "java/lang/Object" none with
  accessFlags := 33
  interfaces := #[]
  cf := some (fileOf pool0 8 #[] #[{ accessFlags := 1, nameIndex := 5, descriptorIndex := 6, attributes := #[] }] 33 0 #[] #[])
  fields := #[]
  methods := #[k0m0]
  instanceTypes := #[]
  staticTypes := #[]
  resolved := Array.replicate 124 none
  statics := none }

def pool1 : Array CpInfo := pool [(2, .class_ 4), (1, u "java/lang/Object"), (0, u "<init>"), (0, u "()V"), (0, .long 4611686018427387903), (3, .long 9223372036854775807), (1, .class_ 14), (0, u "com/example/leave_to_act/leavetoact/ByteBudget"), (0, .methodref 13 16), (0, .nameAndType 5 17), (0, u "(JJ)V"), (0, .methodref 13 19), (0, .nameAndType 20 21), (0, u "open"), (0, u "(J)Lcom/example/leave_to_act/leavetoact/ByteBudget$Share;"), (0, .methodref 23 24), (0, .class_ 25), (0, .nameAndType 26 27), (0, u "com/example/leave_to_act/leavetoact/ByteBudget$Share"), (0, u "tryTake"), (0, u "(J)Z"), (0, .class_ 29), (0, u "com/example/leave_to_act/leavetoact/ByteBudgetOpenPinLaw"), (2, u "law"), (0, u "(JJJJJ)Z")] 5

def k1m0 : Method := { name := "<init>", desc := "()V", sig := { parameters := [], returnType := none }, accessFlags := 1, code := none }
def k1c1 : Code := { maxStack := 6, maxLocals := 30, code := code, exceptionTable := #[], attributes := #[] }
def k1m1 : Method := { name := "law", desc := "(JJJJJ)Z", sig := { parameters := [.long, .long, .long, .long, .long], returnType := some .boolean }, accessFlags := 9, code := some k1c1 }
/-- com/example/leave_to_act/leavetoact/ByteBudgetOpenPinLaw -/
def k1 : Class := { plain "com/example/leave_to_act/leavetoact/ByteBudgetOpenPinLaw" (some 0) with
  accessFlags := 49
  interfaces := #[]
  cf := some (fileOf pool1 28 #[] #[{ accessFlags := 1, nameIndex := 5, descriptorIndex := 6, attributes := #[] }, { accessFlags := 9, nameIndex := 32, descriptorIndex := 33, attributes := #[] }] 49 2 #[] #[])
  fields := #[]
  methods := #[k1m0, k1m1]
  instanceTypes := #[]
  staticTypes := #[]
  resolved := Array.replicate 39 none
  statics := none }

def pool2 : Array CpInfo := pool [(1, .methodref 2 3), (0, .class_ 4), (0, .nameAndType 5 6), (0, u "java/lang/Object"), (0, u "<init>"), (0, u "()V"), (9, .fieldref 17 18), (0, .class_ 19), (0, .nameAndType 20 21), (0, u "com/example/leave_to_act/leavetoact/ByteBudget"), (0, u "largest"), (0, u "J"), (0, .fieldref 17 23), (0, .nameAndType 24 21), (0, u "free"), (1, .class_ 27), (0, u "com/example/leave_to_act/leavetoact/ByteBudget$Share"), (0, .methodref 26 29), (0, .nameAndType 5 30), (0, u "(Lcom/example/leave_to_act/leavetoact/ByteBudget;J)V"), (0, .fieldref 26 32), (0, .nameAndType 33 21), (0, u "taken"), (0, .fieldref 26 35), (0, .nameAndType 36 21), (0, u "most"), (3, .fieldref 26 41), (0, .nameAndType 42 21), (0, u "given"), (0, u "(JJ)V"), (3, u "open"), (0, u "(J)Lcom/example/leave_to_act/leavetoact/ByteBudget$Share;"), (0, u "give"), (0, u "(Lcom/example/leave_to_act/leavetoact/ByteBudget$Share;J)Z")] 23

def k2c0 : Code := { maxStack := 6, maxLocals := 5, code := prog_2_method_1_code, exceptionTable := #[], attributes := #[] }
def k2m0 : Method := { name := "<init>", desc := "(JJ)V", sig := { parameters := [.long, .long], returnType := none }, accessFlags := 0, code := some k2c0 }
def k2c1 : Code := { maxStack := 6, maxLocals := 3, code := prog_2_method_2_code, exceptionTable := #[], attributes := #[] }
def k2m1 : Method := { name := "open", desc := "(J)Lcom/example/leave_to_act/leavetoact/ByteBudget$Share;", sig := { parameters := [.long], returnType := some (.object "com/example/leave_to_act/leavetoact/ByteBudget$Share") }, accessFlags := 0, code := some k2c1 }
def k2c2 : Code := { maxStack := 8, maxLocals := 10, code := prog_2_method_3_code, exceptionTable := #[], attributes := #[] }
def k2m2 : Method := { name := "give", desc := "(Lcom/example/leave_to_act/leavetoact/ByteBudget$Share;J)Z", sig := { parameters := [(.object "com/example/leave_to_act/leavetoact/ByteBudget$Share"), .long], returnType := some .boolean }, accessFlags := 2, code := some k2c2 }
/-- com/example/leave_to_act/leavetoact/ByteBudget -/
def k2 : Class := { plain "com/example/leave_to_act/leavetoact/ByteBudget" (some 0) with
  accessFlags := 48
  interfaces := #[]
  cf := some (fileOf pool2 17 #[.nestMembers #[26]] #[{ accessFlags := 0, nameIndex := 5, descriptorIndex := 43, attributes := #[] }, { accessFlags := 0, nameIndex := 47, descriptorIndex := 48, attributes := #[] }, { accessFlags := 2, nameIndex := 49, descriptorIndex := 50, attributes := #[] }] 48 2 #[] #[{ accessFlags := 18, nameIndex := 20, descriptorIndex := 21, attributes := #[] }, { accessFlags := 2, nameIndex := 24, descriptorIndex := 21, attributes := #[] }])
  fields := #[{ name := "largest", type := .long, accessFlags := 18, slot := 0, constantValue := 0 }, { name := "free", type := .long, accessFlags := 2, slot := 1, constantValue := 0 }]
  methods := #[k2m0, k2m1, k2m2]
  instanceTypes := #[.long, .long]
  staticTypes := #[]
  resolved := ((((((Array.replicate 74 none).setIfInBounds 26 (some (.cls 4))).setIfInBounds 28 (some (.method ⟨4, 0⟩))).setIfInBounds 31 (some (.field 4 2))).setIfInBounds 34 (some (.field 4 0))).setIfInBounds 40 (some (.field 4 1)))
  statics := none }

def pool3 : Array CpInfo := pool [(1, .class_ 2), (0, u "java/lang/AutoCloseable"), (0, .class_ 4), (0, u "java/lang/Object")] 7

/-- java/lang/AutoCloseable -/
def k3 : Class := { plain "java/lang/AutoCloseable" (some 0) with
  accessFlags := 1537
  interfaces := #[]
  cf := some (fileOf pool3 1 #[] #[] 1537 3 #[] #[])
  fields := #[]
  methods := #[]
  instanceTypes := #[]
  staticTypes := #[]
  resolved := Array.replicate 12 none
  statics := none }

def pool4 : Array CpInfo := pool [(1, .fieldref 2 3), (0, .class_ 4), (0, .nameAndType 5 6), (0, u "com/example/leave_to_act/leavetoact/ByteBudget$Share"), (0, u "this$0"), (0, u "Lcom/example/leave_to_act/leavetoact/ByteBudget;"), (0, .methodref 8 9), (0, .class_ 10), (0, .nameAndType 11 12), (0, u "java/lang/Object"), (0, u "<init>"), (0, u "()V"), (0, .fieldref 2 14), (0, .nameAndType 15 16), (0, u "most"), (0, u "J"), (0, .methodref 18 19), (0, .class_ 20), (0, .nameAndType 21 22), (0, u "com/example/leave_to_act/leavetoact/ByteBudget"), (0, u "give"), (0, u "(Lcom/example/leave_to_act/leavetoact/ByteBudget$Share;J)Z"), (8, u "given"), (2, u "taken"), (3, .class_ 39), (0, u "java/lang/AutoCloseable"), (0, u "(Lcom/example/leave_to_act/leavetoact/ByteBudget;J)V"), (3, u "tryTake"), (0, u "(J)Z")] 14

def k4c0 : Code := { maxStack := 3, maxLocals := 4, code := prog_3_method_1_code, exceptionTable := #[], attributes := #[] }
def k4m0 : Method := { name := "<init>", desc := "(Lcom/example/leave_to_act/leavetoact/ByteBudget;J)V", sig := { parameters := [(.object "com/example/leave_to_act/leavetoact/ByteBudget"), .long], returnType := none }, accessFlags := 2, code := some k4c0 }
def k4c1 : Code := { maxStack := 4, maxLocals := 5, code := prog_3_method_2_code, exceptionTable := #[{ startPc := 7, endPc := 18, handlerPc := 19, catchType := 0 }, { startPc := 19, endPc := 23, handlerPc := 19, catchType := 0 }], attributes := #[] }
def k4m1 : Method := { name := "tryTake", desc := "(J)Z", sig := { parameters := [.long], returnType := some .boolean }, accessFlags := 0, code := some k4c1 }
/-- com/example/leave_to_act/leavetoact/ByteBudget$Share -/
def k4 : Class := { plain "com/example/leave_to_act/leavetoact/ByteBudget$Share" (some 0) with
  accessFlags := 48
  interfaces := #[3]
  cf := some (fileOf pool4 2 #[.nestHost 18] #[{ accessFlags := 2, nameIndex := 11, descriptorIndex := 40, attributes := #[] }, { accessFlags := 0, nameIndex := 44, descriptorIndex := 45, attributes := #[] }] 48 8 #[38] #[{ accessFlags := 18, nameIndex := 15, descriptorIndex := 16, attributes := #[] }, { accessFlags := 2, nameIndex := 31, descriptorIndex := 16, attributes := #[] }, { accessFlags := 2, nameIndex := 34, descriptorIndex := 16, attributes := #[] }, { accessFlags := 4112, nameIndex := 5, descriptorIndex := 6, attributes := #[] }])
  fields := #[{ name := "most", type := .long, accessFlags := 18, slot := 0, constantValue := 0 }, { name := "given", type := .long, accessFlags := 2, slot := 1, constantValue := 0 }, { name := "taken", type := .long, accessFlags := 2, slot := 2, constantValue := 0 }, { name := "this$0", type := (.object "com/example/leave_to_act/leavetoact/ByteBudget"), accessFlags := 4112, slot := 3, constantValue := 0 }]
  methods := #[k4m0, k4m1]
  instanceTypes := #[.long, .long, .long, (.object "com/example/leave_to_act/leavetoact/ByteBudget")]
  staticTypes := #[]
  resolved := Array.replicate 60 none
  statics := none }

def pool5 : Array CpInfo := pool [(1, u "java/lang/Cloneable"), (0, .class_ 1), (0, u "java/lang/Object"), (0, .class_ 3)] 3

/-- java/lang/Cloneable -/
def k5 : Class := { plain "java/lang/Cloneable" (some 0) with
  accessFlags := 1537
  interfaces := #[]
  cf := some (fileOf pool5 2 #[] #[] 1537 4 #[] #[])
  fields := #[]
  methods := #[]
  instanceTypes := #[]
  staticTypes := #[]
  resolved := Array.replicate 8 none
  statics := none }

def pool6 : Array CpInfo := pool [(1, u "java/io/Serializable"), (0, .class_ 1), (0, u "java/lang/Object"), (0, .class_ 3)] 3

/-- java/io/Serializable -/
def k6 : Class := { plain "java/io/Serializable" (some 0) with
  accessFlags := 1537
  interfaces := #[]
  cf := some (fileOf pool6 2 #[] #[] 1537 4 #[] #[])
  fields := #[]
  methods := #[]
  instanceTypes := #[]
  staticTypes := #[]
  resolved := Array.replicate 8 none
  statics := none }

/-- the primitive byte -/
def k7 : Class := { plain "byte" none with kind := .primitive 'B', accessFlags := 0x411 }
/-- [B -/
def k8 : Class := { plain "[B" (some 0) with kind := .array 7 .byte, interfaces := #[5, 6], accessFlags := 1041 }

/-- the primitive int -/
def k9 : Class := { plain "int" none with kind := .primitive 'I', accessFlags := 0x411 }
/-- [I -/
def k10 : Class := { plain "[I" (some 0) with kind := .array 9 .int, interfaces := #[5, 6], accessFlags := 1041 }

def heap : Heap := #[]
def classes : Array Class := #[k0, k1, k2, k3, k4, k5, k6, k7, k8, k9, k10]
def interned : List (Array UInt16 × Addr) := []
def slotsUsed : Nat := 0
def theMethod : MethodId := ⟨1, 1⟩
def args0 : Array Value := #[.long 5, .long 7, .long 2, .long 1, .long 3]
def aboutOver (below : List Frame) : State where
  vm := { classes := classes, interned := interned.toArray }
  heap := heap
  slotsUsed := slotsUsed
  threads := #[{ frames := .invoking theMethod args0 :: below }]
def below0 : List Frame := [.native { method := ⟨0, 0⟩, args := #[] }]
def about1 : State := aboutOver below0
def p0 : Program := .bare "" "" ""
def e0 : Env := launch0.env 0 0 0
theorem w_frames : about1.frames = Frame.invoking theMethod args0 :: below0 := rfl
set_option maxRecDepth 65536 in
theorem w_args : argsFit about1.vm theMethod args0 = true := by decide +kernel
set_option maxRecDepth 65536 in
theorem w_heap : heapFits about1 = true := by decide +kernel
set_option maxRecDepth 65536 in
theorem w_runnable : about1.curStatus? = some .runnable := by decide +kernel
set_option maxRecDepth 65536 in
theorem w_alone : about1.alone = true := by decide +kernel
set_option maxRecDepth 65536 in
theorem w_named : about1.methodNamed? x = some theMethod := by decide +kernel
set_option maxRecDepth 65536 in
theorem w_hears : about1.hears theMethod below0 = true := by decide +kernel
set_option maxRecDepth 65536 in
theorem w_ripe : about1.ripe theMethod args0 below0 = true := by decide +kernel
theorem w_running : about1.status = .running := rfl
set_option maxRecDepth 65536 in
theorem w_room : about1.hasRoom e0.platform room_1 = true :=
  launch0.hasRoom_least _ room_1 (by decide +kernel) (by decide +kernel) (by decide +kernel) (by decide +kernel) (by decide +kernel) (by decide +kernel)
theorem allAtoms_all (ts : List Jvm.Cond) (a : Array Jvm.Value) (st : Jvm.State) : (allAtoms ts).before a st = ts.all (fun c => c.before a st) := by
  induction ts with
  | nil => rfl
  | cons c t ih =>
    show (Jvm.Cond.and c (allAtoms t)).before a st = _
    rw [Jvm.Cond.before_and, ih, List.all_cons]
def words1 : List Jvm.Cond := Jvm.Cond.code x code maxLocals ret :: tables_1
/-- a 'code' word, met by the world's own term for the bytes: nothing is compared byte by byte -/
theorem code_word {y : MethodName} {bytes : ByteArray} {mx : Nat} {rt : Option FieldType} {a : Array Value} {s : State} {m : MethodId} {meth : Method} {c : Code} (h1 : s.methodNamed? y = some m) (h2 : s.vm.method? m = some meth) (h3 : meth.code = some c) (h4 : c.code = bytes)
    (h5 : (c.maxLocals == mx && c.exceptionTable.isEmpty && decide (c.maxStack ≤ mostOperands) && decide (meth.sig.returnType = rt) && !meth.locks && decide (parseMethodDescriptor y.desc = some meth.sig)) = true) : (Jvm.Cond.code y bytes mx rt).before a s = true := by
  simp only [Bool.and_eq_true, beq_iff_eq, Bool.not_eq_true', decide_eq_true_eq] at h5
  obtain ⟨⟨⟨⟨⟨g1, g2⟩, g3⟩, g4⟩, g5⟩, g6⟩ := h5
  simp [Cond.before, Cond.holds, Cond.value, h1, h2, h3, h4, g1, g2, g3, g4, g5, g6]
def isCode : Jvm.Cond → Bool
  | .code _ _ _ _ => true
  | _ => false
theorem all_split {L : List Jvm.Cond} {P : Jvm.Cond → Bool} (h1 : L.all (fun c => isCode c || P c) = true) (h2 : ∀ c ∈ L.filter isCode, P c = true) : L.all P = true := by
  refine List.all_eq_true.mpr fun c hc => ?_
  have h := List.all_eq_true.mp h1 c hc
  rcases Bool.eq_false_or_eq_true (isCode c) with hi | hi
  · exact h2 c (List.mem_filter.mpr ⟨hc, hi⟩)
  · simpa [hi] using h
set_option maxRecDepth 65536 in
theorem w_c0 : (Jvm.Cond.code x code maxLocals ret).before args0 about1 = true := code_word (m := ⟨1, 1⟩) (meth := k1m1) (c := k1c1) (by decide +kernel) rfl rfl rfl (by decide +kernel)
set_option maxRecDepth 65536 in
theorem w_c1 : (Jvm.Cond.code ({ cls := "com/example/leave_to_act/leavetoact/ByteBudget", name := "<init>", desc := "(JJ)V" } : Jvm.MethodName) prog_2_method_1_code (5 : Nat) (Option.none : Option Jvm.ClassFile.FieldType)).before args0 about1 = true := code_word (m := ⟨2, 0⟩) (meth := k2m0) (c := k2c0) (by decide +kernel) rfl rfl rfl (by decide +kernel)
set_option maxRecDepth 65536 in
theorem w_c2 : (Jvm.Cond.code ({ cls := "java/lang/Object", name := "<init>", desc := "()V" } : Jvm.MethodName) object_method_1_code (1 : Nat) (Option.none : Option Jvm.ClassFile.FieldType)).before args0 about1 = true := code_word (m := ⟨0, 0⟩) (meth := k0m0) (c := k0c0) (by decide +kernel) rfl rfl rfl (by decide +kernel)
set_option maxRecDepth 65536 in
theorem w_c3 : (Jvm.Cond.code ({ cls := "com/example/leave_to_act/leavetoact/ByteBudget", name := "open", desc := "(J)Lcom/example/leave_to_act/leavetoact/ByteBudget$Share;" } : Jvm.MethodName) prog_2_method_2_code (3 : Nat) (Option.some (Jvm.ClassFile.FieldType.object "com/example/leave_to_act/leavetoact/ByteBudget$Share"))).before args0 about1 = true := code_word (m := ⟨2, 1⟩) (meth := k2m1) (c := k2c1) (by decide +kernel) rfl rfl rfl (by decide +kernel)
set_option maxRecDepth 65536 in
theorem w_c4 : (Jvm.Cond.code ({ cls := "com/example/leave_to_act/leavetoact/ByteBudget$Share", name := "<init>", desc := "(Lcom/example/leave_to_act/leavetoact/ByteBudget;J)V" } : Jvm.MethodName) prog_3_method_1_code (4 : Nat) (Option.none : Option Jvm.ClassFile.FieldType)).before args0 about1 = true := code_word (m := ⟨4, 0⟩) (meth := k4m0) (c := k4c0) (by decide +kernel) rfl rfl rfl (by decide +kernel)
set_option maxRecDepth 65536 in
theorem w_c5 : (Jvm.Cond.code ({ cls := "com/example/leave_to_act/leavetoact/ByteBudget", name := "give", desc := "(Lcom/example/leave_to_act/leavetoact/ByteBudget$Share;J)Z" } : Jvm.MethodName) prog_2_method_3_code (10 : Nat) (Option.some Jvm.ClassFile.FieldType.boolean)).before args0 about1 = true := code_word (m := ⟨2, 2⟩) (meth := k2m2) (c := k2c2) (by decide +kernel) rfl rfl rfl (by decide +kernel)
def codes1 : List Jvm.Cond := [Jvm.Cond.code x code maxLocals ret, Jvm.Cond.code ({ cls := "com/example/leave_to_act/leavetoact/ByteBudget", name := "<init>", desc := "(JJ)V" } : Jvm.MethodName) prog_2_method_1_code (5 : Nat) (Option.none : Option Jvm.ClassFile.FieldType), Jvm.Cond.code ({ cls := "java/lang/Object", name := "<init>", desc := "()V" } : Jvm.MethodName) object_method_1_code (1 : Nat) (Option.none : Option Jvm.ClassFile.FieldType), Jvm.Cond.code ({ cls := "com/example/leave_to_act/leavetoact/ByteBudget", name := "open", desc := "(J)Lcom/example/leave_to_act/leavetoact/ByteBudget$Share;" } : Jvm.MethodName) prog_2_method_2_code (3 : Nat) (Option.some (Jvm.ClassFile.FieldType.object "com/example/leave_to_act/leavetoact/ByteBudget$Share")), Jvm.Cond.code ({ cls := "com/example/leave_to_act/leavetoact/ByteBudget$Share", name := "<init>", desc := "(Lcom/example/leave_to_act/leavetoact/ByteBudget;J)V" } : Jvm.MethodName) prog_3_method_1_code (4 : Nat) (Option.none : Option Jvm.ClassFile.FieldType), Jvm.Cond.code ({ cls := "com/example/leave_to_act/leavetoact/ByteBudget", name := "give", desc := "(Lcom/example/leave_to_act/leavetoact/ByteBudget$Share;J)Z" } : Jvm.MethodName) prog_2_method_3_code (10 : Nat) (Option.some Jvm.ClassFile.FieldType.boolean)]
set_option maxRecDepth 65536 in
theorem codes_eq : words1.filter isCode = codes1 := rfl
theorem w_codes : ∀ c ∈ words1.filter isCode, c.before args0 about1 = true := by
  rw [codes_eq]
  intro c hc
  simp only [codes1, List.mem_cons, List.not_mem_nil, or_false] at hc
  rcases hc with rfl | rfl | rfl | rfl | rfl | rfl
  · exact w_c0
  · exact w_c1
  · exact w_c2
  · exact w_c3
  · exact w_c4
  · exact w_c5
set_option maxRecDepth 65536 in
theorem w_t1 : (words1.take 24).all (fun c => isCode c || c.before args0 about1) = true := by decide +kernel
set_option maxRecDepth 65536 in
theorem w_t2 : (words1.drop 24).all (fun c => isCode c || c.before args0 about1) = true := by decide +kernel
theorem w_tables : (allAtoms (Jvm.Cond.code x code maxLocals ret :: tables_1)).before args0 about1 = true := by
  rw [allAtoms_all]
  show words1.all (fun c => c.before args0 about1) = true
  refine all_split ?_ w_codes
  rw [← List.take_append_drop 24 words1, List.all_append, w_t1, w_t2]
  rfl
set_option maxRecDepth 65536 in
theorem w_case : (Jvm.Cond.and given_1 narrow_1).before args0 about1 = true := by decide +kernel
theorem w_applies : (headSpec (Jvm.Cond.code x code maxLocals ret :: tables_1) room_1).applies x e0.platform about1 = true :=
  (Spec.applies_iff w_frames).mpr ⟨w_running, w_runnable, w_alone, w_named, w_hears, w_ripe, w_room, w_tables⟩
theorem atStart : AtStart classFile x code maxLocals ret World_1 tables_1 room_1 Calls_1 rest_1 Pre_1 launch0 p0 e0 about1 theMethod args0 below0 :=
  ⟨lists_1, trivial, launch0.admits_env _ _ _, launch0.least_env, fairChoices_fair.cas, fairChoices_fair.clock, w_frames, w_args, w_heap, w_applies, trivial, trivial, w_case⟩
end start1
theorem witness_1 : WitnessClaimed_1 := ⟨start1.p0, start1.e0, start1.about1, start1.theMethod, start1.args0, start1.below0, start1.atStart⟩
end Jvm.Pilot.@@N@@
