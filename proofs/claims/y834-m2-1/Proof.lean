import JvmDerived
import JvmDerived.Pilot.@@N@@Statement
import JvmDerived.Pilot.@@N@@Code
set_option linter.unusedVariables false
set_option linter.unusedSimpArgs false
namespace Jvm.RoadKit
open Sem ClassFile Op Lib Jvm.Stand Jvm.Free Jvm.LawKit
section New
variable {p : Program} {l : Launch} {e : Env} {R : Room} {s : State} {m : MethodId} {args : Array Value} {below : List Frame} {meth : Method} {c : Code} {T : State} {locs : List Loc} {cells slots : Nat}
theorem retI (X : Stand p l e R s m args below meth c T locs cells slots) (hx : p.tables.exec = Jvm.exec) {pc : Nat} {Ls : Array Slot} {z : Int32} {rest : List Value} (hret : meth.sig.returnType = some .int) (hd : decode c.code pc = .ok (.ireturn, 1)) {fs : List Frame}
    (hl : ∀ (f : JFrame) (acts : List Action), f.method = m → f.locked = none → f.entered = [] → (doReturn e (T.setTop f) acts (some (.int z))).1 = T.setFrames fs) : Steps p.tables e below (T.setTop (mkF m pc Ls (.int z :: rest))) (T.setFrames fs) := by
  have hm' : T.vm.method? m = some meth := X.method'
  have hn : narrow .int (.int z) = .int z := rfl
  show Steps p.tables e below (T.setTop { method := m, pc := pc, locals := Ls, stack := _ :: rest, locked := none }) _
  jvm_step X.here [X.here.top, hx, hd, hm', hret, hn]
  first | (intro acts; rw [hl _ acts rfl rfl rfl]) | rw [hl _ _ rfl rfl rfl]
  exact Steps.refl _
end New
end Jvm.RoadKit
namespace Jvm.Pilot.@@N@@
open Jvm Jvm.ClassFile Sem Op Lib Jvm.Free Jvm.Stand Jvm.LawKit Jvm.RoadKit Bundle Jvm.Pilot.@@N@@.Jvm.D
theorem own_b10n {P : Prop} [Decidable P] (h : P) : ¬ (if P then (1 : Int32) else 0) = 0 := by rw [if_pos h]; decide
theorem own_b10z {P : Prop} [Decidable P] (h : ¬ P) : (if P then (1 : Int32) else 0) = 0 := if_neg h
theorem own_b01z {P : Prop} [Decidable P] (h : P) : (if P then (0 : Int32) else 1) = 0 := if_pos h
theorem own_b01n {P : Prop} [Decidable P] (h : ¬ P) : ¬ (if P then (0 : Int32) else 1) = 0 := by rw [if_neg h]; decide
theorem own_nb10 {P : Prop} [Decidable P] : nar .boolean (if P then (1 : Int32) else 0) = (if P then (1 : Int32) else 0) := by by_cases h : P <;> simp [h, nar]
theorem own_nb01 {P : Prop} [Decidable P] : nar .boolean (if P then (0 : Int32) else 1) = (if P then (0 : Int32) else 1) := by by_cases h : P <;> simp [h, nar]
theorem own_selP {Z s : State} {a0 args : Array Value} {y : MethodName} {n : Nat} (hZ : Z.Warmed39 s.vm) (wi : (Jvm.Cond.instantiable y.cls n).before a0 Z = true) (wp : (Jvm.Cond.privateMethod y).before a0 Z = true) (wm : (Jvm.Cond.instanceMethod y).before a0 Z = true)
    (hy : y.cls ≠ "java/lang/invoke/MethodHandle" ∧ y.cls ≠ "java/lang/invoke/VarHandle") : (Jvm.Cond.selects y.cls y y).before args s = true := by
  obtain ⟨c, k, hc, hk, -, hf, -⟩ := Cond.instantiable_spec (mv hZ wi (args := args))
  have hi : k.isInterface = false := by
    cases q : k.isInterface
    · rfl
    · simp [q] at hf
  exact Jvm.Stand.selects_self_of_private hc hk hi (Cond.privateMethod_at (mvP hZ wp (args := args))) (mv hZ wm) hy
theorem own_one (i : Nat) : Int32.ofNat i + (1 : Int32) = Int32.ofNat (i + 1) := (Int32.ofNat_add i 1).symm
def own_list (g : Nat → Value) (i : Nat) : List Value := (List.range i).map g
theorem own_len (g : Nat → Value) (i : Nat) : (own_list g i).length = i := by simp [own_list]
theorem own_at (g : Nat → Value) {i j : Nat} (h : j < i) (d : Value) : (own_list g i).getD j d = g j := by simp [own_list, List.getD_eq_getElem?_getD, h]
theorem own_setl (g : Nat → Value) (i : Nat) (x : Value) : (own_list g i ++ [x]).set i (g i) = own_list g (i + 1) := by
  have h := own_len g i
  have e : (own_list g i ++ [x]).set (own_list g i).length (g i) = own_list g i ++ [g i] := by simp
  rw [h] at e
  rw [e]; simp [own_list, List.range_succ]
theorem own_il {i : Nat} (h : i < 2147483648) : (Int32.ofNat i).toInt = i := Int32.toInt_ofNat_of_lt h
theorem own_in {i : Nat} (h : i < 2147483648) : ¬ Int32.ofNat i < 0 := by
  rw [Int32.lt_iff_toInt_lt, own_il h, show (0 : Int32).toInt = 0 from rfl]; omega
theorem own_ic {i : Nat} (h : i < 2147483648) : (Int32.ofNat i).toNatClampNeg = i := by
  rw [Int32.toNatClampNeg, own_il h]; rfl
section OwnDia
variable {tb : Tables} [Ours tb] {e : Env} {below : List Frame} {T target : State} {m : MethodId} {c : Code} {g : JFrame}
/-- a boolean written out: if .. goto the 0; 1; goto behind; 0 -/
theorem own_dia (h : At T m c below) (hx : tb.exec = Jvm.exec) (hg : g.method = m) {pc0 : Nat} {P : Prop} [Decidable P] {u w : Int32} {rest : List Value} (huw : u = 0 ∧ w = 1 ∨ u = 1 ∧ w = 0)
    (hd1 : decode c.code (pc0 + 3) = .ok (.iconst 1, 1)) (hd2 : decode c.code (pc0 + 4) = .ok (.goto 4, 3)) (hd3 : decode c.code (pc0 + 7) = .ok (.iconst 0, 1))
    (s1 : ∀ t, (P ∧ u = 0 ∨ ¬ P ∧ w = 0) → Steps tb e below (T.setTop { g with pc := pc0 + 7, stack := rest }) t → Steps tb e below (T.setTop g) t)
    (s2 : ∀ t, (P ∧ u = 1 ∨ ¬ P ∧ w = 1) → Steps tb e below (T.setTop { g with pc := pc0 + 3, stack := rest }) t → Steps tb e below (T.setTop g) t)
    (hr : Steps tb e below (T.setTop { g with pc := pc0 + 8, stack := .int (if P then u else w) :: rest }) target) : Steps tb e below (T.setTop g) target := by
  have z : (if P then u else w) = 0 → (P ∧ u = 0 ∨ ¬ P ∧ w = 0) := fun q => by
    by_cases hp : P
    · rw [if_pos hp] at q; exact Or.inl ⟨hp, q⟩
    · rw [if_neg hp] at q; exact Or.inr ⟨hp, q⟩
  have o : (if P then u else w) = 1 → (P ∧ u = 1 ∨ ¬ P ∧ w = 1) := fun q => by
    by_cases hp : P
    · rw [if_pos hp] at q; exact Or.inl ⟨hp, q⟩
    · rw [if_neg hp] at q; exact Or.inr ⟨hp, q⟩
  have b : (if P then u else w) = 0 ∨ (if P then u else w) = 1 := by
    rcases huw with ⟨rfl, rfl⟩ | ⟨rfl, rfl⟩ <;> by_cases hp : P <;> simp [hp]
  rcases b with q | q
  · refine s1 _ (z q) ?_
    refine Free.XS.iconst h hx hg hd3 ?_
    rw [q] at hr
    exact hr
  · refine s2 _ (o q) ?_
    refine Free.XS.iconst h hx hg hd1 ?_
    refine Free.XS.goto h hx hg (pc0 := pc0 + 4) (pc' := pc0 + 8) rfl hd2 (by omega) (by omega) ?_
    rw [q] at hr
    exact hr
theorem own_diaT (h : At T m c below) (hx : tb.exec = Jvm.exec) (hg : g.method = m) {pc0 : Nat} (hpc : g.pc = pc0) {P : Prop} [Decidable P] {cd : ClassFile.Cond} {x : Int32} {rest : List Value}
    (hd0 : decode c.code pc0 = .ok (.ifCond cd 7, 3)) (hd1 : decode c.code (pc0 + 3) = .ok (.iconst 1, 1)) (hd2 : decode c.code (pc0 + 4) = .ok (.goto 4, 3)) (hd3 : decode c.code (pc0 + 7) = .ok (.iconst 0, 1))
    (hs : g.stack = .int x :: rest) (hy : P → ifCond.holds cd x = true) (hn : ¬ P → ifCond.holds cd x = false)
    (hr : Steps tb e below (T.setTop { g with pc := pc0 + 8, stack := .int (if P then (0 : Int32) else 1) :: rest }) target) : Steps tb e below (T.setTop g) target := by
  subst hpc
  refine own_dia h hx hg (P := P) (u := 0) (w := 1) (rest := rest) (Or.inl ⟨rfl, rfl⟩) hd1 hd2 hd3 (fun t q k => ?_) (fun t q k => ?_) hr
  · have hp : P := q.elim (·.1) fun z => absurd z.2 (by decide)
    exact Free.XS.ifYes h hx hg (pc' := g.pc + 7) rfl hd0 hs (hy hp) (by omega) (by omega) k
  · have hp : ¬ P := q.elim (fun z => absurd z.2 (by decide)) (·.1)
    exact Free.XS.ifNo h hx hg hd0 hs (hn hp) k
theorem own_diaF (h : At T m c below) (hx : tb.exec = Jvm.exec) (hg : g.method = m) {pc0 : Nat} (hpc : g.pc = pc0) {P : Prop} [Decidable P] {cd : ClassFile.Cond} {x : Int32} {rest : List Value}
    (hd0 : decode c.code pc0 = .ok (.ifCond cd 7, 3)) (hd1 : decode c.code (pc0 + 3) = .ok (.iconst 1, 1)) (hd2 : decode c.code (pc0 + 4) = .ok (.goto 4, 3)) (hd3 : decode c.code (pc0 + 7) = .ok (.iconst 0, 1))
    (hs : g.stack = .int x :: rest) (hy : P → ifCond.holds cd x = false) (hn : ¬ P → ifCond.holds cd x = true)
    (hr : Steps tb e below (T.setTop { g with pc := pc0 + 8, stack := .int (if P then (1 : Int32) else 0) :: rest }) target) : Steps tb e below (T.setTop g) target := by
  subst hpc
  refine own_dia h hx hg (P := P) (u := 1) (w := 0) (rest := rest) (Or.inr ⟨rfl, rfl⟩) hd1 hd2 hd3 (fun t q k => ?_) (fun t q k => ?_) hr
  · have hp : ¬ P := q.elim (fun z => absurd z.2 (by decide)) (·.1)
    exact Free.XS.ifYes h hx hg (pc' := g.pc + 7) rfl hd0 hs (hn hp) (by omega) (by omega) k
  · have hp : P := q.elim (·.1) fun z => absurd z.2 (by decide)
    exact Free.XS.ifNo h hx hg hd0 hs (hy hp) k
theorem own_diaT2 (h : At T m c below) (hx : tb.exec = Jvm.exec) (hg : g.method = m) {pc0 : Nat} (hpc : g.pc = pc0) {P : Prop} [Decidable P] {cd : ClassFile.Cond} {x y : Int32} {rest : List Value}
    (hd0 : decode c.code pc0 = .ok (.if_icmp cd 7, 3)) (hd1 : decode c.code (pc0 + 3) = .ok (.iconst 1, 1)) (hd2 : decode c.code (pc0 + 4) = .ok (.goto 4, 3)) (hd3 : decode c.code (pc0 + 7) = .ok (.iconst 0, 1))
    (hs : g.stack = .int y :: .int x :: rest) (hy : P → if_icmp.holds cd x y = true) (hn : ¬ P → if_icmp.holds cd x y = false)
    (hr : Steps tb e below (T.setTop { g with pc := pc0 + 8, stack := .int (if P then (0 : Int32) else 1) :: rest }) target) : Steps tb e below (T.setTop g) target := by
  subst hpc
  refine own_dia h hx hg (P := P) (u := 0) (w := 1) (rest := rest) (Or.inl ⟨rfl, rfl⟩) hd1 hd2 hd3 (fun t q k => ?_) (fun t q k => ?_) hr
  · have hp : P := q.elim (·.1) fun z => absurd z.2 (by decide)
    exact Free.XS.icmpYes h hx hg (pc' := g.pc + 7) rfl hd0 hs (hy hp) (by omega) (by omega) k
  · have hp : ¬ P := q.elim (fun z => absurd z.2 (by decide)) (·.1)
    exact Free.XS.icmpNo h hx hg hd0 hs (hn hp) k
theorem own_diaF2 (h : At T m c below) (hx : tb.exec = Jvm.exec) (hg : g.method = m) {pc0 : Nat} (hpc : g.pc = pc0) {P : Prop} [Decidable P] {cd : ClassFile.Cond} {x y : Int32} {rest : List Value}
    (hd0 : decode c.code pc0 = .ok (.if_icmp cd 7, 3)) (hd1 : decode c.code (pc0 + 3) = .ok (.iconst 1, 1)) (hd2 : decode c.code (pc0 + 4) = .ok (.goto 4, 3)) (hd3 : decode c.code (pc0 + 7) = .ok (.iconst 0, 1))
    (hs : g.stack = .int y :: .int x :: rest) (hy : P → if_icmp.holds cd x y = false) (hn : ¬ P → if_icmp.holds cd x y = true)
    (hr : Steps tb e below (T.setTop { g with pc := pc0 + 8, stack := .int (if P then (1 : Int32) else 0) :: rest }) target) : Steps tb e below (T.setTop g) target := by
  subst hpc
  refine own_dia h hx hg (P := P) (u := 1) (w := 0) (rest := rest) (Or.inr ⟨rfl, rfl⟩) hd1 hd2 hd3 (fun t q k => ?_) (fun t q k => ?_) hr
  · have hp : ¬ P := q.elim (fun z => absurd z.2 (by decide)) (·.1)
    exact Free.XS.icmpYes h hx hg (pc' := g.pc + 7) rfl hd0 hs (hn hp) (by omega) (by omega) k
  · have hp : P := q.elim (·.1) fun z => absurd z.2 (by decide)
    exact Free.XS.icmpNo h hx hg hd0 hs (hy hp) k
end OwnDia

section OwnRef
variable {p : Program} {l : Launch} {e : Env} {R : Room} {s : State} {m : MethodId} {args : Array Value} {below : List Frame} {meth : Method} {c : Code} {T : State} {locs : List Loc} {cells slots : Nat} {Z : State} {a0 : Array Value} {h h' : Heap}
/-- an entry that the sheet says is resolved is ready where the walk stands -/
theorem own_ready (X : Stand p l e R s m args below meth c T locs cells slots) (hZ : Z.Warmed39 s.vm) {own R0 O n d : String} {index : Nat} (hown : s.vm.findClass own = some m.cls) (w : (Jvm.Cond.fieldRef own index R0 n d).before a0 Z = true) (via : Via Z R0 O n d) {cf i : Nat} {k : Class} {f : Field}
    (h2 : Z.fieldFound? O n d = some (cf, k, i, f)) : T.vm.fieldReady m.cls index cf f := by
  have hU : Z.Warmed39 T.vm := wtrans hZ X.warmed
  have w' := Cond.fieldRef_warmed39 hU w
  have hc : (Z.setVm T.vm).vm.findClass own = some m.cls := by
    show T.vm.findClass own = some m.cls
    rw [hU.alike.findClass, ← hZ.alike.findClass]; exact hown
  obtain ⟨c2, k2, i2, f2, hi2, hready⟩ := Cond.fieldRef_spec (s := Z.setVm T.vm) hc w'
  obtain ⟨k', hi, -⟩ := State.fieldFound?_setVm (s := Z) hU.alike (via _ h2)
  cases hi.symm.trans hi2
  exact hready
theorem own_getFR (X : Stand p l e R s m args below meth c T locs cells slots) (hx : p.tables.exec = Jvm.exec) (hZ : Z.Warmed39 s.vm) {own R0 O n d : String} {index : Nat} (hown : s.vm.findClass own = some m.cls) (w : (Jvm.Cond.fieldRef own index R0 n d).before a0 Z = true) (via : Via Z R0 O n d)
    (eT : T.heap = h) {a : Addr} {v : Value} (F : Fld Z h a O n d v) {g : JFrame} (hg : g.method = m) {rest : List Value} (hs : g.stack = .ref a :: rest) (hd : decode c.code g.pc = .ok (.getfield index, 3)) :
    ∃ T', Stand p l e R s m args below meth c T' locs cells slots ∧ T'.heap = h ∧ ∀ target, Steps p.tables e below (T'.setTop { g with pc := g.pc + 3, stack := v :: rest }) target → Steps p.tables e below (T.setTop g) target := by
  obtain ⟨cell, cf, k, i, f, h1, h2, h3, h4, -, -, h7⟩ := F
  have hready := own_ready X hZ hown w via h2
  refine ⟨T, X, eT, fun target hrest => ?_⟩
  subst hg
  jvm_step X.here [hx, hd, getfield.wp_ready (e := e) (s := T) (f := g) X.here.top hready h3 hs (show T.heap[a]? = some cell by rw [eT]; exact h1) h4 h7]
  exact hrest
theorem own_putFR (X : Stand p l e R s m args below meth c T locs cells slots) (hx : p.tables.exec = Jvm.exec) (hZ : Z.Warmed39 s.vm) {own R0 O n d C : String} {index kk : Nat} {ty : FieldType} (hown : s.vm.findClass own = some m.cls) (w : (Jvm.Cond.fieldRef own index R0 n d).before a0 Z = true) (via : Via Z R0 O n d)
    (eT : T.heap = h) {a : Addr} {v old : Value} (F : Fld Z h a O n d old) (E : Exa Z h a C) (L : (Jvm.Cond.lays C O n d).before a0 Z = true ∨ ((Jvm.Cond.laysFinal C O n d).before a0 Z = true ∧ own = O ∧ meth.name = "<init>")) (wi : (Jvm.Cond.instantiable C kk).before a0 Z = true)
    (hty : parseFieldDescriptor d = some ty) (hn : narrow ty v = v) (hf : fits ty v = true) (hin : meth.name ≠ "<init>") {g : JFrame} (hg : g.method = m) {rest : List Value} (hs : g.stack = v :: .ref a :: rest) (hd : decode c.code g.pc = .ok (.putfield index, 3)) :
    ∃ T' h', Stand p l e R s m args below meth c T' (locs ++ [⟨a, Jvm.RoadKit.slotOf Z O n d⟩]) cells slots ∧ T'.heap = h' ∧ Wr h h' a (Jvm.RoadKit.slotOf Z O n d) v ∧ ∀ target, Steps p.tables e below (T'.setTop { g with pc := g.pc + 3, stack := rest }) target → Steps p.tables e below (T.setTop g) target := by
  obtain ⟨cell, cf, k, i, f, h1, h2, h3, h4, h5, -, h7⟩ := F
  obtain ⟨cell', kc, e1, e2, e3, -⟩ := E
  cases h1.symm.trans e1
  replace L : (Jvm.Cond.lays C O n d).before a0 Z = true := L.elim id fun q => absurd q.2.2 hin
  obtain ⟨c1, k1, cf1, kf1, i1, f1, a1, a2, a3, -, -, a6, -⟩ := Laid.spec (Z := Z) (a0 := a0) (Or.inl L)
  cases h2.symm.trans a3
  cases e2.symm.trans a1
  obtain ⟨c2, k2, i1, i2, i3, -⟩ := Cond.instantiable_spec wi
  cases e2.symm.trans i1
  cases a2.symm.trans i2
  have ht := (State.fieldFound?_type h2 hty).2
  have hU : Z.Warmed39 T.vm := wtrans hZ X.warmed
  have hfit : Z.fitsSlot cell.cls cell.vm f.slot v = true := by
    have q : Z.slotType? cell.cls cell.vm f.slot = some ty := by
      simp only [State.slotType?, a2, Option.bind_eq_bind, Option.bind_some, i3]
      cases hq : cell.vm <;> first | (rw [hq] at h5; exact Bool.noConfusion h5) | (rw [a6, ht])
    simp [State.fitsSlot, q, hf]
  have hfit' : T.fitsSlot cell.cls cell.vm f.slot v = true := by rw [← State.fitsSlot_setVm hU.alike] at hfit; exact hfit
  have hfin : hasFlag f.accessFlags Acc.final = false := by
    obtain ⟨_, _, _, _, _, _, -, -, b3, -, b5, -⟩ := Cond.lays_spec L
    cases h2.symm.trans b3
    exact b5
  have hready := own_ready X hZ hown w via h2
  have hlt := (Array.getElem?_eq_some_iff.mp h7).1
  have es : Jvm.RoadKit.slotOf Z O n d = f.slot := by simp [Jvm.RoadKit.slotOf, h2]
  rw [es]
  obtain ⟨X', st⟩ := X.putfieldReady hx hready h3 (Or.inl hfin) (by rw [eT]; exact h1) h4 hlt (by rw [ht]; exact hn) hfit' hg hs hd
  exact ⟨_, _, X', rfl, ⟨cell, h1, h5, hlt, by rw [← eT]; rfl⟩, st⟩
theorem own_mvRef {y : MethodName} {own : String} {index : Nat} (hZ : Z.Warmed39 s.vm) (w : (Jvm.Cond.methodRef own index y).before a0 Z = true) (wi : (Jvm.Cond.instanceMethod y).before a0 Z = true) (hy : y.cls ≠ "java/lang/invoke/MethodHandle" ∧ y.cls ≠ "java/lang/invoke/VarHandle") : (Jvm.Cond.methodRef own index y).before args s = true := by
  obtain ⟨obj, methO, hnO, -⟩ := Cond.instanceMethod_spec wi
  exact (Cond.methodRef_warmed39 hZ hnO hy w :)
theorem own_mvMN {y : MethodName} {own host : String} {index : Nat} (hZ : Z.Warmed39 s.vm) (w : (Jvm.Cond.methodLinkNest own index y host).before a0 Z = true) : (Jvm.Cond.methodLinkNest own index y host).before args s = true := (Cond.methodLinkNest_wide hZ w :)
/-- a constructor by its contract, through an entry that is resolved already -/
theorem own_specialBackR (X : Stand p l e R s m args below meth c T locs cells slots) (hexec : p.tables.exec = Jvm.exec) {own : String} {index : Nat} {y : MethodName} (hy1 : y.name = "<init>")
    (hown : s.vm.findClass own = some m.cls) (hlink : (Jvm.Cond.methodRef own index y).before args s = true) (hinst : (Jvm.Cond.instanceMethod y).before args s = true)
    {bytes : ByteArray} {maxL : Nat} (hcode : (Jvm.Cond.code y bytes maxL none).before args s = true)
    (hy : y.cls ≠ "java/lang/invoke/MethodHandle" ∧ y.cls ≠ "java/lang/invoke/VarHandle")
    {W : Nat} {Pre : Pt → Array Value → Prop} {Post : Pt → Array Value → Option Value → Pt → Prop} (hK : Back l R p e below s args y 3 W Pre Post)
    {g : JFrame} (hg : g.method = m) (hsize : g.locals.size = c.maxLocals) {s₀ : State} (hcome : Steps p.tables e below s₀ (T.setTop g)) {a : Addr} {argsL rest : List Value}
    (hlen : ∀ sig, parseMethodDescriptor y.desc = some sig → argsL.length = sig.parameters.length) (hstack : g.stack = argsL.reverse ++ .ref a :: rest) (hW : 2 * g.monitorRoom + (rest.map fun v => v.category).sum ≤ W)
    (hdg : decode c.code g.pc = .ok (.invokespecial index, 3)) (hpre : ∀ vm₁, s.WarmedH vm₁ → Pre ⟨T.setVm vm₁, locs, cells, slots⟩ (.ref a :: argsL).toArray) :
    ∃ (v : Option Value) (vm₁ : Vm) (B : Pt), s.WarmedH vm₁ ∧ Stand p l e R s m args below meth c B.U B.locs B.cells B.slots ∧ Post ⟨T.setVm vm₁, locs, cells, slots⟩ (.ref a :: argsL).toArray v B ∧
      Steps p.tables e below s₀ (B.U.setTop { g with pc := g.pc + 3, stack := v.toList ++ rest }) := by
  obtain ⟨obj, methO, hnO, hmO, hstO, habO⟩ := Cond.instanceMethod_spec hinst
  obtain ⟨methO', cO, hmO', hcO, hbO, hlO, -, hlockO, -, hsigO⟩ := Cond.code_spec hnO hcode
  cases hmO.symm.trans hmO'
  obtain ⟨kO, hkO, hnameO⟩ := className_of_methodNamed hnO
  obtain ⟨hnameMO, hdescO⟩ := name_of_methodNamed hnO hmO
  have hT : s.WarmedH T.vm := X.warmed
  have hlink' := Cond.methodRef_warmed hT hnO hy hlink
  obtain ⟨mf, c', hfound, hreadyM, hcls, hnamed⟩ := Cond.methodRef_named (s := s.setVm T.vm) e (cur := m.cls) (by show T.vm.findClass own = some m.cls; rw [hT.alike.findClass]; exact hown) hlink'
  have hf2 : (s.setVm T.vm).methodFound? y.cls y.name y.desc = some obj := by
    rw [State.methodFound?_setVm_of_named hT.alike hnO hy]; exact State.methodFound?_of_named hnO hy
  cases hfound.symm.trans hf2
  have hc' : c' = obj.cls := by
    have q1 : T.vm.findClass y.cls = some c' := hcls
    rw [hT.alike.findClass] at q1
    exact Option.some.inj (q1.symm.trans (findClass_of_methodNamed hnO))
  subst hc'
  obtain ⟨kO₂, hkO₂, heO₂⟩ := hT.alike.2.2 _ _ hkO
  have hmO₂ : T.vm.method? obj = some methO := by rw [hT.alike.method?]; exact hmO
  have hlook : lookupSpecial T.vm obj.cls "<init>" methO.desc = .method obj := by
    rw [hT.alike.lookupSpecial, hdescO, ← hy1]; exact lookupSpecial_of_named hnO hmO hstO
  have step : ∀ target, (∀ acts, Steps p.tables e below (doInvoke e (T.setTop { g with stack := rest }) acts obj (.ref a :: argsL).toArray).1 target) → Steps p.tables e below (T.setTop g) target := fun target hrest => by
    subst hg
    jvm_step X.here [hexec, hdg, invokespecial.wp_init (e := e) (s := T) (k := kO₂) (meth := methO) (m := obj) (a := a) (args := argsL) (rest := rest) (f := g)
      X.here.top hnamed hreadyM hkO₂ hmO₂ (by rw [hnameMO]; exact hy1) hstO habO hlook (hlen _ hsigO) hstack]
    exact hrest
  have X₁ : Stand p l e R s m args below meth c (T.setVm T.vm) locs cells slots := X
  obtain ⟨v, B, X', hpost, hsteps⟩ := hK m meth c ⟨T.setVm T.vm, locs, cells, slots⟩ { g with stack := rest } (.invokespecial index) obj (.ref a :: argsL).toArray X₁ hg hsize hdg hW (X₁.named hnO) (hpre T.vm hT)
  exact ⟨v, T.vm, B, hT, X', hpost, (hcome.trans (step _ fun acts => by rw [doInvoke_state]; exact Steps.refl _)).trans hsteps⟩
/-- a nest mate's private method by its contract -/
theorem own_privateBackN (X : Stand p l e R s m args below meth c T locs cells slots) (hexec : p.tables.exec = Jvm.exec) {own host : String} {index : Nat} {y : MethodName} {bytes : ByteArray} {maxL : Nat} {ret : Option FieldType}
    (hown : s.vm.findClass own = some m.cls) (hlink : (Jvm.Cond.methodLinkNest own index y host).before args s = true) (hinst : (Jvm.Cond.instanceMethod y).before args s = true) (hsel : (Jvm.Cond.selects y.cls y y).before args s = true)
    (hpriv : s.PrivateAt y) (hcode : (Jvm.Cond.code y bytes maxL ret).before args s = true) (hy : y.cls ≠ "java/lang/invoke/MethodHandle" ∧ y.cls ≠ "java/lang/invoke/VarHandle")
    {W : Nat} {Pre : Free.Pt → Array Value → Prop} {Post : Free.Pt → Array Value → Option Value → Free.Pt → Prop} (hK : Free.Back l R p e below s args y 3 W Pre Post)
    {g : JFrame} (hg : g.method = m) (hsize : g.locals.size = c.maxLocals) {s₀ : State} (hcome : Steps p.tables e below s₀ (T.setTop g)) {a : Addr} {cell : Cell} (hcell : T.heap[a]? = some cell) (hobj : ∀ q, cell.vm ≠ .statics q)
    {argsL rest : List Value} (hlen : ∀ sig, parseMethodDescriptor y.desc = some sig → argsL.length = sig.parameters.length)
    (hstack : g.stack = argsL.reverse ++ .ref a :: rest) (hW : 2 * g.monitorRoom + (rest.map fun v => v.category).sum ≤ W) (hdg : decode c.code g.pc = .ok (.invokevirtual index, 3))
    (hpre : ∀ vm₁, s.WarmedH vm₁ → Pre ⟨T.setVm vm₁, locs, cells, slots⟩ (.ref a :: argsL).toArray) :
    ∃ (v : Option Value) (vm₁ : Vm) (B : Free.Pt), s.WarmedH vm₁ ∧ Stand p l e R s m args below meth c B.U B.locs B.cells B.slots ∧ Post ⟨T.setVm vm₁, locs, cells, slots⟩ (.ref a :: argsL).toArray v B ∧
      Steps p.tables e below s₀ (B.U.setTop { g with pc := g.pc + 3, stack := v.toList ++ rest }) := by
  obtain ⟨mk, methM, hnamed, hmethM, hstM, habM⟩ := Cond.instanceMethod_spec hinst
  obtain ⟨methM', cM, hmethM', -, -, -, -, -, -, hsigM⟩ := Cond.code_spec hnamed hcode
  cases hmethM.symm.trans hmethM'
  obtain ⟨c2, r2, m2, -, -, q3, -, kP, hkP, hkPi⟩ := Cond.selects_spec hsel
  cases hnamed.symm.trans q3
  have hselP : selectMethod e.platform s.vm cell.cls mk = .method mk := selectMethod_private hmethM (hpriv mk methM hnamed hmethM)
  obtain ⟨vm₁, X₁, hstep₁⟩ := X.invokevirtualNest hexec hown hlink hnamed hmethM hstM hkP hkPi hy (a := a) (cell := cell) hcell hobj hselP hmethM habM hkP hkPi (g := g) hg (argsL := argsL) (rest := rest) (hlen _ hsigM) hstack hdg
  have hW₁ : s.WarmedH vm₁ := X₁.warmed
  obtain ⟨v, B, X', hpost, hsteps⟩ := hK m meth c ⟨T.setVm vm₁, locs, cells, slots⟩ { g with stack := rest } (.invokevirtual index) mk (.ref a :: argsL).toArray X₁ hg hsize hdg hW (X₁.named hnamed) (hpre vm₁ hW₁)
  exact ⟨v, vm₁, B, hW₁, X', hpost, (hcome.trans (hstep₁ _ fun acts => by rw [doInvoke_state]; exact Steps.refl _)).trans hsteps⟩
/-- the cell at a bears the monitor mo -/
def own_Mo (h : Heap) (a : Addr) (mo : Monitor) : Prop := ∃ c : Cell, h[a]? = some c ∧ c.monitor = mo
theorem own_Mo.ofU {a : Addr} (U : ∃ cell : Cell, h[a]? = some cell ∧ cell.vm = .none ∧ cell.monitor = {}) : own_Mo h a {} := by obtain ⟨c, h1, -, h2⟩ := U; exact ⟨c, h1, h2⟩
theorem own_Mo.ext {a : Addr} {mo : Monitor} (F : own_Mo h a mo) (E : Ext h h') : own_Mo h' a mo := by obtain ⟨c, h1, h2⟩ := F; exact ⟨c, E.2 _ _ h1, h2⟩
theorem own_Mo.keep {a : Addr} {mo : Monitor} {ws : List Addr} (F : own_Mo h a mo) (K : Keep h h' ws) (q : a ∉ ws) : own_Mo h' a mo := by obtain ⟨c, h1, h2⟩ := F; exact ⟨c, K.2.1 _ _ h1 q, h2⟩
theorem own_Mo.wr {a b : Addr} {mo : Monitor} {sl : Nat} {v : Value} (F : own_Mo h a mo) (W : Wr h h' b sl v) : own_Mo h' a mo := by
  obtain ⟨c, h1, h2⟩ := F
  obtain ⟨cb, k1, -, -, -, k5, -, k7⟩ := wr_at W h1
  by_cases q : a = b
  · obtain ⟨k8, -⟩ := k7 q
    exact ⟨cb, k1, by rw [k8]; exact h2⟩
  · exact ⟨cb, k1, by rw [k5 q]; exact h2⟩
theorem own_keep_mon {a : Addr} {cl : Cell} (mo : Monitor) (hc : h[a]? = some cl) : Keep h (h.setIfInBounds a { cl with monitor := mo }) [a] := by
  have hlt := (Array.getElem?_eq_some_iff.mp hc).1
  refine ⟨by simp, fun x c q r => ?_, fun x c q => ?_⟩
  · have hne : a ≠ x := fun z => r (by rw [z]; exact List.mem_singleton.mpr rfl)
    rw [Array.getElem?_setIfInBounds_ne hne]; exact q
  · by_cases z : a = x
    · subst z
      cases hc.symm.trans q
      exact ⟨{ cl with monitor := mo }, by simp [hlt], rfl, rfl, rfl⟩
    · exact ⟨c, by rw [Array.getElem?_setIfInBounds_ne z]; exact q, rfl, rfl, rfl⟩
def own_held (t : ThreadId) : Monitor := { owner := some t, count := 1, waitSet := [] }
theorem own_set_at {a : Addr} {cl : Cell} (mo : Monitor) (hc : h[a]? = some cl) : own_Mo (h.setIfInBounds a { cl with monitor := mo }) a mo := ⟨{ cl with monitor := mo }, by simp [(Array.getElem?_eq_some_iff.mp hc).1], rfl⟩
theorem own_left0 (c : Cell) : c.left = if c.monitor.count ≤ 1 then { c with monitor := { c.monitor with owner := none, count := 0 } } else { c with monitor := { c.monitor with count := c.monitor.count - 1 } } := rfl
theorem own_left {c : Cell} {t : ThreadId} (q : c.monitor = own_held t) : c.left = { c with monitor := {} } := by
  rw [own_left0, q]; rfl
theorem own_entry {c : Cell} {t : ThreadId} (q : c.monitor = {}) : c.withEntry t = { c with monitor := own_held t } := by
  show ({ c with monitor := { c.monitor with owner := some t, count := c.monitor.count + 1 } } : Cell) = _
  rw [q]; rfl
theorem own_sync (Lk : meth.locks = false) {nm : String} (hn : meth.name = nm) (hq : nm ≠ "<clinit>") : meth.isSynchronized = false := by
  have q : (meth.isSynchronized && meth.name != "<clinit>") = false := Lk
  rw [hn] at q
  have hb : (nm != "<clinit>") = true := by simpa using hq
  rw [hb, Bool.and_true] at q
  exact q
theorem own_retNg (X : Stand p l e R s m args below meth c T locs cells slots) (hx : p.tables.exec = Jvm.exec) {g : JFrame} (hg : g.method = m) (hlk : g.locked = none) (hen : g.entered = []) {z : Int32} {rest : List Value} (hs : g.stack = .int z :: rest) (hret : meth.sig.returnType = some .boolean)
    (hd : decode c.code g.pc = .ok (.ireturn, 1)) {fs : List Frame} (hl : ∀ (f : JFrame) (acts : List Action), f.method = m → f.locked = none → f.entered = [] → (doReturn e (T.setTop f) acts (some (.int (nar .boolean z)))).1 = T.setFrames fs) :
    Steps p.tables e below (T.setTop g) (T.setFrames fs) := by
  have hm' : T.vm.method? m = some meth := X.method'
  have hn : narrow .boolean (.int z) = .int (nar .boolean z) := rfl
  subst hg
  jvm_step X.here [X.here.top, hx, hd, hs, hm', hret, hn]
  intro acts
  rw [hl { g with stack := rest } acts rfl hlk hen]
  exact Steps.refl _
end OwnRef

theorem own_z32 : (0 : Int32).toInt = 0 := rfl
theorem own_12 {k : Int32} (h : k < (1 : Int32)) : k < (2 : Int32) := by
  rw [Int32.lt_iff_toInt_lt, show (1 : Int32).toInt = 1 from rfl] at h
  rw [Int32.lt_iff_toInt_lt, show (2 : Int32).toInt = 2 from rfl]; omega
theorem own_23 {k : Int32} (h : k < (2 : Int32)) : k < (3 : Int32) := by
  rw [Int32.lt_iff_toInt_lt, show (2 : Int32).toInt = 2 from rfl] at h
  rw [Int32.lt_iff_toInt_lt, show (3 : Int32).toInt = 3 from rfl]; omega
theorem own_szin {sz : Int32} {n : Nat} (h : sz = Int32.ofNat n) (hn : n < 1024) : ¬ sz < 0 ∧ sz < (1024 : Int32) := by
  rw [h]
  refine ⟨own_in (by omega), ?_⟩
  rw [Int32.lt_iff_toInt_lt, own_il (by omega), show (1024 : Int32).toInt = 1024 from rfl]; omega
theorem own_szne {sz : Int32} {n : Nat} (h : sz = Int32.ofNat n) (hn : n < 1024) : ¬ sz = (1024 : Int32) := fun q => by
  have := (own_szin h hn).2
  rw [q] at this
  exact absurd this (by decide)
theorem own_szc {sz : Int32} {n : Nat} (h : sz = Int32.ofNat n) (hn : n < 1024) : sz.toNatClampNeg = n := by rw [h]; exact own_ic (by omega)
theorem own_app {ps : List Value} {n : Nat} (h : ps.length = n) (d v : Value) : (ps ++ [d]).set n v = ps ++ [v] := by subst h; simp
theorem own_appl {ps : List Value} {n : Nat} (h : ps.length = n) (d : Value) : n < (ps ++ [d]).length := by subst h; simp
theorem own_l2i (x : Int64) : ((x.toInt32).toInt64).toInt32 = x.toInt32 := by
  have a := c_l2i (x.toInt32).toInt64
  rw [c_i2l] at a
  have b := rng32 ((x.toInt32).toInt64).toInt32
  have c := rng32 x.toInt32
  rw [← Int32.toInt_inj]; omega
theorem own_lt1024 {i n : Nat} (h : i < n) (hn : n ≤ 3) : ¬ Int32.ofNat i < 0 ∧ Int32.ofNat i < (1024 : Int32) := own_szin rfl (by omega)
theorem own_ltn {i n : Nat} (h : i < n) (hn : n ≤ 3) : Int32.ofNat i < Int32.ofNat n := by
  rw [Int32.lt_iff_toInt_lt, own_il (by omega), own_il (by omega)]; omega
/-- zeros and others among the first i -/
def own_zc (f : Nat → Nat) : Nat → Nat
  | 0 => 0
  | i + 1 => own_zc f i + (if f i = 0 then 1 else 0)
def own_oc (f : Nat → Nat) : Nat → Nat
  | 0 => 0
  | i + 1 => own_oc f i + (if f i = 0 then 0 else 1)
theorem own_sum (f : Nat → Nat) : ∀ i, own_zc f i + own_oc f i = i
  | 0 => rfl
  | i + 1 => by
    have h := own_sum f i
    show (own_zc f i + _) + (own_oc f i + _) = i + 1
    by_cases q : f i = 0 <;> simp only [q, if_true, if_false] <;> omega
theorem own_zmono (f : Nat → Nat) (i : Nat) : ∀ k, own_zc f i ≤ own_zc f (i + k)
  | 0 => Nat.le_refl _
  | k + 1 => Nat.le_trans (own_zmono f i k) (Nat.le_add_right _ _)
theorem own_omono (f : Nat → Nat) (i : Nat) : ∀ k, own_oc f i ≤ own_oc f (i + k)
  | 0 => Nat.le_refl _
  | k + 1 => Nat.le_trans (own_omono f i k) (Nat.le_add_right _ _)
def own_pk (a z o : Nat) : Nat := if a = 0 then z else o
theorem own_pk0 {a z o : Nat} (h : a = 0) : own_pk a z o = z := if_pos h
theorem own_pk1 {a z o : Nat} (h : ¬ a = 0) : own_pk a z o = o := if_neg h
def own_l3 (x y : Int32) : List Value := [.int (0 : Int32), .int x, .int y]
def own_c3 (z o : Nat) : List Value := own_l3 (Int32.ofNat z) (Int32.ofNat o)
theorem own_c30 (i : Nat) : (own_c3 0 0).getD i (.int (0 : Int32)) = ([] : List Value).getD i (.int (0 : Int32)) := by
  match i with
  | 0 => rfl
  | 1 => rfl
  | 2 => rfl
  | k + 3 => rfl
theorem own_bit2 {a : Nat} (h : a < 2) : a = 0 ∨ a = 1 := by omega
theorem own_ix1 {a : Nat} (h : a < 2) : (Int32.ofNat a + (1 : Int32)).toNatClampNeg = a + 1 := by rcases own_bit2 h with rfl | rfl <;> rfl
theorem own_ix1in {a : Nat} (h : a < 2) : ¬ (Int32.ofNat a + (1 : Int32)) < 0 ∧ (Int32.ofNat a + (1 : Int32)) < (3 : Int32) := by rcases own_bit2 h with rfl | rfl <;> decide
theorem own_c3at {a z o : Nat} (h : a < 2) (d : Value) : (own_c3 z o).getD (Int32.ofNat a + (1 : Int32)).toNatClampNeg d = .int (Int32.ofNat (own_pk a z o)) := by
  rw [own_ix1 h]
  rcases own_bit2 h with rfl | rfl <;> rfl
theorem own_c3set {f : Nat → Nat} {i : Nat} (h : f i < 2) : (own_c3 (own_zc f i) (own_oc f i)).set (f i + 1) (.int (Int32.ofNat (own_pk (f i) (own_zc f i) (own_oc f i)) + (1 : Int32))) = own_c3 (own_zc f (i + 1)) (own_oc f (i + 1)) := by
  show _ = own_c3 (own_zc f i + (if f i = 0 then 1 else 0)) (own_oc f i + (if f i = 0 then 0 else 1))
  rw [own_one]
  rcases own_bit2 h with q | q <;> rw [q] <;> rfl
def own_n2 (z o : Nat) : List Value := [.int (Int32.ofNat z), .int (Int32.ofNat o)]
theorem own_ix0 {a : Nat} (h : a < 2) : (Int32.ofNat a).toNatClampNeg = a := own_ic (by omega)
theorem own_ix0in {a : Nat} (h : a < 2) : ¬ (Int32.ofNat a) < 0 ∧ (Int32.ofNat a) < (2 : Int32) := by rcases own_bit2 h with rfl | rfl <;> decide
theorem own_n2at {a z o : Nat} (h : a < 2) (d : Value) : (own_n2 z o).getD (Int32.ofNat a).toNatClampNeg d = .int (Int32.ofNat (own_pk a z o)) := by
  rw [own_ix0 h]
  rcases own_bit2 h with rfl | rfl <;> rfl
theorem own_n2set {f : Nat → Nat} {i z : Nat} (h : f i < 2) : (own_n2 (own_zc f i) (z + own_oc f i)).set (f i) (.int (Int32.ofNat (own_pk (f i) (own_zc f i) (z + own_oc f i)) + (1 : Int32))) = own_n2 (own_zc f (i + 1)) (z + own_oc f (i + 1)) := by
  show _ = own_n2 (own_zc f i + (if f i = 0 then 1 else 0)) (z + (own_oc f i + (if f i = 0 then 0 else 1)))
  rw [own_one]
  rcases own_bit2 h with q | q <;> rw [q] <;> rfl
theorem own_idx {f : Nat → Nat} {i n : Nat} (hi : i < n) : own_pk (f i) (own_zc f i) (own_zc f n + own_oc f i) < n := by
  have s := own_sum f n
  obtain ⟨k, rfl⟩ : ∃ k, n = (i + 1) + k := ⟨n - (i + 1), by omega⟩
  have a := own_zmono f (i + 1) k
  have b := own_omono f (i + 1) k
  have a' : own_zc f (i + 1) = own_zc f i + (if f i = 0 then 1 else 0) := rfl
  have b' : own_oc f (i + 1) = own_oc f i + (if f i = 0 then 0 else 1) := rfl
  by_cases q : f i = 0
  · rw [own_pk0 q]; rw [if_pos q] at a'; omega
  · rw [own_pk1 q]; rw [if_neg q] at b'; omega
/-- what the sorted rows' array holds when i rows are laid -/
def own_so (f : Nat → Nat) (n : Nat) : Nat → List Value
  | 0 => [] ++ List.replicate n (.int (0 : Int32))
  | i + 1 => (own_so f n i).set (own_pk (f i) (own_zc f i) (own_zc f n + own_oc f i)) (.int (Int32.ofNat i))
theorem own_sol (f : Nat → Nat) (n : Nat) : ∀ i, (own_so f n i).length = n
  | 0 => by simp [own_so]
  | i + 1 => by
    show ((own_so f n i).set _ _).length = n
    rw [List.length_set]; exact own_sol f n i
theorem own_fin0 (n : Nat) (hn : n ≤ 3) : (Int32.ofNat n).toNatClampNeg ≤ 3 := by rw [own_ic (by omega)]; exact hn
def own_f (a b c : Nat) (i : Nat) : Nat := match i with
  | 0 => a
  | 1 => b
  | _ => c
theorem own_f2 {a b c : Nat} (ha : a < 2) (hb : b < 2) (hc : c < 2) (i : Nat) : own_f a b c i < 2 := by
  match i with
  | 0 => exact ha
  | 1 => exact hb
  | k + 2 => exact hc
theorem own_ps1 {a b c : Nat} {p : Int32} (hp : p = Int32.ofNat a) : ∀ i, i < 1 → ([] ++ [Value.int p]).getD i (.int (0 : Int32)) = .int (Int32.ofNat (own_f a b c i)) := fun i hi => by
  match i, hi with
  | 0, _ => rw [hp]; rfl
theorem own_ps2 {a b c : Nat} {p q : Int32} (hp : p = Int32.ofNat a) (hq : q = Int32.ofNat b) : ∀ i, i < 2 → (([] ++ [Value.int p]) ++ [Value.int q]).getD i (.int (0 : Int32)) = .int (Int32.ofNat (own_f a b c i)) := fun i hi => by
  match i, hi with
  | 0, _ => rw [hp]; rfl
  | 1, _ => rw [hq]; rfl
theorem own_ps3 {a b c : Nat} {p q r : Int32} (hp : p = Int32.ofNat a) (hq : q = Int32.ofNat b) (hr : r = Int32.ofNat c) : ∀ i, i < 3 → ((([] ++ [Value.int p]) ++ [Value.int q]) ++ [Value.int r]).getD i (.int (0 : Int32)) = .int (Int32.ofNat (own_f a b c i)) := fun i hi => by
  match i, hi with
  | 0, _ => rw [hp]; rfl
  | 1, _ => rw [hq]; rfl
  | 2, _ => rw [hr]; rfl
theorem own_bit {x p : Int32} (h : p = (x &&& (1 : Int32))) : ∃ a : Nat, a < 2 ∧ p = Int32.ofNat a := by
  rcases and_one x with q | q
  · exact ⟨0, by decide, h.trans q⟩
  · exact ⟨1, by decide, h.trans q⟩
theorem d1_0 : decode prog_18_method_1_code 0 = .ok (.aload_n 0, 1) := by decide +kernel
theorem d1_1 : decode prog_18_method_1_code 1 = .ok (.invokespecial 1, 3) := by decide +kernel
theorem d1_4 : decode prog_18_method_1_code 4 = .ok (.aload_n 0, 1) := by decide +kernel
theorem d1_5 : decode prog_18_method_1_code 5 = .ok (.sipush 1024, 3) := by decide +kernel
theorem d1_8 : decode prog_18_method_1_code 8 = .ok (.newarray .int, 2) := by decide +kernel
theorem d1_10 : decode prog_18_method_1_code 10 = .ok (.putfield 9, 3) := by decide +kernel
theorem d1_13 : decode prog_18_method_1_code 13 = .ok (.aload_n 0, 1) := by decide +kernel
theorem d1_14 : decode prog_18_method_1_code 14 = .ok (.sipush 1024, 3) := by decide +kernel
theorem d1_17 : decode prog_18_method_1_code 17 = .ok (.newarray .int, 2) := by decide +kernel
theorem d1_19 : decode prog_18_method_1_code 19 = .ok (.putfield 13, 3) := by decide +kernel
theorem d1_22 : decode prog_18_method_1_code 22 = .ok (.return_, 1) := by decide +kernel
theorem pn_com_example_vestwright_vestwright_ParticipantRows : plainName "com/example/vestwright/vestwright/ParticipantRows" = true := by first | (simp [plainName, overriddenIn]; done) | decide +kernel
theorem ef_1 (m : MethodId) (o0 : Addr) : entryFrame m #[(.ref o0)] 1 = mkF m 0 #[.val (.ref o0)] [] := by first | (simp [entryFrame, mkF, argsToLocals, Value.category]; done) | rfl
def Q1 (Z : State) (o0 : Addr) (h0 : Heap) (n0 : Nat) (v : Option Value) (h : Heap) (L : List Loc) : Prop := ∃ pa : Addr, ∃ la : Addr, ∃ kp : ClassId, ∃ kl : ClassId, v = none ∧ Fr n0 L ∧ Keep h0 h [o0] ∧ h0.size ≤ pa ∧ h0.size ≤ la ∧ pa ≠ la ∧ Fld Z h o0 "com/example/vestwright/vestwright/ParticipantRows" "participants" "[I" (.ref pa) ∧ Fld Z h o0 "com/example/vestwright/vestwright/ParticipantRows" "lines" "[I" (.ref la) ∧ Arv Z h pa kp .int (1024 : Int32) [] (.int (0 : Int32)) ∧ Arv Z h la kl .int (1024 : Int32) [] (.int (0 : Int32)) ∧ Fld Z h o0 "com/example/vestwright/vestwright/ParticipantRows" "size" "I" (.int (0 : Int32)) ∧ Fld Z h o0 "com/example/vestwright/vestwright/ParticipantRows" "starts" "[I" .null ∧ Fld Z h o0 "com/example/vestwright/vestwright/ParticipantRows" "order" "[I" .null
set_option maxRecDepth 65536 in
set_option maxHeartbeats 40000000 in
theorem rm1 (l : Launch) (Z : State) (a0 : Array Value) (hw : ∀ d ∈ tables_1, d.before a0 Z = true) (ws : List Jvm.Cond) (o0 : Addr) (h0 : Heap) (n0 : Nat) (Z0 : n0 ≤ h0.size) (E_o0 : Exa Z h0 o0 "com/example/vestwright/vestwright/ParticipantRows") (F_participants_o0 : Fld Z h0 o0 "com/example/vestwright/vestwright/ParticipantRows" "participants" "[I" .null) (F_lines_o0 : Fld Z h0 o0 "com/example/vestwright/vestwright/ParticipantRows" "lines" "[I" .null) (F_size_o0 : Fld Z h0 o0 "com/example/vestwright/vestwright/ParticipantRows" "size" "I" (.int (0 : Int32))) (F_starts_o0 : Fld Z h0 o0 "com/example/vestwright/vestwright/ParticipantRows" "starts" "[I" .null) (F_order_o0 : Fld Z h0 o0 "com/example/vestwright/vestwright/ParticipantRows" "order" "[I" .null) (g_o0 : n0 ≤ o0) :
    MetFree l (⟨"com/example/vestwright/vestwright/ParticipantRows", "<init>", "()V"⟩ : MethodName) (head1 (Jvm.Cond.code (⟨"com/example/vestwright/vestwright/ParticipantRows", "<init>", "()V"⟩ : MethodName) prog_18_method_1_code 1 none :: ws) ({ frames := 1, cells := 2, slots := 2048, locals := 12 } : Room)) (fun a U => a = #[(.ref o0)] ∧ Z.Warmed39 U.vm ∧ U.heap = h0) (fun _ _ _ _ _ => True) (fun _ U o U' => ∃ v L, o = .returned v ∧ Q1 Z o0 h0 n0 v U'.heap L ∧ FrameEnd U o U' L ({ frames := 1, cells := 2, slots := 2048, locals := 12 } : Room).cells ({ frames := 1, cells := 2, slots := 2048, locals := 12 } : Room).slots) := by
  refine MetFree.of_bodySF (plainFor_of_name pn_com_example_vestwright_vestwright_ParticipantRows) hisR ?_
  intro p e s m args below meth c s₁ Bd hml0 hP hK
  obtain ⟨rfl, hZ, hh⟩ := hP
  have hx := Bd.exec
  have hby := Bd.bytes
  have hml : c.maxLocals = 1 := hml0
  have hown : s.vm.findClass "com/example/vestwright/vestwright/ParticipantRows" = some m.cls := findClass_of_methodNamed Bd.named
  have hnm := (name_of_methodNamed Bd.named Bd.method).1
  have X0 : Stand p l e ({ frames := 1, cells := 2, slots := 2048, locals := 12 } : Room) s m #[(.ref o0)] below meth c s₁ [] 0 0 := Stand.of_body Bd
  have e0 : s₁.heap = h0 := by rw [← hh, Bd.state]; rfl
  have N0 := Fr.nil n0
  have pre0 : ∀ t, Steps p.tables e below (s₁.setTop (mkF m 0 #[.val (.ref o0)] [])) t → Steps p.tables e below (s₁.setTop (entryFrame m #[(.ref o0)] 1)) t := fun t k => castTop (ef_1 m o0) k
  obtain ⟨T1, X1, e1, st1⟩ := initO X0 hx hZ hown (hw _ (List.mem_of_getElem? (i := 6) rfl)) (hw _ (List.mem_of_getElem? (i := 7) rfl)) (hw _ (List.mem_of_getElem? (i := 8) rfl)) e0 (g := (mkF m 1 #[.val (.ref o0)] [(.ref o0)])) rfl (by rw [hml]; rfl) rfl (hb hby d1_1) (by decide) (W := 0) (by show 2 * 0 + _ ≤ _; exact Nat.le_of_eq rfl) (by decide)
  obtain ⟨T2, h2, k2, X2, e2, E2, A2, st2⟩ := newP X1 hx hZ (hw _ (List.mem_of_getElem? (i := 9) rfl)) e1 (g := (mkF m 8 #[.val (.ref o0)] [(.int (1024 : Int32)), (.ref o0)])) rfl (hb hby d1_8) rfl (by decide) (cap := 1024) (by decide) (by decide) (by decide) (by decide)
  obtain ⟨b2, g2⟩ : ∃ z, z = h0.size := ⟨_, rfl⟩
  rw [← g2] at A2 st2
  have g_b2 : n0 ≤ b2 := Nat.le_trans Z0 (Nat.le_of_eq g2.symm)
  have sz_b2 : h0.size ≤ b2 := Nat.le_trans (Keep.refl h0 [o0]).1 (Nat.le_of_eq g2.symm)
  have ne3 : o0 ≠ b2 := Nat.ne_of_lt (Nat.lt_of_lt_of_le E_o0.lt (Nat.le_of_eq g2.symm))
  have V_b2 : Arv Z h2 b2 k2 .int (1024 : Int32) [] (.int (0 : Int32)) := Arv.new A2 (by decide)
  have J2 : Keep h0 h2 [o0] := (Keep.refl h0 [o0]).ext E2
  have c4 : Fld Z h2 o0 "com/example/vestwright/vestwright/ParticipantRows" "participants" "[I" .null := (F_participants_o0.ext E2)
  have c5 : Exa Z h2 o0 "com/example/vestwright/vestwright/ParticipantRows" := (E_o0.ext E2)
  obtain ⟨T6, h6, X6, e6, W6, st6⟩ := putF X2 hx hZ hown (host := "") (Or.inl (hw _ (List.mem_of_getElem? (i := 10) rfl))) Via.refl e2 c4 c5 (Or.inl (hw _ (List.mem_of_getElem? (i := 11) rfl))) (hw _ (List.mem_of_getElem? (i := 1) rfl)) (ty := (.array .int)) (by decide) rfl rfl (g := (mkF m 10 #[.val (.ref o0)] [(.ref b2), (.ref o0)])) rfl rfl (hb hby d1_10)
  have Fw6 : Fld Z h6 o0 "com/example/vestwright/vestwright/ParticipantRows" "participants" "[I" (.ref b2) := c4.same W6
  have J6 : Keep h0 h6 [o0] := J2.wr W6 (Or.inl (List.mem_of_getElem? (i := 0) rfl))
  have N6 := Fr.snoc X6 N0 g_o0
  have z7 : n0 ≤ h6.size := (Nat.le_trans (Nat.le_trans Z0 E2.1) (Keep.of_wr W6).1)
  have c8 : Exa Z h6 o0 "com/example/vestwright/vestwright/ParticipantRows" := (c5.wr W6)
  have c9 : Arv Z h6 b2 k2 .int (1024 : Int32) [] (.int (0 : Int32)) := (V_b2.other W6 (Ne.symm ne3))
  obtain ⟨T10, h10, k10, X10, e10, E10, A10, st10⟩ := newP X6 hx hZ (hw _ (List.mem_of_getElem? (i := 9) rfl)) e6 (g := (mkF m 17 #[.val (.ref o0)] [(.int (1024 : Int32)), (.ref o0)])) rfl (hb hby d1_17) rfl (by decide) (cap := 1024) (by decide) (by decide) (by decide) (by decide)
  obtain ⟨b10, g10⟩ : ∃ z, z = h6.size := ⟨_, rfl⟩
  rw [← g10] at A10 st10
  have g_b10 : n0 ≤ b10 := Nat.le_trans z7 (Nat.le_of_eq g10.symm)
  have sz_b10 : h0.size ≤ b10 := Nat.le_trans J6.1 (Nat.le_of_eq g10.symm)
  have ne11 : o0 ≠ b10 := Nat.ne_of_lt (Nat.lt_of_lt_of_le c8.lt (Nat.le_of_eq g10.symm))
  have ne12 : b2 ≠ b10 := Nat.ne_of_lt (Nat.lt_of_lt_of_le c9.lt (Nat.le_of_eq g10.symm))
  have V_b10 : Arv Z h10 b10 k10 .int (1024 : Int32) [] (.int (0 : Int32)) := Arv.new A10 (by decide)
  have J10 : Keep h0 h10 [o0] := J6.ext E10
  have c13 : Fld Z h10 o0 "com/example/vestwright/vestwright/ParticipantRows" "lines" "[I" .null := (((F_lines_o0.ext E2).other W6 (Or.inr (slot_ne (Or.inl (hw _ (List.mem_of_getElem? (i := 13) rfl))) (Or.inl (hw _ (List.mem_of_getElem? (i := 11) rfl))) (by decide) (t := (.array .int)) (t' := (.array .int)) (by decide) (by decide)))).ext E10)
  have c14 : Exa Z h10 o0 "com/example/vestwright/vestwright/ParticipantRows" := (c8.ext E10)
  obtain ⟨T15, h15, X15, e15, W15, st15⟩ := putF X10 hx hZ hown (host := "") (Or.inl (hw _ (List.mem_of_getElem? (i := 12) rfl))) Via.refl e10 c13 c14 (Or.inl (hw _ (List.mem_of_getElem? (i := 13) rfl))) (hw _ (List.mem_of_getElem? (i := 1) rfl)) (ty := (.array .int)) (by decide) rfl rfl (g := (mkF m 19 #[.val (.ref o0)] [(.ref b10), (.ref o0)])) rfl rfl (hb hby d1_19)
  have Fw15 : Fld Z h15 o0 "com/example/vestwright/vestwright/ParticipantRows" "lines" "[I" (.ref b10) := c13.same W15
  have J15 : Keep h0 h15 [o0] := J10.wr W15 (Or.inl (List.mem_of_getElem? (i := 0) rfl))
  have N15 := Fr.snoc X15 N6 g_o0
  have c16 : Fld Z h15 o0 "com/example/vestwright/vestwright/ParticipantRows" "participants" "[I" (.ref b2) := ((Fw6.ext E10).other W15 (Or.inr (slot_ne (Or.inl (hw _ (List.mem_of_getElem? (i := 11) rfl))) (Or.inl (hw _ (List.mem_of_getElem? (i := 13) rfl))) (by decide) (t := (.array .int)) (t' := (.array .int)) (by decide) (by decide))))
  have c17 : Arv Z h15 b2 k2 .int (1024 : Int32) [] (.int (0 : Int32)) := ((c9.ext E10).other W15 (Ne.symm ne3))
  have c18 : Arv Z h15 b10 k10 .int (1024 : Int32) [] (.int (0 : Int32)) := (V_b10.other W15 (Ne.symm ne11))
  have c19 : Fld Z h15 o0 "com/example/vestwright/vestwright/ParticipantRows" "size" "I" (.int (0 : Int32)) := ((((F_size_o0.ext E2).other W6 (Or.inr (slot_ne (Or.inl (hw _ (List.mem_of_getElem? (i := 20) rfl))) (Or.inl (hw _ (List.mem_of_getElem? (i := 11) rfl))) (by decide) (t := .int) (t' := (.array .int)) (by decide) (by decide)))).ext E10).other W15 (Or.inr (slot_ne (Or.inl (hw _ (List.mem_of_getElem? (i := 20) rfl))) (Or.inl (hw _ (List.mem_of_getElem? (i := 13) rfl))) (by decide) (t := .int) (t' := (.array .int)) (by decide) (by decide))))
  have c20 : Fld Z h15 o0 "com/example/vestwright/vestwright/ParticipantRows" "starts" "[I" .null := ((((F_starts_o0.ext E2).other W6 (Or.inr (slot_ne (Or.inl (hw _ (List.mem_of_getElem? (i := 34) rfl))) (Or.inl (hw _ (List.mem_of_getElem? (i := 11) rfl))) (by decide) (t := (.array .int)) (t' := (.array .int)) (by decide) (by decide)))).ext E10).other W15 (Or.inr (slot_ne (Or.inl (hw _ (List.mem_of_getElem? (i := 34) rfl))) (Or.inl (hw _ (List.mem_of_getElem? (i := 13) rfl))) (by decide) (t := (.array .int)) (t' := (.array .int)) (by decide) (by decide))))
  have c21 : Fld Z h15 o0 "com/example/vestwright/vestwright/ParticipantRows" "order" "[I" .null := ((((F_order_o0.ext E2).other W6 (Or.inr (slot_ne (Or.inl (hw _ (List.mem_of_getElem? (i := 36) rfl))) (Or.inl (hw _ (List.mem_of_getElem? (i := 11) rfl))) (by decide) (t := (.array .int)) (t' := (.array .int)) (by decide) (by decide)))).ext E10).other W15 (Or.inr (slot_ne (Or.inl (hw _ (List.mem_of_getElem? (i := 36) rfl))) (Or.inl (hw _ (List.mem_of_getElem? (i := 13) rfl))) (by decide) (t := (.array .int)) (t' := (.array .int)) (by decide) (by decide))))
  obtain ⟨fs, hr, hrun, hended, hW, hsame⟩ := X15.leave (v := none) (fun _ => rfl)
  refine ⟨_, _, pre0 _ ?_, hrun, hended, _, _, rfl, ?_, ⟨_, rfl⟩, hW, hsame.mono (by decide) (by decide)⟩
  · show Steps p.tables e below (s₁.setTop (mkF m 0 #[.val (.ref o0)] [])) _
    refine XS.aloadN X0.here hx rfl (hb hby d1_0) rfl rfl ?_
    show Steps p.tables e below (s₁.setTop (mkF m 1 #[.val (.ref o0)] [(.ref o0)])) _
    refine st1 _ ?_
    show Steps p.tables e below (T1.setTop (mkF m 4 #[.val (.ref o0)] [])) _
    refine XS.aloadN X1.here hx rfl (hb hby d1_4) rfl rfl ?_
    show Steps p.tables e below (T1.setTop (mkF m 5 #[.val (.ref o0)] [(.ref o0)])) _
    refine XS.sipush X1.here hx rfl (hb hby d1_5) ?_
    show Steps p.tables e below (T1.setTop (mkF m 8 #[.val (.ref o0)] [(.int (1024 : Int32)), (.ref o0)])) _
    refine st2 _ ?_
    show Steps p.tables e below (T2.setTop (mkF m 10 #[.val (.ref o0)] [(.ref b2), (.ref o0)])) _
    refine st6 _ ?_
    show Steps p.tables e below (T6.setTop (mkF m 13 #[.val (.ref o0)] [])) _
    refine XS.aloadN X6.here hx rfl (hb hby d1_13) rfl rfl ?_
    show Steps p.tables e below (T6.setTop (mkF m 14 #[.val (.ref o0)] [(.ref o0)])) _
    refine XS.sipush X6.here hx rfl (hb hby d1_14) ?_
    show Steps p.tables e below (T6.setTop (mkF m 17 #[.val (.ref o0)] [(.int (1024 : Int32)), (.ref o0)])) _
    refine st10 _ ?_
    show Steps p.tables e below (T10.setTop (mkF m 19 #[.val (.ref o0)] [(.ref b10), (.ref o0)])) _
    refine st15 _ ?_
    show Steps p.tables e below (T15.setTop (mkF m 22 #[.val (.ref o0)] [])) _
    exact X15.returnOut hx Bd.returns (hb hby d1_22) hr
  · show Q1 Z o0 h0 n0 _ T15.heap _
    rw [e15]
    exact ⟨b2, b10, k2, k10, rfl, N15, J15, sz_b2, sz_b10, ne12, c16, Fw15, c17, c18, c19, c20, c21⟩
theorem d43_0 : decode jdk_29_method_43_code 0 = .ok (.lload_n 0, 1) := by decide +kernel
theorem d43_1 : decode jdk_29_method_43_code 1 = .ok (.l2i, 1) := by decide +kernel
theorem d43_2 : decode jdk_29_method_43_code 2 = .ok (.i2l, 1) := by decide +kernel
theorem d43_3 : decode jdk_29_method_43_code 3 = .ok (.lload_n 0, 1) := by decide +kernel
theorem d43_4 : decode jdk_29_method_43_code 4 = .ok (.lcmp, 1) := by decide +kernel
theorem d43_5 : decode jdk_29_method_43_code 5 = .ok (.ifCond .eq 13, 3) := by decide +kernel
theorem d43_18 : decode jdk_29_method_43_code 18 = .ok (.lload_n 0, 1) := by decide +kernel
theorem d43_19 : decode jdk_29_method_43_code 19 = .ok (.l2i, 1) := by decide +kernel
theorem d43_20 : decode jdk_29_method_43_code 20 = .ok (.ireturn, 1) := by decide +kernel
theorem ef_43 (m : MethodId) (q0 : Int64) : entryFrame m #[(.long q0)] 2 = mkF m 0 #[.val (.long q0), .second] [] := by first | (simp [entryFrame, mkF, argsToLocals, Value.category]; done) | rfl
def Q43 (Z : State) (q0 : Int64) (h0 : Heap) (n0 : Nat) (v : Option Value) (h : Heap) (L : List Loc) : Prop := v = some (.int (q0.toInt32)) ∧ Fr n0 L ∧ Keep h0 h []
set_option maxRecDepth 65536 in
set_option maxHeartbeats 40000000 in
theorem rm43 (l : Launch) (Z : State) (a0 : Array Value) (hw : ∀ d ∈ tables_1, d.before a0 Z = true) (ws : List Jvm.Cond) (q0 : Int64) (h0 : Heap) (n0 : Nat) (Z0 : n0 ≤ h0.size) (hq : ((q0.toInt32).toInt64) = q0) :
    MetFree l (⟨"java/lang/Math", "toIntExact", "(J)I"⟩ : MethodName) (head1 (Jvm.Cond.code (⟨"java/lang/Math", "toIntExact", "(J)I"⟩ : MethodName) jdk_29_method_43_code 2 (some .int) :: ws) ({ frames := 0, cells := 0, slots := 0, locals := 0 } : Room)) (fun a U => a = #[(.long q0)] ∧ Z.Warmed39 U.vm ∧ U.heap = h0) (fun _ _ _ _ _ => True) (fun _ U o U' => ∃ v L, o = .returned v ∧ Q43 Z q0 h0 n0 v U'.heap L ∧ FrameEnd U o U' L ({ frames := 0, cells := 0, slots := 0, locals := 0 } : Room).cells ({ frames := 0, cells := 0, slots := 0, locals := 0 } : Room).slots) := by
  refine MetFree.of_bodySF (Jvm.Free.JP.mathPlain rfl (by decide +kernel)) hisR ?_
  intro p e s m args below meth c s₁ Bd hml0 hP hK
  obtain ⟨rfl, hZ, hh⟩ := hP
  have hx := Bd.exec
  have hby := Bd.bytes
  have hml : c.maxLocals = 2 := hml0
  have hown : s.vm.findClass "java/lang/Math" = some m.cls := findClass_of_methodNamed Bd.named
  have hnm := (name_of_methodNamed Bd.named Bd.method).1
  have X0 : Stand p l e ({ frames := 0, cells := 0, slots := 0, locals := 0 } : Room) s m #[(.long q0)] below meth c s₁ [] 0 0 := Stand.of_body Bd
  have e0 : s₁.heap = h0 := by rw [← hh, Bd.state]; rfl
  have N0 := Fr.nil n0
  have pre0 : ∀ t, Steps p.tables e below (s₁.setTop (mkF m 0 #[.val (.long q0), .second] [])) t → Steps p.tables e below (s₁.setTop (entryFrame m #[(.long q0)] 2)) t := fun t k => castTop (ef_43 m q0) k
  obtain ⟨fs, hr, hrun, hended, hW, hsame⟩ := X0.leave (v := some (.int (q0.toInt32))) (fun h => by rw [Bd.returns] at h; cases h)
  refine ⟨_, _, pre0 _ ?_, hrun, hended, _, _, rfl, ?_, ⟨_, rfl⟩, hW, hsame.mono (by decide) (by decide)⟩
  · show Steps p.tables e below (s₁.setTop (mkF m 0 #[.val (.long q0), .second] [])) _
    refine XS.lloadN X0.here hx rfl (hb hby d43_0) rfl ?_
    show Steps p.tables e below (s₁.setTop (mkF m 1 #[.val (.long q0), .second] [(.long q0)])) _
    refine XS.l2i X0.here hx rfl (hb hby d43_1) rfl ?_
    show Steps p.tables e below (s₁.setTop (mkF m 2 #[.val (.long q0), .second] [(.int (q0.toInt32))])) _
    refine XS.i2l X0.here hx rfl (hb hby d43_2) rfl ?_
    show Steps p.tables e below (s₁.setTop (mkF m 3 #[.val (.long q0), .second] [(.long ((q0.toInt32).toInt64))])) _
    refine XS.lloadN X0.here hx rfl (hb hby d43_3) rfl ?_
    show Steps p.tables e below (s₁.setTop (mkF m 4 #[.val (.long q0), .second] [(.long q0), (.long ((q0.toInt32).toInt64))])) _
    refine XS.lcmp X0.here hx rfl (hb hby d43_4) rfl ?_
    show Steps p.tables e below (s₁.setTop (mkF m 5 #[.val (.long q0), .second] [(.int (lcmpW ((q0.toInt32).toInt64) q0))])) _
    refine XS.ifYes X0.here hx rfl (pc0 := 5) (pc' := 18) rfl (hb hby d43_5) rfl ((if0 _ _).trans (teq ((lw_eq _ _).mpr hq)).1) (by decide) (by decide) ?_
    show Steps p.tables e below (s₁.setTop (mkF m 18 #[.val (.long q0), .second] [])) _
    refine XS.lloadN X0.here hx rfl (hb hby d43_18) rfl ?_
    show Steps p.tables e below (s₁.setTop (mkF m 19 #[.val (.long q0), .second] [(.long q0)])) _
    refine XS.l2i X0.here hx rfl (hb hby d43_19) rfl ?_
    show Steps p.tables e below (s₁.setTop (mkF m 20 #[.val (.long q0), .second] [(.int (q0.toInt32))])) _
    exact retI X0 hx Bd.returns (hb hby d43_20) hr
  · show Q43 Z q0 h0 n0 _ s₁.heap _
    rw [e0]
    exact ⟨rfl, N0, (Keep.refl h0 [])⟩
theorem d2_0 : decode prog_18_method_2_code 0 = .ok (.aload_n 0, 1) := by decide +kernel
theorem d2_1 : decode prog_18_method_2_code 1 = .ok (.getfield 16, 3) := by decide +kernel
theorem d2_4 : decode prog_18_method_2_code 4 = .ok (.ifnull 13, 3) := by decide +kernel
theorem d2_17 : decode prog_18_method_2_code 17 = .ok (.aload_n 0, 1) := by decide +kernel
theorem d2_18 : decode prog_18_method_2_code 18 = .ok (.getfield 26, 3) := by decide +kernel
theorem d2_21 : decode prog_18_method_2_code 21 = .ok (.aload_n 0, 1) := by decide +kernel
theorem d2_22 : decode prog_18_method_2_code 22 = .ok (.getfield 9, 3) := by decide +kernel
theorem d2_25 : decode prog_18_method_2_code 25 = .ok (.arraylength, 1) := by decide +kernel
theorem d2_26 : decode prog_18_method_2_code 26 = .ok (.if_icmp .ne 42, 3) := by decide +kernel
theorem d2_68 : decode prog_18_method_2_code 68 = .ok (.aload_n 0, 1) := by decide +kernel
theorem d2_69 : decode prog_18_method_2_code 69 = .ok (.getfield 9, 3) := by decide +kernel
theorem d2_72 : decode prog_18_method_2_code 72 = .ok (.aload_n 0, 1) := by decide +kernel
theorem d2_73 : decode prog_18_method_2_code 73 = .ok (.getfield 26, 3) := by decide +kernel
theorem d2_76 : decode prog_18_method_2_code 76 = .ok (.iload_n 1, 1) := by decide +kernel
theorem d2_77 : decode prog_18_method_2_code 77 = .ok (.iastore, 1) := by decide +kernel
theorem d2_78 : decode prog_18_method_2_code 78 = .ok (.aload_n 0, 1) := by decide +kernel
theorem d2_79 : decode prog_18_method_2_code 79 = .ok (.getfield 13, 3) := by decide +kernel
theorem d2_82 : decode prog_18_method_2_code 82 = .ok (.aload_n 0, 1) := by decide +kernel
theorem d2_83 : decode prog_18_method_2_code 83 = .ok (.getfield 26, 3) := by decide +kernel
theorem d2_86 : decode prog_18_method_2_code 86 = .ok (.lload_n 2, 1) := by decide +kernel
theorem d2_87 : decode prog_18_method_2_code 87 = .ok (.invokestatic 36, 3) := by decide +kernel
theorem d2_90 : decode prog_18_method_2_code 90 = .ok (.iastore, 1) := by decide +kernel
theorem d2_91 : decode prog_18_method_2_code 91 = .ok (.aload_n 0, 1) := by decide +kernel
theorem d2_92 : decode prog_18_method_2_code 92 = .ok (.dup, 1) := by decide +kernel
theorem d2_93 : decode prog_18_method_2_code 93 = .ok (.getfield 26, 3) := by decide +kernel
theorem d2_96 : decode prog_18_method_2_code 96 = .ok (.dup_x1, 1) := by decide +kernel
theorem d2_97 : decode prog_18_method_2_code 97 = .ok (.iconst 1, 1) := by decide +kernel
theorem d2_98 : decode prog_18_method_2_code 98 = .ok (.iadd, 1) := by decide +kernel
theorem d2_99 : decode prog_18_method_2_code 99 = .ok (.putfield 26, 3) := by decide +kernel
theorem d2_102 : decode prog_18_method_2_code 102 = .ok (.ireturn, 1) := by decide +kernel
theorem pd_0 : parseMethodDescriptor "(J)I" = some ⟨[.long], some .int⟩ := by decide +kernel
theorem ef_2 (m : MethodId) (o0 : Addr) (p1 : Int32) (q2 : Int64) : entryFrame m #[(.ref o0), (.int p1), (.long q2)] 5 = mkF m 0 #[.val (.ref o0), .val (.int p1), .val (.long q2), .second, .unset] [] := by first | (simp [entryFrame, mkF, argsToLocals, Value.category]; done) | rfl
def Q2 (Z : State) (o0 : Addr) (p1 : Int32) (q2 : Int64) (n : Nat) (sz : Int32) (pa : Addr) (la : Addr) (kp : ClassId) (kl : ClassId) (ps : List Value) (ls : List Value) (h0 : Heap) (n0 : Nat) (v : Option Value) (h : Heap) (L : List Loc) : Prop := v = some (.int sz) ∧ Fr n0 L ∧ Keep h0 h [o0, pa, la] ∧ Fld Z h o0 "com/example/vestwright/vestwright/ParticipantRows" "size" "I" (.int (sz + (1 : Int32))) ∧ Fld Z h o0 "com/example/vestwright/vestwright/ParticipantRows" "participants" "[I" (.ref pa) ∧ Fld Z h o0 "com/example/vestwright/vestwright/ParticipantRows" "lines" "[I" (.ref la) ∧ Fld Z h o0 "com/example/vestwright/vestwright/ParticipantRows" "starts" "[I" .null ∧ Fld Z h o0 "com/example/vestwright/vestwright/ParticipantRows" "order" "[I" .null ∧ Arv Z h pa kp .int (1024 : Int32) (ps ++ [(.int p1)]) (.int (0 : Int32)) ∧ Arv Z h la kl .int (1024 : Int32) (ls ++ [(.int (q2.toInt32))]) (.int (0 : Int32))
set_option maxRecDepth 65536 in
set_option maxHeartbeats 40000000 in
theorem rm2 (l : Launch) (Z : State) (a0 : Array Value) (hw : ∀ d ∈ tables_1, d.before a0 Z = true) (ws : List Jvm.Cond) (o0 : Addr) (p1 : Int32) (q2 : Int64) (n : Nat) (sz : Int32) (pa : Addr) (la : Addr) (kp : ClassId) (kl : ClassId) (ps : List Value) (ls : List Value) (h0 : Heap) (n0 : Nat) (Z0 : n0 ≤ h0.size) (E_o0 : Exa Z h0 o0 "com/example/vestwright/vestwright/ParticipantRows") (F_size_o0 : Fld Z h0 o0 "com/example/vestwright/vestwright/ParticipantRows" "size" "I" (.int sz)) (F_participants_o0 : Fld Z h0 o0 "com/example/vestwright/vestwright/ParticipantRows" "participants" "[I" (.ref pa)) (F_lines_o0 : Fld Z h0 o0 "com/example/vestwright/vestwright/ParticipantRows" "lines" "[I" (.ref la)) (F_starts_o0 : Fld Z h0 o0 "com/example/vestwright/vestwright/ParticipantRows" "starts" "[I" .null) (F_order_o0 : Fld Z h0 o0 "com/example/vestwright/vestwright/ParticipantRows" "order" "[I" .null) (V_pa : Arv Z h0 pa kp .int (1024 : Int32) ps (.int (0 : Int32))) (V_la : Arv Z h0 la kl .int (1024 : Int32) ls (.int (0 : Int32))) (ne_o0_pa : o0 ≠ pa) (ne_o0_la : o0 ≠ la) (ne_pa_la : pa ≠ la) (g_o0 : n0 ≤ o0) (g_pa : n0 ≤ pa) (g_la : n0 ≤ la) (hsz : sz = Int32.ofNat n) (hn : n < 1024) (hpl : ps.length = n) (hll : ls.length = n) (hq : ((q2.toInt32).toInt64) = q2) :
    MetFree l (⟨"com/example/vestwright/vestwright/ParticipantRows", "add", "(IJ)I"⟩ : MethodName) (head1 (Jvm.Cond.code (⟨"com/example/vestwright/vestwright/ParticipantRows", "add", "(IJ)I"⟩ : MethodName) prog_18_method_2_code 5 (some .int) :: ws) ({ frames := 1, cells := 0, slots := 0, locals := 15 } : Room)) (fun a U => a = #[(.ref o0), (.int p1), (.long q2)] ∧ Z.Warmed39 U.vm ∧ U.heap = h0) (fun _ _ _ _ _ => True) (fun _ U o U' => ∃ v L, o = .returned v ∧ Q2 Z o0 p1 q2 n sz pa la kp kl ps ls h0 n0 v U'.heap L ∧ FrameEnd U o U' L ({ frames := 1, cells := 0, slots := 0, locals := 15 } : Room).cells ({ frames := 1, cells := 0, slots := 0, locals := 15 } : Room).slots) := by
  refine MetFree.of_bodySF (plainFor_of_name pn_com_example_vestwright_vestwright_ParticipantRows) hisR ?_
  intro p e s m args below meth c s₁ Bd hml0 hP hK
  obtain ⟨rfl, hZ, hh⟩ := hP
  have hx := Bd.exec
  have hby := Bd.bytes
  have hml : c.maxLocals = 5 := hml0
  have hown : s.vm.findClass "com/example/vestwright/vestwright/ParticipantRows" = some m.cls := findClass_of_methodNamed Bd.named
  have hnm := (name_of_methodNamed Bd.named Bd.method).1
  have X0 : Stand p l e ({ frames := 1, cells := 0, slots := 0, locals := 15 } : Room) s m #[(.ref o0), (.int p1), (.long q2)] below meth c s₁ [] 0 0 := Stand.of_body Bd
  have e0 : s₁.heap = h0 := by rw [← hh, Bd.state]; rfl
  have N0 := Fr.nil n0
  have pre0 : ∀ t, Steps p.tables e below (s₁.setTop (mkF m 0 #[.val (.ref o0), .val (.int p1), .val (.long q2), .second, .unset] [])) t → Steps p.tables e below (s₁.setTop (entryFrame m #[(.ref o0), (.int p1), (.long q2)] 5)) t := fun t k => castTop (ef_2 m o0 p1 q2) k
  obtain ⟨T1, X1, e1, st1⟩ := getF X0 hx hZ hown (host := "") (Or.inl (hw _ (List.mem_of_getElem? (i := 33) rfl))) Via.refl e0 F_starts_o0 (g := (mkF m 1 #[.val (.ref o0), .val (.int p1), .val (.long q2), .second, .unset] [(.ref o0)])) rfl rfl (hb hby d2_1)
  obtain ⟨T2, X2, e2, st2⟩ := getF X1 hx hZ hown (host := "") (Or.inl (hw _ (List.mem_of_getElem? (i := 19) rfl))) Via.refl e1 F_size_o0 (g := (mkF m 18 #[.val (.ref o0), .val (.int p1), .val (.long q2), .second, .unset] [(.ref o0)])) rfl rfl (hb hby d2_18)
  obtain ⟨T3, X3, e3, st3⟩ := getF X2 hx hZ hown (host := "") (Or.inl (hw _ (List.mem_of_getElem? (i := 10) rfl))) Via.refl e2 F_participants_o0 (g := (mkF m 22 #[.val (.ref o0), .val (.int p1), .val (.long q2), .second, .unset] [(.ref o0), (.int sz)])) rfl rfl (hb hby d2_22)
  obtain ⟨cl4, Ar4, -, Sz4, Nn4, -, -⟩ := id V_pa
  have hc26_5 : ¬ (sz = (1024 : Int32)) := own_szne hsz hn
  obtain ⟨T6, X6, e6, st6⟩ := getF X3 hx hZ hown (host := "") (Or.inl (hw _ (List.mem_of_getElem? (i := 10) rfl))) Via.refl e3 F_participants_o0 (g := (mkF m 69 #[.val (.ref o0), .val (.int p1), .val (.long q2), .second, .unset] [(.ref o0)])) rfl rfl (hb hby d2_69)
  obtain ⟨T7, X7, e7, st7⟩ := getF X6 hx hZ hown (host := "") (Or.inl (hw _ (List.mem_of_getElem? (i := 19) rfl))) Via.refl e6 F_size_o0 (g := (mkF m 73 #[.val (.ref o0), .val (.int p1), .val (.long q2), .second, .unset] [(.ref o0), (.ref pa)])) rfl rfl (hb hby d2_73)
  obtain ⟨cl8, Ar8, qk8, Sz8, Nn8, Hs8, Gs8⟩ := id (V_pa.pad (pad_rep _ _ 1))
  have hin8 : ¬ (sz < 0 ∨ cl8.slots.size ≤ (sz).toNatClampNeg) := inb_of Sz8 (own_szin hsz hn)
  obtain ⟨T9, h9, X9, e9, W9, st9⟩ := stI X7 hx hZ e7 Ar8 (j := sz) hin8 (g := (mkF m 77 #[.val (.ref o0), .val (.int p1), .val (.long q2), .second, .unset] [(.int p1), (.int sz), (.ref pa)])) rfl rfl (hb hby d2_77)
  have V9 : Arv Z h9 pa kp .int (1024 : Int32) (ps ++ [(.int p1)]) (.int (0 : Int32)) := by have q : Arv Z h9 pa kp .int (1024 : Int32) ((ps ++ [(Value.int (0 : Int32))]).set n (Value.int p1)) (.int (0 : Int32)) := Arv.set Ar8 qk8 Sz8 Nn8 Hs8 Gs8 rfl W9 n (own_szc hsz hn) (own_appl hpl _); rw [own_app hpl] at q; exact q
  have J9 : Keep h0 h9 [o0, pa, la] := (Keep.refl h0 [o0, pa, la]).wr W9 (Or.inl (List.mem_of_getElem? (i := 1) rfl))
  have N9 := Fr.snoc X9 N0 g_pa
  have c10 : Fld Z h9 o0 "com/example/vestwright/vestwright/ParticipantRows" "lines" "[I" (.ref la) := (F_lines_o0.other W9 (Or.inl ne_o0_pa))
  obtain ⟨T11, X11, e11, st11⟩ := getF X9 hx hZ hown (host := "") (Or.inl (hw _ (List.mem_of_getElem? (i := 12) rfl))) Via.refl e9 c10 (g := (mkF m 79 #[.val (.ref o0), .val (.int p1), .val (.long q2), .second, .unset] [(.ref o0)])) rfl rfl (hb hby d2_79)
  have c12 : Fld Z h9 o0 "com/example/vestwright/vestwright/ParticipantRows" "size" "I" (.int sz) := (F_size_o0.other W9 (Or.inl ne_o0_pa))
  obtain ⟨T13, X13, e13, st13⟩ := getF X11 hx hZ hown (host := "") (Or.inl (hw _ (List.mem_of_getElem? (i := 19) rfl))) Via.refl e11 c12 (g := (mkF m 83 #[.val (.ref o0), .val (.int p1), .val (.long q2), .second, .unset] [(.ref o0), (.ref la)])) rfl rfl (hb hby d2_83)
  have z14 : n0 ≤ h9.size := (Nat.le_trans Z0 (Keep.of_wr W9).1)
  -- pc 87: Math.toIntExact by rm43
  obtain ⟨_, _, ⟨T15, L15, k15, n15⟩, -, X15, ⟨Lc15, hQ15, l15, y15, z15'⟩, st15⟩ := Jvm.LawKit.callS X13 hx (y := (⟨"java/lang/Math", "toIntExact", "(J)I"⟩ : MethodName)) hown (mvT hZ (hw _ (List.mem_of_getElem? (i := 84) rfl))) (mvT hZ (hw _ (List.mem_of_getElem? (i := 85) rfl))) (mvT hZ (hw _ (List.mem_of_getElem? (i := 27) rfl))) (mvT hZ (hw _ (List.mem_of_getElem? (i := 86) rfl))) (by decide) (backOf (W := 2) (rm43 l Z a0 hw [] q2 h9 n0 z14 hq) hZ (hw _ (List.mem_of_getElem? (i := 86) rfl)) (hw _ (List.mem_of_getElem? (i := 27) rfl)) (by decide) (by decide)) (g := (mkF m 87 #[.val (.ref o0), .val (.int p1), .val (.long q2), .second, .unset] [(.long q2), (.int sz), (.ref la)])) rfl (by rw [hml]; rfl) (argsL := [(.long q2)]) (rest := [(.int sz), (.ref la)]) (lenOf pd_0 rfl) rfl (by show 2 * 0 + _ ≤ _; exact Nat.le_of_eq rfl) (hb hby d2_87) (fun _ _ => ⟨rfl, e13, (by decide : 0 + 0 ≤ _), (by decide : 0 + 0 ≤ _)⟩)
  dsimp only [Pt.U, Pt.locs, Pt.cells, Pt.slots] at X15 l15 y15 z15' st15 hQ15
  subst l15 y15 z15'
  obtain ⟨rfl, N15q, K15⟩ := hQ15
  have N15 := Fr.app N9 N15q
  have J15 : Keep h0 T15.heap [o0, pa, la] := J9.trans K15 all0
  have c16 : Arv Z T15.heap la kl .int (1024 : Int32) ls (.int (0 : Int32)) := ((V_la.other W9 (Ne.symm ne_pa_la)).keep K15 nin0)
  obtain ⟨cl17, Ar17, qk17, Sz17, Nn17, Hs17, Gs17⟩ := id (c16.pad (pad_rep _ _ 1))
  have hin17 : ¬ (sz < 0 ∨ cl17.slots.size ≤ (sz).toNatClampNeg) := inb_of Sz17 (own_szin hsz hn)
  obtain ⟨T18, h18, X18, e18, W18, st18⟩ := stI X15 hx hZ rfl Ar17 (j := sz) hin17 (g := (mkF m 90 #[.val (.ref o0), .val (.int p1), .val (.long q2), .second, .unset] [(.int (q2.toInt32)), (.int sz), (.ref la)])) rfl rfl (hb hby d2_90)
  have V18 : Arv Z h18 la kl .int (1024 : Int32) (ls ++ [(.int (q2.toInt32))]) (.int (0 : Int32)) := by have q : Arv Z h18 la kl .int (1024 : Int32) ((ls ++ [(Value.int (0 : Int32))]).set n (Value.int (q2.toInt32))) (.int (0 : Int32)) := Arv.set Ar17 qk17 Sz17 Nn17 Hs17 Gs17 rfl W18 n (own_szc hsz hn) (own_appl hll _); rw [own_app hll] at q; exact q
  have J18 : Keep h0 h18 [o0, pa, la] := J15.wr W18 (Or.inl (List.mem_of_getElem? (i := 2) rfl))
  have N18 := Fr.snoc X18 N15 g_la
  have c19 : Fld Z h18 o0 "com/example/vestwright/vestwright/ParticipantRows" "size" "I" (.int sz) := ((c12.keep K15 nin0).other W18 (Or.inl ne_o0_la))
  obtain ⟨T20, X20, e20, st20⟩ := getF X18 hx hZ hown (host := "") (Or.inl (hw _ (List.mem_of_getElem? (i := 19) rfl))) Via.refl e18 c19 (g := (mkF m 93 #[.val (.ref o0), .val (.int p1), .val (.long q2), .second, .unset] [(.ref o0), (.ref o0)])) rfl rfl (hb hby d2_93)
  have c21 : Exa Z h18 o0 "com/example/vestwright/vestwright/ParticipantRows" := (((E_o0.wr W9).keep K15).wr W18)
  obtain ⟨T22, h22, X22, e22, W22, st22⟩ := putF X20 hx hZ hown (host := "") (Or.inl (hw _ (List.mem_of_getElem? (i := 19) rfl))) Via.refl e20 c19 c21 (Or.inl (hw _ (List.mem_of_getElem? (i := 20) rfl))) (hw _ (List.mem_of_getElem? (i := 1) rfl)) (ty := .int) (by decide) rfl rfl (g := (mkF m 99 #[.val (.ref o0), .val (.int p1), .val (.long q2), .second, .unset] [(.int (sz + (1 : Int32))), (.ref o0), (.int sz)])) rfl rfl (hb hby d2_99)
  have Fw22 : Fld Z h22 o0 "com/example/vestwright/vestwright/ParticipantRows" "size" "I" (.int (sz + (1 : Int32))) := c19.same W22
  have J22 : Keep h0 h22 [o0, pa, la] := J18.wr W22 (Or.inl (List.mem_of_getElem? (i := 0) rfl))
  have N22 := Fr.snoc X22 N18 g_o0
  have c23 : Fld Z h22 o0 "com/example/vestwright/vestwright/ParticipantRows" "participants" "[I" (.ref pa) := ((((F_participants_o0.other W9 (Or.inl ne_o0_pa)).keep K15 nin0).other W18 (Or.inl ne_o0_la)).other W22 (Or.inr (slot_ne (Or.inl (hw _ (List.mem_of_getElem? (i := 11) rfl))) (Or.inl (hw _ (List.mem_of_getElem? (i := 20) rfl))) (by decide) (t := (.array .int)) (t' := .int) (by decide) (by decide))))
  have c24 : Fld Z h22 o0 "com/example/vestwright/vestwright/ParticipantRows" "lines" "[I" (.ref la) := (((c10.keep K15 nin0).other W18 (Or.inl ne_o0_la)).other W22 (Or.inr (slot_ne (Or.inl (hw _ (List.mem_of_getElem? (i := 13) rfl))) (Or.inl (hw _ (List.mem_of_getElem? (i := 20) rfl))) (by decide) (t := (.array .int)) (t' := .int) (by decide) (by decide))))
  have c25 : Fld Z h22 o0 "com/example/vestwright/vestwright/ParticipantRows" "starts" "[I" .null := ((((F_starts_o0.other W9 (Or.inl ne_o0_pa)).keep K15 nin0).other W18 (Or.inl ne_o0_la)).other W22 (Or.inr (slot_ne (Or.inl (hw _ (List.mem_of_getElem? (i := 34) rfl))) (Or.inl (hw _ (List.mem_of_getElem? (i := 20) rfl))) (by decide) (t := (.array .int)) (t' := .int) (by decide) (by decide))))
  have c26 : Fld Z h22 o0 "com/example/vestwright/vestwright/ParticipantRows" "order" "[I" .null := ((((F_order_o0.other W9 (Or.inl ne_o0_pa)).keep K15 nin0).other W18 (Or.inl ne_o0_la)).other W22 (Or.inr (slot_ne (Or.inl (hw _ (List.mem_of_getElem? (i := 36) rfl))) (Or.inl (hw _ (List.mem_of_getElem? (i := 20) rfl))) (by decide) (t := (.array .int)) (t' := .int) (by decide) (by decide))))
  have c27 : Arv Z h22 pa kp .int (1024 : Int32) (ps ++ [(.int p1)]) (.int (0 : Int32)) := (((V9.keep K15 nin0).other W18 ne_pa_la).other W22 (Ne.symm ne_o0_pa))
  have c28 : Arv Z h22 la kl .int (1024 : Int32) (ls ++ [(.int (q2.toInt32))]) (.int (0 : Int32)) := (V18.other W22 (Ne.symm ne_o0_la))
  obtain ⟨fs, hr, hrun, hended, hW, hsame⟩ := X22.leave (v := some (.int sz)) (fun h => by rw [Bd.returns] at h; cases h)
  refine ⟨_, _, pre0 _ ?_, hrun, hended, _, _, rfl, ?_, ⟨_, rfl⟩, hW, hsame.mono (by decide) (by decide)⟩
  · show Steps p.tables e below (s₁.setTop (mkF m 0 #[.val (.ref o0), .val (.int p1), .val (.long q2), .second, .unset] [])) _
    refine XS.aloadN X0.here hx rfl (hb hby d2_0) rfl rfl ?_
    show Steps p.tables e below (s₁.setTop (mkF m 1 #[.val (.ref o0), .val (.int p1), .val (.long q2), .second, .unset] [(.ref o0)])) _
    refine st1 _ ?_
    show Steps p.tables e below (T1.setTop (mkF m 4 #[.val (.ref o0), .val (.int p1), .val (.long q2), .second, .unset] [.null])) _
    refine XS.ifnullYes X1.here hx rfl (pc0 := 4) (pc' := 17) rfl (hb hby d2_4) rfl (by decide) (by decide) ?_
    show Steps p.tables e below (T1.setTop (mkF m 17 #[.val (.ref o0), .val (.int p1), .val (.long q2), .second, .unset] [])) _
    refine XS.aloadN X1.here hx rfl (hb hby d2_17) rfl rfl ?_
    show Steps p.tables e below (T1.setTop (mkF m 18 #[.val (.ref o0), .val (.int p1), .val (.long q2), .second, .unset] [(.ref o0)])) _
    refine st2 _ ?_
    show Steps p.tables e below (T2.setTop (mkF m 21 #[.val (.ref o0), .val (.int p1), .val (.long q2), .second, .unset] [(.int sz)])) _
    refine XS.aloadN X2.here hx rfl (hb hby d2_21) rfl rfl ?_
    show Steps p.tables e below (T2.setTop (mkF m 22 #[.val (.ref o0), .val (.int p1), .val (.long q2), .second, .unset] [(.ref o0), (.int sz)])) _
    refine st3 _ ?_
    show Steps p.tables e below (T3.setTop (mkF m 25 #[.val (.ref o0), .val (.int p1), .val (.long q2), .second, .unset] [(.ref pa), (.int sz)])) _
    refine X3.arraylength hx (by rw [e3]; exact Ar4.1) (State.isArrayOf_alike hZ.alike Ar4.2.1) (g := (mkF m 25 #[.val (.ref o0), .val (.int p1), .val (.long q2), .second, .unset] [(.ref pa), (.int sz)])) rfl rfl (hb hby d2_25) _ ?_
    rw [len_of Sz4 Nn4]
    show Steps p.tables e below (T3.setTop (mkF m 26 #[.val (.ref o0), .val (.int p1), .val (.long q2), .second, .unset] [(.int (1024 : Int32)), (.int sz)])) _
    refine XS.icmpYes X3.here hx rfl (pc0 := 26) (pc' := 68) rfl (hb hby d2_26) rfl (feq hc26_5).2 (by decide) (by decide) ?_
    show Steps p.tables e below (T3.setTop (mkF m 68 #[.val (.ref o0), .val (.int p1), .val (.long q2), .second, .unset] [])) _
    refine XS.aloadN X3.here hx rfl (hb hby d2_68) rfl rfl ?_
    show Steps p.tables e below (T3.setTop (mkF m 69 #[.val (.ref o0), .val (.int p1), .val (.long q2), .second, .unset] [(.ref o0)])) _
    refine st6 _ ?_
    show Steps p.tables e below (T6.setTop (mkF m 72 #[.val (.ref o0), .val (.int p1), .val (.long q2), .second, .unset] [(.ref pa)])) _
    refine XS.aloadN X6.here hx rfl (hb hby d2_72) rfl rfl ?_
    show Steps p.tables e below (T6.setTop (mkF m 73 #[.val (.ref o0), .val (.int p1), .val (.long q2), .second, .unset] [(.ref o0), (.ref pa)])) _
    refine st7 _ ?_
    show Steps p.tables e below (T7.setTop (mkF m 76 #[.val (.ref o0), .val (.int p1), .val (.long q2), .second, .unset] [(.int sz), (.ref pa)])) _
    refine XS.iloadN X7.here hx rfl (hb hby d2_76) rfl ?_
    show Steps p.tables e below (T7.setTop (mkF m 77 #[.val (.ref o0), .val (.int p1), .val (.long q2), .second, .unset] [(.int p1), (.int sz), (.ref pa)])) _
    refine st9 _ ?_
    show Steps p.tables e below (T9.setTop (mkF m 78 #[.val (.ref o0), .val (.int p1), .val (.long q2), .second, .unset] [])) _
    refine XS.aloadN X9.here hx rfl (hb hby d2_78) rfl rfl ?_
    show Steps p.tables e below (T9.setTop (mkF m 79 #[.val (.ref o0), .val (.int p1), .val (.long q2), .second, .unset] [(.ref o0)])) _
    refine st11 _ ?_
    show Steps p.tables e below (T11.setTop (mkF m 82 #[.val (.ref o0), .val (.int p1), .val (.long q2), .second, .unset] [(.ref la)])) _
    refine XS.aloadN X11.here hx rfl (hb hby d2_82) rfl rfl ?_
    show Steps p.tables e below (T11.setTop (mkF m 83 #[.val (.ref o0), .val (.int p1), .val (.long q2), .second, .unset] [(.ref o0), (.ref la)])) _
    refine st13 _ ?_
    show Steps p.tables e below (T13.setTop (mkF m 86 #[.val (.ref o0), .val (.int p1), .val (.long q2), .second, .unset] [(.int sz), (.ref la)])) _
    refine XS.lloadN X13.here hx rfl (hb hby d2_86) rfl ?_
    show Steps p.tables e below (T13.setTop (mkF m 87 #[.val (.ref o0), .val (.int p1), .val (.long q2), .second, .unset] [(.long q2), (.int sz), (.ref la)])) _
    refine st15 _ ?_
    show Steps p.tables e below (T15.setTop (mkF m 90 #[.val (.ref o0), .val (.int p1), .val (.long q2), .second, .unset] [(.int (q2.toInt32)), (.int sz), (.ref la)])) _
    refine st18 _ ?_
    show Steps p.tables e below (T18.setTop (mkF m 91 #[.val (.ref o0), .val (.int p1), .val (.long q2), .second, .unset] [])) _
    refine XS.aloadN X18.here hx rfl (hb hby d2_91) rfl rfl ?_
    show Steps p.tables e below (T18.setTop (mkF m 92 #[.val (.ref o0), .val (.int p1), .val (.long q2), .second, .unset] [(.ref o0)])) _
    refine XS.dup X18.here hx rfl (hb hby d2_92) rfl rfl ?_
    show Steps p.tables e below (T18.setTop (mkF m 93 #[.val (.ref o0), .val (.int p1), .val (.long q2), .second, .unset] [(.ref o0), (.ref o0)])) _
    refine st20 _ ?_
    show Steps p.tables e below (T20.setTop (mkF m 96 #[.val (.ref o0), .val (.int p1), .val (.long q2), .second, .unset] [(.int sz), (.ref o0)])) _
    refine XS.dupX1 X20.here hx rfl (hb hby d2_96) rfl rfl rfl ?_
    show Steps p.tables e below (T20.setTop (mkF m 97 #[.val (.ref o0), .val (.int p1), .val (.long q2), .second, .unset] [(.int sz), (.ref o0), (.int sz)])) _
    refine XS.iconst X20.here hx rfl (hb hby d2_97) ?_
    show Steps p.tables e below (T20.setTop (mkF m 98 #[.val (.ref o0), .val (.int p1), .val (.long q2), .second, .unset] [(.int (1 : Int32)), (.int sz), (.ref o0), (.int sz)])) _
    refine XS.iadd X20.here hx rfl (hb hby d2_98) rfl ?_
    show Steps p.tables e below (T20.setTop (mkF m 99 #[.val (.ref o0), .val (.int p1), .val (.long q2), .second, .unset] [(.int (sz + (1 : Int32))), (.ref o0), (.int sz)])) _
    refine st22 _ ?_
    show Steps p.tables e below (T22.setTop (mkF m 102 #[.val (.ref o0), .val (.int p1), .val (.long q2), .second, .unset] [(.int sz)])) _
    exact retI X22 hx Bd.returns (hb hby d2_102) hr
  · show Q2 Z o0 p1 q2 n sz pa la kp kl ps ls h0 n0 _ T22.heap _
    rw [e22]
    exact ⟨rfl, N22, J22, Fw22, c23, c24, c25, c26, c27, c28⟩
theorem d3_0 : decode prog_18_method_3_code 0 = .ok (.aload_n 0, 1) := by decide +kernel
theorem d3_1 : decode prog_18_method_3_code 1 = .ok (.getfield 13, 3) := by decide +kernel
theorem d3_4 : decode prog_18_method_3_code 4 = .ok (.iload_n 1, 1) := by decide +kernel
theorem d3_5 : decode prog_18_method_3_code 5 = .ok (.iaload, 1) := by decide +kernel
theorem d3_6 : decode prog_18_method_3_code 6 = .ok (.i2l, 1) := by decide +kernel
theorem d3_7 : decode prog_18_method_3_code 7 = .ok (.lreturn, 1) := by decide +kernel
theorem ef_3 (m : MethodId) (o0 : Addr) (p1 : Int32) : entryFrame m #[(.ref o0), (.int p1)] 2 = mkF m 0 #[.val (.ref o0), .val (.int p1)] [] := by first | (simp [entryFrame, mkF, argsToLocals, Value.category]; done) | rfl
def Q3 (Z : State) (o0 : Addr) (p1 : Int32) (w : Int32) (la : Addr) (kl : ClassId) (ls : List Value) (h0 : Heap) (n0 : Nat) (v : Option Value) (h : Heap) (L : List Loc) : Prop := v = some (.long (w.toInt64)) ∧ Fr n0 L ∧ Keep h0 h []
set_option maxRecDepth 65536 in
set_option maxHeartbeats 40000000 in
theorem rm3 (l : Launch) (Z : State) (a0 : Array Value) (hw : ∀ d ∈ tables_1, d.before a0 Z = true) (ws : List Jvm.Cond) (o0 : Addr) (p1 : Int32) (w : Int32) (la : Addr) (kl : ClassId) (ls : List Value) (h0 : Heap) (n0 : Nat) (Z0 : n0 ≤ h0.size) (F_lines_o0 : Fld Z h0 o0 "com/example/vestwright/vestwright/ParticipantRows" "lines" "[I" (.ref la)) (V_la : Arv Z h0 la kl .int (1024 : Int32) ls (.int (0 : Int32))) (hi : ¬ p1 < 0 ∧ p1 < (1024 : Int32)) (ha : ls.getD p1.toNatClampNeg (.int (0 : Int32)) = (.int w)) :
    MetFree l (⟨"com/example/vestwright/vestwright/ParticipantRows", "line", "(I)J"⟩ : MethodName) (head1 (Jvm.Cond.code (⟨"com/example/vestwright/vestwright/ParticipantRows", "line", "(I)J"⟩ : MethodName) prog_18_method_3_code 2 (some .long) :: ws) ({ frames := 0, cells := 0, slots := 0, locals := 0 } : Room)) (fun a U => a = #[(.ref o0), (.int p1)] ∧ Z.Warmed39 U.vm ∧ U.heap = h0) (fun _ _ _ _ _ => True) (fun _ U o U' => ∃ v L, o = .returned v ∧ Q3 Z o0 p1 w la kl ls h0 n0 v U'.heap L ∧ FrameEnd U o U' L ({ frames := 0, cells := 0, slots := 0, locals := 0 } : Room).cells ({ frames := 0, cells := 0, slots := 0, locals := 0 } : Room).slots) := by
  refine MetFree.of_bodySF (plainFor_of_name pn_com_example_vestwright_vestwright_ParticipantRows) hisR ?_
  intro p e s m args below meth c s₁ Bd hml0 hP hK
  obtain ⟨rfl, hZ, hh⟩ := hP
  have hx := Bd.exec
  have hby := Bd.bytes
  have hml : c.maxLocals = 2 := hml0
  have hown : s.vm.findClass "com/example/vestwright/vestwright/ParticipantRows" = some m.cls := findClass_of_methodNamed Bd.named
  have hnm := (name_of_methodNamed Bd.named Bd.method).1
  have X0 : Stand p l e ({ frames := 0, cells := 0, slots := 0, locals := 0 } : Room) s m #[(.ref o0), (.int p1)] below meth c s₁ [] 0 0 := Stand.of_body Bd
  have e0 : s₁.heap = h0 := by rw [← hh, Bd.state]; rfl
  have N0 := Fr.nil n0
  have pre0 : ∀ t, Steps p.tables e below (s₁.setTop (mkF m 0 #[.val (.ref o0), .val (.int p1)] [])) t → Steps p.tables e below (s₁.setTop (entryFrame m #[(.ref o0), (.int p1)] 2)) t := fun t k => castTop (ef_3 m o0 p1) k
  obtain ⟨T1, X1, e1, st1⟩ := getF X0 hx hZ hown (host := "") (Or.inl (hw _ (List.mem_of_getElem? (i := 12) rfl))) Via.refl e0 F_lines_o0 (g := (mkF m 1 #[.val (.ref o0), .val (.int p1)] [(.ref o0)])) rfl rfl (hb hby d3_1)
  obtain ⟨cl2, Ar2, -, Sz2, Nn2, Hs2, -⟩ := id V_la
  have hin2 : ¬ (p1 < 0 ∨ cl2.slots.size ≤ (p1).toNatClampNeg) := inb_of Sz2 hi
  have hat2 : cl2.slots[(p1).toNatClampNeg]? = some (.int w) := Hs2.at hin2 ha
  obtain ⟨fs, hr, hrun, hended, hW, hsame⟩ := X1.leave (v := some (.long (w.toInt64))) (fun h => by rw [Bd.returns] at h; cases h)
  refine ⟨_, _, pre0 _ ?_, hrun, hended, _, _, rfl, ?_, ⟨_, rfl⟩, hW, hsame.mono (by decide) (by decide)⟩
  · show Steps p.tables e below (s₁.setTop (mkF m 0 #[.val (.ref o0), .val (.int p1)] [])) _
    refine XS.aloadN X0.here hx rfl (hb hby d3_0) rfl rfl ?_
    show Steps p.tables e below (s₁.setTop (mkF m 1 #[.val (.ref o0), .val (.int p1)] [(.ref o0)])) _
    refine st1 _ ?_
    show Steps p.tables e below (T1.setTop (mkF m 4 #[.val (.ref o0), .val (.int p1)] [(.ref la)])) _
    refine XS.iloadN X1.here hx rfl (hb hby d3_4) rfl ?_
    show Steps p.tables e below (T1.setTop (mkF m 5 #[.val (.ref o0), .val (.int p1)] [(.int p1), (.ref la)])) _
    refine X1.iaload hx (j := p1) (v := (.int w)) (by rw [e1]; exact Ar2.1) (State.isArrayOf_alike hZ.alike Ar2.2.1) Ar2.2.2 hin2 hat2 (g := (mkF m 5 #[.val (.ref o0), .val (.int p1)] [(.int p1), (.ref la)])) rfl rfl (hb hby d3_5) _ ?_
    show Steps p.tables e below (T1.setTop (mkF m 6 #[.val (.ref o0), .val (.int p1)] [(.int w)])) _
    refine XS.i2l X1.here hx rfl (hb hby d3_6) rfl ?_
    show Steps p.tables e below (T1.setTop (mkF m 7 #[.val (.ref o0), .val (.int p1)] [(.long (w.toInt64))])) _
    jvm_step X1.here [X1.here.top, hx, (hb hby d3_7), X1.method', Bd.returns, narrow]
    first | (intro acts; rw [hr _ acts rfl rfl rfl]) | rw [hr _ _ rfl rfl rfl]
    exact Steps.refl _
  · show Q3 Z o0 p1 w la kl ls h0 n0 _ T1.heap _
    rw [e1]
    exact ⟨rfl, N0, (Keep.refl h0 [])⟩
theorem d69_0 : decode jdk_29_method_69_code 0 = .ok (.iload_n 0, 1) := by decide +kernel
theorem d69_1 : decode jdk_29_method_69_code 1 = .ok (.iload_n 1, 1) := by decide +kernel
theorem d69_2 : decode jdk_29_method_69_code 2 = .ok (.if_icmp .gt 7, 3) := by decide +kernel
theorem d69_9 : decode jdk_29_method_69_code 9 = .ok (.iload_n 1, 1) := by decide +kernel
theorem d69_10 : decode jdk_29_method_69_code 10 = .ok (.ireturn, 1) := by decide +kernel
theorem ef_69 (m : MethodId)  : entryFrame m #[(.int (3 : Int32)), (.int (2 : Int32))] 2 = mkF m 0 #[.val (.int (3 : Int32)), .val (.int (2 : Int32))] [] := by first | (simp [entryFrame, mkF, argsToLocals, Value.category]; done) | rfl
def Q69 (Z : State)  (h0 : Heap) (n0 : Nat) (v : Option Value) (h : Heap) (L : List Loc) : Prop := v = some (.int (2 : Int32)) ∧ Fr n0 L ∧ Keep h0 h []
set_option maxRecDepth 65536 in
set_option maxHeartbeats 40000000 in
theorem rm69 (l : Launch) (Z : State) (a0 : Array Value) (hw : ∀ d ∈ tables_1, d.before a0 Z = true) (ws : List Jvm.Cond)  (h0 : Heap) (n0 : Nat) (Z0 : n0 ≤ h0.size) :
    MetFree l (⟨"java/lang/Math", "min", "(II)I"⟩ : MethodName) (head1 (Jvm.Cond.code (⟨"java/lang/Math", "min", "(II)I"⟩ : MethodName) jdk_29_method_69_code 2 (some .int) :: ws) ({ frames := 0, cells := 0, slots := 0, locals := 0 } : Room)) (fun a U => a = #[(.int (3 : Int32)), (.int (2 : Int32))] ∧ Z.Warmed39 U.vm ∧ U.heap = h0) (fun _ _ _ _ _ => True) (fun _ U o U' => ∃ v L, o = .returned v ∧ Q69 Z  h0 n0 v U'.heap L ∧ FrameEnd U o U' L ({ frames := 0, cells := 0, slots := 0, locals := 0 } : Room).cells ({ frames := 0, cells := 0, slots := 0, locals := 0 } : Room).slots) := by
  refine MetFree.of_bodySF (Jvm.Free.JP.mathPlain rfl (by decide +kernel)) hisR ?_
  intro p e s m args below meth c s₁ Bd hml0 hP hK
  obtain ⟨rfl, hZ, hh⟩ := hP
  have hx := Bd.exec
  have hby := Bd.bytes
  have hml : c.maxLocals = 2 := hml0
  have hown : s.vm.findClass "java/lang/Math" = some m.cls := findClass_of_methodNamed Bd.named
  have hnm := (name_of_methodNamed Bd.named Bd.method).1
  have X0 : Stand p l e ({ frames := 0, cells := 0, slots := 0, locals := 0 } : Room) s m #[(.int (3 : Int32)), (.int (2 : Int32))] below meth c s₁ [] 0 0 := Stand.of_body Bd
  have e0 : s₁.heap = h0 := by rw [← hh, Bd.state]; rfl
  have N0 := Fr.nil n0
  have pre0 : ∀ t, Steps p.tables e below (s₁.setTop (mkF m 0 #[.val (.int (3 : Int32)), .val (.int (2 : Int32))] [])) t → Steps p.tables e below (s₁.setTop (entryFrame m #[(.int (3 : Int32)), (.int (2 : Int32))] 2)) t := fun t k => castTop (ef_69 m ) k
  obtain ⟨fs, hr, hrun, hended, hW, hsame⟩ := X0.leave (v := some (.int (2 : Int32))) (fun h => by rw [Bd.returns] at h; cases h)
  refine ⟨_, _, pre0 _ ?_, hrun, hended, _, _, rfl, ?_, ⟨_, rfl⟩, hW, hsame.mono (by decide) (by decide)⟩
  · show Steps p.tables e below (s₁.setTop (mkF m 0 #[.val (.int (3 : Int32)), .val (.int (2 : Int32))] [])) _
    refine XS.iloadN X0.here hx rfl (hb hby d69_0) rfl ?_
    show Steps p.tables e below (s₁.setTop (mkF m 1 #[.val (.int (3 : Int32)), .val (.int (2 : Int32))] [(.int (3 : Int32))])) _
    refine XS.iloadN X0.here hx rfl (hb hby d69_1) rfl ?_
    show Steps p.tables e below (s₁.setTop (mkF m 2 #[.val (.int (3 : Int32)), .val (.int (2 : Int32))] [(.int (2 : Int32)), (.int (3 : Int32))])) _
    refine XS.icmpYes X0.here hx rfl (pc0 := 2) (pc' := 9) rfl (hb hby d69_2) rfl (tlt (by decide)).2.2.1 (by decide) (by decide) ?_
    show Steps p.tables e below (s₁.setTop (mkF m 9 #[.val (.int (3 : Int32)), .val (.int (2 : Int32))] [])) _
    refine XS.iloadN X0.here hx rfl (hb hby d69_9) rfl ?_
    show Steps p.tables e below (s₁.setTop (mkF m 10 #[.val (.int (3 : Int32)), .val (.int (2 : Int32))] [(.int (2 : Int32))])) _
    exact retI X0 hx Bd.returns (hb hby d69_10) hr
  · show Q69 Z  h0 n0 _ s₁.heap _
    rw [e0]
    exact ⟨rfl, N0, (Keep.refl h0 [])⟩
theorem d123_0 : decode jdk_65_method_123_code 0 = .ok (.iload_n 1, 1) := by decide +kernel
theorem d123_1 : decode jdk_65_method_123_code 1 = .ok (.aload_n 0, 1) := by decide +kernel
theorem d123_2 : decode jdk_65_method_123_code 2 = .ok (.arraylength, 1) := by decide +kernel
theorem d123_3 : decode jdk_65_method_123_code 3 = .ok (.if_icmp .ne 11, 3) := by decide +kernel
theorem d123_14 : decode jdk_65_method_123_code 14 = .ok (.iload_n 1, 1) := by decide +kernel
theorem d123_15 : decode jdk_65_method_123_code 15 = .ok (.newarray .int, 2) := by decide +kernel
theorem d123_17 : decode jdk_65_method_123_code 17 = .ok (.astore_n 2, 1) := by decide +kernel
theorem d123_18 : decode jdk_65_method_123_code 18 = .ok (.aload_n 0, 1) := by decide +kernel
theorem d123_19 : decode jdk_65_method_123_code 19 = .ok (.iconst 0, 1) := by decide +kernel
theorem d123_20 : decode jdk_65_method_123_code 20 = .ok (.aload_n 2, 1) := by decide +kernel
theorem d123_21 : decode jdk_65_method_123_code 21 = .ok (.iconst 0, 1) := by decide +kernel
theorem d123_22 : decode jdk_65_method_123_code 22 = .ok (.aload_n 0, 1) := by decide +kernel
theorem d123_23 : decode jdk_65_method_123_code 23 = .ok (.arraylength, 1) := by decide +kernel
theorem d123_24 : decode jdk_65_method_123_code 24 = .ok (.iload_n 1, 1) := by decide +kernel
theorem d123_25 : decode jdk_65_method_123_code 25 = .ok (.invokestatic 304, 3) := by decide +kernel
theorem d123_28 : decode jdk_65_method_123_code 28 = .ok (.invokestatic 150, 3) := by decide +kernel
theorem d123_31 : decode jdk_65_method_123_code 31 = .ok (.aload_n 2, 1) := by decide +kernel
theorem d123_32 : decode jdk_65_method_123_code 32 = .ok (.areturn, 1) := by decide +kernel
theorem pn_java_util_Arrays : plainName "java/util/Arrays" = true := by first | (simp [plainName, overriddenIn]; done) | decide +kernel
theorem pd_1 : parseMethodDescriptor "(II)I" = some ⟨[.int, .int], some .int⟩ := by decide +kernel
theorem ef_123 (m : MethodId) (o0 : Addr) : entryFrame m #[(.ref o0), (.int (2 : Int32))] 3 = mkF m 0 #[.val (.ref o0), .val (.int (2 : Int32)), .unset] [] := by first | (simp [entryFrame, mkF, argsToLocals, Value.category]; done) | rfl
def Q123 (Z : State) (o0 : Addr) (ka : ClassId) (x : Int32) (y : Int32) (h0 : Heap) (n0 : Nat) (v : Option Value) (h : Heap) (L : List Loc) : Prop := ∃ b : Addr, ∃ kb : ClassId, v = some (.ref b) ∧ Fr n0 L ∧ Keep h0 h [] ∧ h0.size ≤ b ∧ Arv Z h b kb .int (2 : Int32) [.int (0 : Int32), .int x] (.int (0 : Int32))
set_option maxRecDepth 65536 in
set_option maxHeartbeats 40000000 in
theorem rm123 (l : Launch) (Z : State) (a0 : Array Value) (hw : ∀ d ∈ tables_1, d.before a0 Z = true) (ws : List Jvm.Cond) (o0 : Addr) (ka : ClassId) (x : Int32) (y : Int32) (h0 : Heap) (n0 : Nat) (Z0 : n0 ≤ h0.size) (V_o0 : Arv Z h0 o0 ka .int (3 : Int32) (own_l3 x y) (.int (0 : Int32))) :
    MetFree l (⟨"java/util/Arrays", "copyOf", "([II)[I"⟩ : MethodName) (head1 (Jvm.Cond.code (⟨"java/util/Arrays", "copyOf", "([II)[I"⟩ : MethodName) jdk_65_method_123_code 3 (some (.array .int)) :: ws) ({ frames := 1, cells := 1, slots := 2, locals := 18 } : Room)) (fun a U => a = #[(.ref o0), (.int (2 : Int32))] ∧ Z.Warmed39 U.vm ∧ U.heap = h0) (fun _ _ _ _ _ => True) (fun _ U o U' => ∃ v L, o = .returned v ∧ Q123 Z o0 ka x y h0 n0 v U'.heap L ∧ FrameEnd U o U' L ({ frames := 1, cells := 1, slots := 2, locals := 18 } : Room).cells ({ frames := 1, cells := 1, slots := 2, locals := 18 } : Room).slots) := by
  refine MetFree.of_bodySF (plainFor_of_name pn_java_util_Arrays) hisR ?_
  intro p e s m args below meth c s₁ Bd hml0 hP hK
  obtain ⟨rfl, hZ, hh⟩ := hP
  have hx := Bd.exec
  have hby := Bd.bytes
  have hml : c.maxLocals = 3 := hml0
  have hown : s.vm.findClass "java/util/Arrays" = some m.cls := findClass_of_methodNamed Bd.named
  have hnm := (name_of_methodNamed Bd.named Bd.method).1
  have X0 : Stand p l e ({ frames := 1, cells := 1, slots := 2, locals := 18 } : Room) s m #[(.ref o0), (.int (2 : Int32))] below meth c s₁ [] 0 0 := Stand.of_body Bd
  have e0 : s₁.heap = h0 := by rw [← hh, Bd.state]; rfl
  have N0 := Fr.nil n0
  have pre0 : ∀ t, Steps p.tables e below (s₁.setTop (mkF m 0 #[.val (.ref o0), .val (.int (2 : Int32)), .unset] [])) t → Steps p.tables e below (s₁.setTop (entryFrame m #[(.ref o0), (.int (2 : Int32))] 3)) t := fun t k => castTop (ef_123 m o0) k
  obtain ⟨cl1, Ar1, -, Sz1, Nn1, -, -⟩ := id V_o0
  obtain ⟨T2, h2, k2, X2, e2, E2, A2, st2⟩ := newP X0 hx hZ (hw _ (List.mem_of_getElem? (i := 9) rfl)) e0 (g := (mkF m 15 #[.val (.ref o0), .val (.int (2 : Int32)), .unset] [(.int (2 : Int32))])) rfl (hb hby d123_15) rfl (by decide) (cap := 2) (by decide) (by decide) (by decide) (by decide)
  obtain ⟨b2, g2⟩ : ∃ z, z = h0.size := ⟨_, rfl⟩
  rw [← g2] at A2 st2
  have g_b2 : n0 ≤ b2 := Nat.le_trans Z0 (Nat.le_of_eq g2.symm)
  have sz_b2 : h0.size ≤ b2 := Nat.le_trans (Keep.refl h0 []).1 (Nat.le_of_eq g2.symm)
  have ne3 : o0 ≠ b2 := Nat.ne_of_lt (Nat.lt_of_lt_of_le V_o0.lt (Nat.le_of_eq g2.symm))
  have V_b2 : Arv Z h2 b2 k2 .int (2 : Int32) [] (.int (0 : Int32)) := Arv.new A2 (by decide)
  have J2 : Keep h0 h2 [] := (Keep.refl h0 []).ext E2
  have c4 : Arv Z h2 o0 ka .int (3 : Int32) (own_l3 x y) (.int (0 : Int32)) := (V_o0.ext E2)
  obtain ⟨cl5, Ar5, -, Sz5, Nn5, -, -⟩ := id c4
  have z6 : n0 ≤ h2.size := (Nat.le_trans Z0 E2.1)
  -- pc 25: Math.min by rm69
  obtain ⟨_, _, ⟨T7, L7, k7, n7⟩, -, X7, ⟨Lc7, hQ7, l7, y7, z7'⟩, st7⟩ := Jvm.LawKit.callS X2 hx (y := (⟨"java/lang/Math", "min", "(II)I"⟩ : MethodName)) hown (mvT hZ (hw _ (List.mem_of_getElem? (i := 25) rfl))) (mvT hZ (hw _ (List.mem_of_getElem? (i := 26) rfl))) (mvT hZ (hw _ (List.mem_of_getElem? (i := 27) rfl))) (mvT hZ (hw _ (List.mem_of_getElem? (i := 28) rfl))) (by decide) (backOf (W := 4) (rm69 l Z a0 hw []  h2 n0 z6 ) hZ (hw _ (List.mem_of_getElem? (i := 28) rfl)) (hw _ (List.mem_of_getElem? (i := 27) rfl)) (by decide) (by decide)) (g := (mkF m 25 #[.val (.ref o0), .val (.int (2 : Int32)), .val (.ref b2)] [(.int (2 : Int32)), (.int (3 : Int32)), (.int (0 : Int32)), (.ref b2), (.int (0 : Int32)), (.ref o0)])) rfl (by rw [hml]; rfl) (argsL := [(.int (3 : Int32)), (.int (2 : Int32))]) (rest := [(.int (0 : Int32)), (.ref b2), (.int (0 : Int32)), (.ref o0)]) (lenOf pd_1 rfl) rfl (by show 2 * 0 + _ ≤ _; exact Nat.le_of_eq rfl) (hb hby d123_25) (fun _ _ => ⟨rfl, e2, (by decide : 1 + 0 ≤ _), (by decide : 2 + 0 ≤ _)⟩)
  dsimp only [Pt.U, Pt.locs, Pt.cells, Pt.slots] at X7 l7 y7 z7' st7 hQ7
  subst l7 y7 z7'
  obtain ⟨rfl, N7q, K7⟩ := hQ7
  have N7 := Fr.app N0 N7q
  have J7 : Keep h0 T7.heap [] := J2.trans K7 all0
  have c8 : Arv Z T7.heap b2 k2 .int (2 : Int32) [] (.int (0 : Int32)) := (V_b2.keep K7 nin0)
  have c10 : Arv Z T7.heap o0 ka .int (3 : Int32) (own_l3 x y) (.int (0 : Int32)) := (c4.keep K7 nin0)
  obtain ⟨T9, h9, L9, X9, e9, N9, K9, Vc9, st9⟩ := cpA X7 hx hZ hown (hw _ (List.mem_of_getElem? (i := 29) rfl)) (hw _ (List.mem_of_getElem? (i := 32) rfl)) (hw _ (List.mem_of_getElem? (i := 30) rfl)) (hw _ (List.mem_of_getElem? (i := 31) rfl)) rfl c10 (c8.pad (pad_rep [] (.int (0 : Int32)) 2)) (Or.inl ⟨rfl, rfl⟩) (by decide) (by decide) (by decide) (by decide) (by decide) (us := [.int (0 : Int32), .int x]) rfl (by decide) N7 g_b2 (g := (mkF m 28 #[.val (.ref o0), .val (.int (2 : Int32)), .val (.ref b2)] [(.int (2 : Int32)), (.int (0 : Int32)), (.ref b2), (.int (0 : Int32)), (.ref o0)])) rfl (by rw [hml]; rfl) (rest := []) rfl (hb hby d123_28) (by decide) (W := 0) (by show 2 * 0 + _ ≤ _; exact Nat.le_of_eq rfl) (by decide)
  have J9 : Keep h0 h9 [] := J7.trans K9 (allS (Or.inr sz_b2) all0)
  have V9 : Arv Z h9 b2 k2 .int (2 : Int32) [.int (0 : Int32), .int x] (.int (0 : Int32)) := Vc9
  obtain ⟨fs, hr, hrun, hended, hW, hsame⟩ := X9.leave (v := some (.ref b2)) (fun h => by rw [Bd.returns] at h; cases h)
  refine ⟨_, _, pre0 _ ?_, hrun, hended, _, _, rfl, ?_, ⟨_, rfl⟩, hW, hsame.mono (by decide) (by decide)⟩
  · show Steps p.tables e below (s₁.setTop (mkF m 0 #[.val (.ref o0), .val (.int (2 : Int32)), .unset] [])) _
    refine XS.iloadN X0.here hx rfl (hb hby d123_0) rfl ?_
    show Steps p.tables e below (s₁.setTop (mkF m 1 #[.val (.ref o0), .val (.int (2 : Int32)), .unset] [(.int (2 : Int32))])) _
    refine XS.aloadN X0.here hx rfl (hb hby d123_1) rfl rfl ?_
    show Steps p.tables e below (s₁.setTop (mkF m 2 #[.val (.ref o0), .val (.int (2 : Int32)), .unset] [(.ref o0), (.int (2 : Int32))])) _
    refine X0.arraylength hx (by rw [e0]; exact Ar1.1) (State.isArrayOf_alike hZ.alike Ar1.2.1) (g := (mkF m 2 #[.val (.ref o0), .val (.int (2 : Int32)), .unset] [(.ref o0), (.int (2 : Int32))])) rfl rfl (hb hby d123_2) _ ?_
    rw [len_of Sz1 Nn1]
    show Steps p.tables e below (s₁.setTop (mkF m 3 #[.val (.ref o0), .val (.int (2 : Int32)), .unset] [(.int (3 : Int32)), (.int (2 : Int32))])) _
    refine XS.icmpYes X0.here hx rfl (pc0 := 3) (pc' := 14) rfl (hb hby d123_3) rfl (feq (by decide)).2 (by decide) (by decide) ?_
    show Steps p.tables e below (s₁.setTop (mkF m 14 #[.val (.ref o0), .val (.int (2 : Int32)), .unset] [])) _
    refine XS.iloadN X0.here hx rfl (hb hby d123_14) rfl ?_
    show Steps p.tables e below (s₁.setTop (mkF m 15 #[.val (.ref o0), .val (.int (2 : Int32)), .unset] [(.int (2 : Int32))])) _
    refine st2 _ ?_
    show Steps p.tables e below (T2.setTop (mkF m 17 #[.val (.ref o0), .val (.int (2 : Int32)), .unset] [(.ref b2)])) _
    refine XS.astoreN X2.here hx rfl (hb hby d123_17) rfl rfl (l' := #[.val (.ref o0), .val (.int (2 : Int32)), .val (.ref b2)]) rfl ?_
    show Steps p.tables e below (T2.setTop (mkF m 18 #[.val (.ref o0), .val (.int (2 : Int32)), .val (.ref b2)] [])) _
    refine XS.aloadN X2.here hx rfl (hb hby d123_18) rfl rfl ?_
    show Steps p.tables e below (T2.setTop (mkF m 19 #[.val (.ref o0), .val (.int (2 : Int32)), .val (.ref b2)] [(.ref o0)])) _
    refine XS.iconst X2.here hx rfl (hb hby d123_19) ?_
    show Steps p.tables e below (T2.setTop (mkF m 20 #[.val (.ref o0), .val (.int (2 : Int32)), .val (.ref b2)] [(.int (0 : Int32)), (.ref o0)])) _
    refine XS.aloadN X2.here hx rfl (hb hby d123_20) rfl rfl ?_
    show Steps p.tables e below (T2.setTop (mkF m 21 #[.val (.ref o0), .val (.int (2 : Int32)), .val (.ref b2)] [(.ref b2), (.int (0 : Int32)), (.ref o0)])) _
    refine XS.iconst X2.here hx rfl (hb hby d123_21) ?_
    show Steps p.tables e below (T2.setTop (mkF m 22 #[.val (.ref o0), .val (.int (2 : Int32)), .val (.ref b2)] [(.int (0 : Int32)), (.ref b2), (.int (0 : Int32)), (.ref o0)])) _
    refine XS.aloadN X2.here hx rfl (hb hby d123_22) rfl rfl ?_
    show Steps p.tables e below (T2.setTop (mkF m 23 #[.val (.ref o0), .val (.int (2 : Int32)), .val (.ref b2)] [(.ref o0), (.int (0 : Int32)), (.ref b2), (.int (0 : Int32)), (.ref o0)])) _
    refine X2.arraylength hx (by rw [e2]; exact Ar5.1) (State.isArrayOf_alike hZ.alike Ar5.2.1) (g := (mkF m 23 #[.val (.ref o0), .val (.int (2 : Int32)), .val (.ref b2)] [(.ref o0), (.int (0 : Int32)), (.ref b2), (.int (0 : Int32)), (.ref o0)])) rfl rfl (hb hby d123_23) _ ?_
    rw [len_of Sz5 Nn5]
    show Steps p.tables e below (T2.setTop (mkF m 24 #[.val (.ref o0), .val (.int (2 : Int32)), .val (.ref b2)] [(.int (3 : Int32)), (.int (0 : Int32)), (.ref b2), (.int (0 : Int32)), (.ref o0)])) _
    refine XS.iloadN X2.here hx rfl (hb hby d123_24) rfl ?_
    show Steps p.tables e below (T2.setTop (mkF m 25 #[.val (.ref o0), .val (.int (2 : Int32)), .val (.ref b2)] [(.int (2 : Int32)), (.int (3 : Int32)), (.int (0 : Int32)), (.ref b2), (.int (0 : Int32)), (.ref o0)])) _
    refine st7 _ ?_
    show Steps p.tables e below (T7.setTop (mkF m 28 #[.val (.ref o0), .val (.int (2 : Int32)), .val (.ref b2)] [(.int (2 : Int32)), (.int (0 : Int32)), (.ref b2), (.int (0 : Int32)), (.ref o0)])) _
    refine st9 _ ?_
    show Steps p.tables e below (T9.setTop (mkF m 31 #[.val (.ref o0), .val (.int (2 : Int32)), .val (.ref b2)] [])) _
    refine XS.aloadN X9.here hx rfl (hb hby d123_31) rfl rfl ?_
    show Steps p.tables e below (T9.setTop (mkF m 32 #[.val (.ref o0), .val (.int (2 : Int32)), .val (.ref b2)] [(.ref b2)])) _
    jvm_step X9.here [X9.here.top, hx, (hb hby d123_32), X9.method', Bd.returns, Value.isRef, FieldType.isReference]
    first | (intro acts; rw [hr _ acts rfl rfl rfl]) | rw [hr _ _ rfl rfl rfl]
    exact Steps.refl _
  · show Q123 Z o0 ka x y h0 n0 _ T9.heap _
    rw [e9]
    exact ⟨b2, k2, rfl, N9, J9, sz_b2, V9⟩
theorem d4_0 : decode prog_18_method_4_code 0 = .ok (.iload_n 1, 1) := by decide +kernel
theorem d4_1 : decode prog_18_method_4_code 1 = .ok (.iconst 1, 1) := by decide +kernel
theorem d4_2 : decode prog_18_method_4_code 2 = .ok (.iadd, 1) := by decide +kernel
theorem d4_3 : decode prog_18_method_4_code 3 = .ok (.newarray .int, 2) := by decide +kernel
theorem d4_5 : decode prog_18_method_4_code 5 = .ok (.astore_n 2, 1) := by decide +kernel
theorem d4_6 : decode prog_18_method_4_code 6 = .ok (.iconst 0, 1) := by decide +kernel
theorem d4_7 : decode prog_18_method_4_code 7 = .ok (.istore_n 3, 1) := by decide +kernel
theorem d4_8 : decode prog_18_method_4_code 8 = .ok (.iload_n 3, 1) := by decide +kernel
theorem d4_9 : decode prog_18_method_4_code 9 = .ok (.aload_n 0, 1) := by decide +kernel
theorem d4_10 : decode prog_18_method_4_code 10 = .ok (.getfield 26, 3) := by decide +kernel
theorem d4_13 : decode prog_18_method_4_code 13 = .ok (.if_icmp .ge 23, 3) := by decide +kernel
theorem d4_16 : decode prog_18_method_4_code 16 = .ok (.aload_n 2, 1) := by decide +kernel
theorem d4_17 : decode prog_18_method_4_code 17 = .ok (.aload_n 0, 1) := by decide +kernel
theorem d4_18 : decode prog_18_method_4_code 18 = .ok (.getfield 9, 3) := by decide +kernel
theorem d4_21 : decode prog_18_method_4_code 21 = .ok (.iload_n 3, 1) := by decide +kernel
theorem d4_22 : decode prog_18_method_4_code 22 = .ok (.iaload, 1) := by decide +kernel
theorem d4_23 : decode prog_18_method_4_code 23 = .ok (.iconst 1, 1) := by decide +kernel
theorem d4_24 : decode prog_18_method_4_code 24 = .ok (.iadd, 1) := by decide +kernel
theorem d4_25 : decode prog_18_method_4_code 25 = .ok (.dup2, 1) := by decide +kernel
theorem d4_26 : decode prog_18_method_4_code 26 = .ok (.iaload, 1) := by decide +kernel
theorem d4_27 : decode prog_18_method_4_code 27 = .ok (.iconst 1, 1) := by decide +kernel
theorem d4_28 : decode prog_18_method_4_code 28 = .ok (.iadd, 1) := by decide +kernel
theorem d4_29 : decode prog_18_method_4_code 29 = .ok (.iastore, 1) := by decide +kernel
theorem d4_30 : decode prog_18_method_4_code 30 = .ok (.iinc 3 1, 3) := by decide +kernel
theorem d4_33 : decode prog_18_method_4_code 33 = .ok (.goto (-25), 3) := by decide +kernel
theorem d4_36 : decode prog_18_method_4_code 36 = .ok (.iconst 0, 1) := by decide +kernel
theorem d4_37 : decode prog_18_method_4_code 37 = .ok (.istore_n 3, 1) := by decide +kernel
theorem d4_38 : decode prog_18_method_4_code 38 = .ok (.iload_n 3, 1) := by decide +kernel
theorem d4_39 : decode prog_18_method_4_code 39 = .ok (.iload_n 1, 1) := by decide +kernel
theorem d4_40 : decode prog_18_method_4_code 40 = .ok (.if_icmp .ge 20, 3) := by decide +kernel
theorem d4_43 : decode prog_18_method_4_code 43 = .ok (.aload_n 2, 1) := by decide +kernel
theorem d4_44 : decode prog_18_method_4_code 44 = .ok (.iload_n 3, 1) := by decide +kernel
theorem d4_45 : decode prog_18_method_4_code 45 = .ok (.iconst 1, 1) := by decide +kernel
theorem d4_46 : decode prog_18_method_4_code 46 = .ok (.iadd, 1) := by decide +kernel
theorem d4_47 : decode prog_18_method_4_code 47 = .ok (.dup2, 1) := by decide +kernel
theorem d4_48 : decode prog_18_method_4_code 48 = .ok (.iaload, 1) := by decide +kernel
theorem d4_49 : decode prog_18_method_4_code 49 = .ok (.aload_n 2, 1) := by decide +kernel
theorem d4_50 : decode prog_18_method_4_code 50 = .ok (.iload_n 3, 1) := by decide +kernel
theorem d4_51 : decode prog_18_method_4_code 51 = .ok (.iaload, 1) := by decide +kernel
theorem d4_52 : decode prog_18_method_4_code 52 = .ok (.iadd, 1) := by decide +kernel
theorem d4_53 : decode prog_18_method_4_code 53 = .ok (.iastore, 1) := by decide +kernel
theorem d4_54 : decode prog_18_method_4_code 54 = .ok (.iinc 3 1, 3) := by decide +kernel
theorem d4_57 : decode prog_18_method_4_code 57 = .ok (.goto (-19), 3) := by decide +kernel
theorem d4_60 : decode prog_18_method_4_code 60 = .ok (.aload_n 0, 1) := by decide +kernel
theorem d4_61 : decode prog_18_method_4_code 61 = .ok (.getfield 26, 3) := by decide +kernel
theorem d4_64 : decode prog_18_method_4_code 64 = .ok (.newarray .int, 2) := by decide +kernel
theorem d4_66 : decode prog_18_method_4_code 66 = .ok (.astore_n 3, 1) := by decide +kernel
theorem d4_67 : decode prog_18_method_4_code 67 = .ok (.aload_n 2, 1) := by decide +kernel
theorem d4_68 : decode prog_18_method_4_code 68 = .ok (.iload_n 1, 1) := by decide +kernel
theorem d4_69 : decode prog_18_method_4_code 69 = .ok (.invokestatic 30, 3) := by decide +kernel
theorem d4_72 : decode prog_18_method_4_code 72 = .ok (.astore 4, 2) := by decide +kernel
theorem d4_74 : decode prog_18_method_4_code 74 = .ok (.iconst 0, 1) := by decide +kernel
theorem d4_75 : decode prog_18_method_4_code 75 = .ok (.istore 5, 2) := by decide +kernel
theorem d4_77 : decode prog_18_method_4_code 77 = .ok (.iload 5, 2) := by decide +kernel
theorem d4_79 : decode prog_18_method_4_code 79 = .ok (.aload_n 0, 1) := by decide +kernel
theorem d4_80 : decode prog_18_method_4_code 80 = .ok (.getfield 26, 3) := by decide +kernel
theorem d4_83 : decode prog_18_method_4_code 83 = .ok (.if_icmp .ge 28, 3) := by decide +kernel
theorem d4_86 : decode prog_18_method_4_code 86 = .ok (.aload_n 3, 1) := by decide +kernel
theorem d4_87 : decode prog_18_method_4_code 87 = .ok (.aload 4, 2) := by decide +kernel
theorem d4_89 : decode prog_18_method_4_code 89 = .ok (.aload_n 0, 1) := by decide +kernel
theorem d4_90 : decode prog_18_method_4_code 90 = .ok (.getfield 9, 3) := by decide +kernel
theorem d4_93 : decode prog_18_method_4_code 93 = .ok (.iload 5, 2) := by decide +kernel
theorem d4_95 : decode prog_18_method_4_code 95 = .ok (.iaload, 1) := by decide +kernel
theorem d4_96 : decode prog_18_method_4_code 96 = .ok (.dup2, 1) := by decide +kernel
theorem d4_97 : decode prog_18_method_4_code 97 = .ok (.iaload, 1) := by decide +kernel
theorem d4_98 : decode prog_18_method_4_code 98 = .ok (.dup_x2, 1) := by decide +kernel
theorem d4_99 : decode prog_18_method_4_code 99 = .ok (.iconst 1, 1) := by decide +kernel
theorem d4_100 : decode prog_18_method_4_code 100 = .ok (.iadd, 1) := by decide +kernel
theorem d4_101 : decode prog_18_method_4_code 101 = .ok (.iastore, 1) := by decide +kernel
theorem d4_102 : decode prog_18_method_4_code 102 = .ok (.iload 5, 2) := by decide +kernel
theorem d4_104 : decode prog_18_method_4_code 104 = .ok (.iastore, 1) := by decide +kernel
theorem d4_105 : decode prog_18_method_4_code 105 = .ok (.iinc 5 1, 3) := by decide +kernel
theorem d4_108 : decode prog_18_method_4_code 108 = .ok (.goto (-31), 3) := by decide +kernel
theorem d4_111 : decode prog_18_method_4_code 111 = .ok (.aload_n 0, 1) := by decide +kernel
theorem d4_112 : decode prog_18_method_4_code 112 = .ok (.aload_n 2, 1) := by decide +kernel
theorem d4_113 : decode prog_18_method_4_code 113 = .ok (.putfield 16, 3) := by decide +kernel
theorem d4_116 : decode prog_18_method_4_code 116 = .ok (.aload_n 0, 1) := by decide +kernel
theorem d4_117 : decode prog_18_method_4_code 117 = .ok (.aload_n 3, 1) := by decide +kernel
theorem d4_118 : decode prog_18_method_4_code 118 = .ok (.putfield 42, 3) := by decide +kernel
theorem d4_121 : decode prog_18_method_4_code 121 = .ok (.aload_n 0, 1) := by decide +kernel
theorem d4_122 : decode prog_18_method_4_code 122 = .ok (.aconst_null, 1) := by decide +kernel
theorem d4_123 : decode prog_18_method_4_code 123 = .ok (.putfield 9, 3) := by decide +kernel
theorem d4_126 : decode prog_18_method_4_code 126 = .ok (.return_, 1) := by decide +kernel
theorem pd_2 : parseMethodDescriptor "([II)[I" = some ⟨[(.array .int), .int], some (.array .int)⟩ := by decide +kernel
theorem ef_4 (m : MethodId) (o0 : Addr) : entryFrame m #[(.ref o0), (.int (2 : Int32))] 6 = mkF m 0 #[.val (.ref o0), .val (.int (2 : Int32)), .unset, .unset, .unset, .unset] [] := by first | (simp [entryFrame, mkF, argsToLocals, Value.category]; done) | rfl
def Q4 (Z : State) (o0 : Addr) (n : Nat) (f : Nat → Nat) (pa : Addr) (kp : ClassId) (ps : List Value) (h0 : Heap) (n0 : Nat) (v : Option Value) (h : Heap) (L : List Loc) : Prop := ∃ sa : Addr, ∃ ks : ClassId, v = none ∧ Fr n0 L ∧ Keep h0 h [o0] ∧ h0.size ≤ sa ∧ Fld Z h o0 "com/example/vestwright/vestwright/ParticipantRows" "starts" "[I" (.ref sa) ∧ Arv Z h sa ks .int (3 : Int32) (own_l3 ((Int32.ofNat (own_zc f n)) + (0 : Int32)) ((Int32.ofNat (own_oc f n)) + ((Int32.ofNat (own_zc f n)) + (0 : Int32)))) (.int (0 : Int32))
set_option maxRecDepth 65536 in
set_option maxHeartbeats 40000000 in
theorem rm4 (l : Launch) (Z : State) (a0 : Array Value) (hw : ∀ d ∈ tables_1, d.before a0 Z = true) (ws : List Jvm.Cond) (o0 : Addr) (n : Nat) (f : Nat → Nat) (pa : Addr) (kp : ClassId) (ps : List Value) (h0 : Heap) (n0 : Nat) (Z0 : n0 ≤ h0.size) (E_o0 : Exa Z h0 o0 "com/example/vestwright/vestwright/ParticipantRows") (F_size_o0 : Fld Z h0 o0 "com/example/vestwright/vestwright/ParticipantRows" "size" "I" (.int (Int32.ofNat n))) (F_participants_o0 : Fld Z h0 o0 "com/example/vestwright/vestwright/ParticipantRows" "participants" "[I" (.ref pa)) (F_starts_o0 : Fld Z h0 o0 "com/example/vestwright/vestwright/ParticipantRows" "starts" "[I" .null) (F_order_o0 : Fld Z h0 o0 "com/example/vestwright/vestwright/ParticipantRows" "order" "[I" .null) (V_pa : Arv Z h0 pa kp .int (1024 : Int32) ps (.int (0 : Int32))) (g_o0 : n0 ≤ o0) (hn : n ≤ 3) (hf : ∀ i, f i < 2) (hps : ∀ i, i < n → ps.getD i (.int (0 : Int32)) = .int (Int32.ofNat (f i))) :
    MetFree l (⟨"com/example/vestwright/vestwright/ParticipantRows", "group", "(I)V"⟩ : MethodName) (head1 (Jvm.Cond.code (⟨"com/example/vestwright/vestwright/ParticipantRows", "group", "(I)V"⟩ : MethodName) prog_18_method_4_code 6 none :: ws) ({ frames := 2, cells := 3, slots := 8, locals := 32 } : Room)) (fun a U => a = #[(.ref o0), (.int (2 : Int32))] ∧ Z.Warmed39 U.vm ∧ U.heap = h0) (fun _ _ _ _ _ => True) (fun _ U o U' => ∃ v L, o = .returned v ∧ Q4 Z o0 n f pa kp ps h0 n0 v U'.heap L ∧ FrameEnd U o U' L ({ frames := 2, cells := 3, slots := 8, locals := 32 } : Room).cells ({ frames := 2, cells := 3, slots := 8, locals := 32 } : Room).slots) := by
  refine MetFree.of_bodySF (plainFor_of_name pn_com_example_vestwright_vestwright_ParticipantRows) hisR ?_
  intro p e s m args below meth c s₁ Bd hml0 hP hK
  obtain ⟨rfl, hZ, hh⟩ := hP
  have hx := Bd.exec
  have hby := Bd.bytes
  have hml : c.maxLocals = 6 := hml0
  have hown : s.vm.findClass "com/example/vestwright/vestwright/ParticipantRows" = some m.cls := findClass_of_methodNamed Bd.named
  have hnm := (name_of_methodNamed Bd.named Bd.method).1
  have X0 : Stand p l e ({ frames := 2, cells := 3, slots := 8, locals := 32 } : Room) s m #[(.ref o0), (.int (2 : Int32))] below meth c s₁ [] 0 0 := Stand.of_body Bd
  have e0 : s₁.heap = h0 := by rw [← hh, Bd.state]; rfl
  have N0 := Fr.nil n0
  have pre0 : ∀ t, Steps p.tables e below (s₁.setTop (mkF m 0 #[.val (.ref o0), .val (.int (2 : Int32)), .unset, .unset, .unset, .unset] [])) t → Steps p.tables e below (s₁.setTop (entryFrame m #[(.ref o0), (.int (2 : Int32))] 6)) t := fun t k => castTop (ef_4 m o0) k
  obtain ⟨T1, h1, k1, X1, e1, E1, A1, st1⟩ := newP X0 hx hZ (hw _ (List.mem_of_getElem? (i := 9) rfl)) e0 (g := (mkF m 3 #[.val (.ref o0), .val (.int (2 : Int32)), .unset, .unset, .unset, .unset] [(.int (3 : Int32))])) rfl (hb hby d4_3) rfl (by decide) (cap := 3) (by decide) (by decide) (by decide) (by decide)
  obtain ⟨b1, g1⟩ : ∃ z, z = h0.size := ⟨_, rfl⟩
  rw [← g1] at A1 st1
  have g_b1 : n0 ≤ b1 := Nat.le_trans Z0 (Nat.le_of_eq g1.symm)
  have sz_b1 : h0.size ≤ b1 := Nat.le_trans (Keep.refl h0 [o0]).1 (Nat.le_of_eq g1.symm)
  have ne2 : o0 ≠ b1 := Nat.ne_of_lt (Nat.lt_of_lt_of_le E_o0.lt (Nat.le_of_eq g1.symm))
  have ne3 : pa ≠ b1 := Nat.ne_of_lt (Nat.lt_of_lt_of_le V_pa.lt (Nat.le_of_eq g1.symm))
  have V_b1 : Arv Z h1 b1 k1 .int (3 : Int32) [] (.int (0 : Int32)) := Arv.new A1 (by decide)
  have J1 : Keep h0 h1 [o0] := (Keep.refl h0 [o0]).ext E1
  have pre4 : ∀ t, Steps p.tables e below (T1.setTop (mkF m 8 #[.val (.ref o0), .val (.int (2 : Int32)), .val (.ref b1), .val (.int (0 : Int32)), .unset, .unset] [])) t → Steps p.tables e below (s₁.setTop (entryFrame m #[(.ref o0), (.int (2 : Int32))] 6)) t := by
    intro t kt
    refine pre0 _ ?_
    show Steps p.tables e below (s₁.setTop (mkF m 0 #[.val (.ref o0), .val (.int (2 : Int32)), .unset, .unset, .unset, .unset] [])) _
    refine XS.iloadN X0.here hx rfl (hb hby d4_0) rfl ?_
    show Steps p.tables e below (s₁.setTop (mkF m 1 #[.val (.ref o0), .val (.int (2 : Int32)), .unset, .unset, .unset, .unset] [(.int (2 : Int32))])) _
    refine XS.iconst X0.here hx rfl (hb hby d4_1) ?_
    show Steps p.tables e below (s₁.setTop (mkF m 2 #[.val (.ref o0), .val (.int (2 : Int32)), .unset, .unset, .unset, .unset] [(.int (1 : Int32)), (.int (2 : Int32))])) _
    refine XS.iadd X0.here hx rfl (hb hby d4_2) rfl ?_
    show Steps p.tables e below (s₁.setTop (mkF m 3 #[.val (.ref o0), .val (.int (2 : Int32)), .unset, .unset, .unset, .unset] [(.int (3 : Int32))])) _
    refine st1 _ ?_
    show Steps p.tables e below (T1.setTop (mkF m 5 #[.val (.ref o0), .val (.int (2 : Int32)), .unset, .unset, .unset, .unset] [(.ref b1)])) _
    refine XS.astoreN X1.here hx rfl (hb hby d4_5) rfl rfl (l' := #[.val (.ref o0), .val (.int (2 : Int32)), .val (.ref b1), .unset, .unset, .unset]) rfl ?_
    show Steps p.tables e below (T1.setTop (mkF m 6 #[.val (.ref o0), .val (.int (2 : Int32)), .val (.ref b1), .unset, .unset, .unset] [])) _
    refine XS.iconst X1.here hx rfl (hb hby d4_6) ?_
    show Steps p.tables e below (T1.setTop (mkF m 7 #[.val (.ref o0), .val (.int (2 : Int32)), .val (.ref b1), .unset, .unset, .unset] [(.int (0 : Int32))])) _
    refine XS.istoreN X1.here hx rfl (hb hby d4_7) rfl (l' := #[.val (.ref o0), .val (.int (2 : Int32)), .val (.ref b1), .val (.int (0 : Int32)), .unset, .unset]) rfl ?_
    exact kt
  have loop5 : ∀ (k i : Nat) (T : State) (h : Heap) (locs : List Loc), i + k = n → Stand p l e ({ frames := 2, cells := 3, slots := 8, locals := 32 } : Room) s m #[(.ref o0), (.int (2 : Int32))] below meth c T locs 1 3 → T.heap = h → Fr n0 locs → Keep h1 h [b1] → Arv Z h b1 k1 .int (3 : Int32) (own_c3 (own_zc f i) (own_oc f i)) (.int (0 : Int32)) → ∃ (T' : State) (h' : Heap) (locs' : List Loc), Stand p l e ({ frames := 2, cells := 3, slots := 8, locals := 32 } : Room) s m #[(.ref o0), (.int (2 : Int32))] below meth c T' locs' 1 3 ∧ T'.heap = h' ∧ Fr n0 locs' ∧ Keep h1 h' [b1] ∧ Arv Z h' b1 k1 .int (3 : Int32) (own_c3 (own_zc f n) (own_oc f n)) (.int (0 : Int32)) ∧ ∀ t, Steps p.tables e below (T'.setTop (mkF m 36 #[.val (.ref o0), .val (.int (2 : Int32)), .val (.ref b1), .val (.int (Int32.ofNat n)), .unset, .unset] [])) t → Steps p.tables e below (T.setTop (mkF m 8 #[.val (.ref o0), .val (.int (2 : Int32)), .val (.ref b1), .val (.int (Int32.ofNat i)), .unset, .unset] [])) t := by
    intro k
    induction k with
    | zero =>
      intro i T6 h6 L6 hi X6 e6 N6 K6 v0_6
      have hi' : n = i := by omega
      subst hi'
      have c7 : Fld Z h6 o0 "com/example/vestwright/vestwright/ParticipantRows" "size" "I" (.int (Int32.ofNat n)) := ((F_size_o0.ext E1).keep K6 (ninS ne2 nin0))
      obtain ⟨T8, X8, e8, st8⟩ := getF X6 hx hZ hown (host := "") (Or.inl (hw _ (List.mem_of_getElem? (i := 19) rfl))) Via.refl e6 c7 (g := (mkF m 10 #[.val (.ref o0), .val (.int (2 : Int32)), .val (.ref b1), .val (.int (Int32.ofNat n)), .unset, .unset] [(.ref o0), (.int (Int32.ofNat n))])) rfl rfl (hb hby d4_10)
      have hc13_9 : ¬ ((Int32.ofNat n) < (Int32.ofNat n)) := Int32.lt_irrefl
      refine ⟨T8, h6, _, X8, e8, N6, K6, v0_6, fun t kt => ?_⟩
      show Steps p.tables e below (T6.setTop (mkF m 8 #[.val (.ref o0), .val (.int (2 : Int32)), .val (.ref b1), .val (.int (Int32.ofNat n)), .unset, .unset] [])) _
      refine XS.iloadN X6.here hx rfl (hb hby d4_8) rfl ?_
      show Steps p.tables e below (T6.setTop (mkF m 9 #[.val (.ref o0), .val (.int (2 : Int32)), .val (.ref b1), .val (.int (Int32.ofNat n)), .unset, .unset] [(.int (Int32.ofNat n))])) _
      refine XS.aloadN X6.here hx rfl (hb hby d4_9) rfl rfl ?_
      show Steps p.tables e below (T6.setTop (mkF m 10 #[.val (.ref o0), .val (.int (2 : Int32)), .val (.ref b1), .val (.int (Int32.ofNat n)), .unset, .unset] [(.ref o0), (.int (Int32.ofNat n))])) _
      refine st8 _ ?_
      show Steps p.tables e below (T8.setTop (mkF m 13 #[.val (.ref o0), .val (.int (2 : Int32)), .val (.ref b1), .val (.int (Int32.ofNat n)), .unset, .unset] [(.int (Int32.ofNat n)), (.int (Int32.ofNat n))])) _
      refine XS.icmpYes X8.here hx rfl (pc0 := 13) (pc' := 36) rfl (hb hby d4_13) rfl (flt hc13_9).2.1 (by decide) (by decide) ?_
      exact kt
    | succ k ih =>
      intro i T10 h10 L10 hi X10 e10 N10 K10 v0_10
      have hi' : i < n := by omega
      have c11 : Fld Z h10 o0 "com/example/vestwright/vestwright/ParticipantRows" "size" "I" (.int (Int32.ofNat n)) := ((F_size_o0.ext E1).keep K10 (ninS ne2 nin0))
      obtain ⟨T12, X12, e12, st12⟩ := getF X10 hx hZ hown (host := "") (Or.inl (hw _ (List.mem_of_getElem? (i := 19) rfl))) Via.refl e10 c11 (g := (mkF m 10 #[.val (.ref o0), .val (.int (2 : Int32)), .val (.ref b1), .val (.int (Int32.ofNat i)), .unset, .unset] [(.ref o0), (.int (Int32.ofNat i))])) rfl rfl (hb hby d4_10)
      have hc13_13 : (Int32.ofNat i) < (Int32.ofNat n) := own_ltn hi' hn
      have c14 : Fld Z h10 o0 "com/example/vestwright/vestwright/ParticipantRows" "participants" "[I" (.ref pa) := ((F_participants_o0.ext E1).keep K10 (ninS ne2 nin0))
      obtain ⟨T15, X15, e15, st15⟩ := getF X12 hx hZ hown (host := "") (Or.inl (hw _ (List.mem_of_getElem? (i := 10) rfl))) Via.refl e12 c14 (g := (mkF m 18 #[.val (.ref o0), .val (.int (2 : Int32)), .val (.ref b1), .val (.int (Int32.ofNat i)), .unset, .unset] [(.ref o0), (.ref b1)])) rfl rfl (hb hby d4_18)
      have c16 : Arv Z h10 pa kp .int (1024 : Int32) ps (.int (0 : Int32)) := ((V_pa.ext E1).keep K10 (ninS ne3 nin0))
      obtain ⟨cl17, Ar17, -, Sz17, Nn17, Hs17, -⟩ := id c16
      have hin17 : ¬ ((Int32.ofNat i) < 0 ∨ cl17.slots.size ≤ ((Int32.ofNat i)).toNatClampNeg) := inb_of Sz17 (own_lt1024 hi' hn)
      have hat17 : cl17.slots[((Int32.ofNat i)).toNatClampNeg]? = some (.int (Int32.ofNat (f i))) := Hs17.at hin17 (by rw [own_ic (by omega)]; exact hps i hi')
      obtain ⟨cl18, Ar18, -, Sz18, Nn18, Hs18, -⟩ := id v0_10
      have hin18 : ¬ (((Int32.ofNat (f i)) + (1 : Int32)) < 0 ∨ cl18.slots.size ≤ (((Int32.ofNat (f i)) + (1 : Int32))).toNatClampNeg) := inb_of Sz18 (own_ix1in (hf i))
      have hat18 : cl18.slots[(((Int32.ofNat (f i)) + (1 : Int32))).toNatClampNeg]? = some (.int (Int32.ofNat (own_pk (f i) (own_zc f i) (own_oc f i)))) := Hs18.at hin18 (own_c3at (hf i) _)
      obtain ⟨cl19, Ar19, qk19, Sz19, Nn19, Hs19, Gs19⟩ := id v0_10
      have hin19 : ¬ (((Int32.ofNat (f i)) + (1 : Int32)) < 0 ∨ cl19.slots.size ≤ (((Int32.ofNat (f i)) + (1 : Int32))).toNatClampNeg) := inb_of Sz19 (own_ix1in (hf i))
      obtain ⟨T20, h20, X20, e20, W20, st20⟩ := stI X15 hx hZ e15 Ar19 (j := ((Int32.ofNat (f i)) + (1 : Int32))) hin19 (g := (mkF m 29 #[.val (.ref o0), .val (.int (2 : Int32)), .val (.ref b1), .val (.int (Int32.ofNat i)), .unset, .unset] [(.int ((Int32.ofNat (own_pk (f i) (own_zc f i) (own_oc f i))) + (1 : Int32))), (.int ((Int32.ofNat (f i)) + (1 : Int32))), (.ref b1)])) rfl rfl (hb hby d4_29)
      have V20 : Arv Z h20 b1 k1 .int (3 : Int32) (own_c3 (own_zc f (i + 1)) (own_oc f (i + 1))) (.int (0 : Int32)) := by have q := Arv.set Ar19 qk19 Sz19 Nn19 Hs19 Gs19 rfl W20 (f i + 1) (own_ix1 (hf i)) (by show f i + 1 < 3; have := hf i; omega); rw [own_c3set (hf i)] at q; exact q
      have J20 : Keep h0 h20 [o0] := (J1.trans K10 (allS (Or.inr sz_b1) all0)).wr W20 (Or.inr sz_b1)
      have N20 := Fr.snoc X20 N10 g_b1
      obtain ⟨T21, h21, L21, X21, e21, N21, K21, w0_21, st21⟩ := ih (i + 1) T20 h20 _ (by omega) X20 e20 N20 (K10.wr W20 (Or.inl (List.mem_of_getElem? (i := 0) rfl))) V20
      refine ⟨T21, h21, L21, X21, e21, N21, K21, w0_21, fun t kt => ?_⟩
      show Steps p.tables e below (T10.setTop (mkF m 8 #[.val (.ref o0), .val (.int (2 : Int32)), .val (.ref b1), .val (.int (Int32.ofNat i)), .unset, .unset] [])) _
      refine XS.iloadN X10.here hx rfl (hb hby d4_8) rfl ?_
      show Steps p.tables e below (T10.setTop (mkF m 9 #[.val (.ref o0), .val (.int (2 : Int32)), .val (.ref b1), .val (.int (Int32.ofNat i)), .unset, .unset] [(.int (Int32.ofNat i))])) _
      refine XS.aloadN X10.here hx rfl (hb hby d4_9) rfl rfl ?_
      show Steps p.tables e below (T10.setTop (mkF m 10 #[.val (.ref o0), .val (.int (2 : Int32)), .val (.ref b1), .val (.int (Int32.ofNat i)), .unset, .unset] [(.ref o0), (.int (Int32.ofNat i))])) _
      refine st12 _ ?_
      show Steps p.tables e below (T12.setTop (mkF m 13 #[.val (.ref o0), .val (.int (2 : Int32)), .val (.ref b1), .val (.int (Int32.ofNat i)), .unset, .unset] [(.int (Int32.ofNat n)), (.int (Int32.ofNat i))])) _
      refine XS.icmpNo X12.here hx rfl (hb hby d4_13) rfl (tlt hc13_13).2.1 ?_
      show Steps p.tables e below (T12.setTop (mkF m 16 #[.val (.ref o0), .val (.int (2 : Int32)), .val (.ref b1), .val (.int (Int32.ofNat i)), .unset, .unset] [])) _
      refine XS.aloadN X12.here hx rfl (hb hby d4_16) rfl rfl ?_
      show Steps p.tables e below (T12.setTop (mkF m 17 #[.val (.ref o0), .val (.int (2 : Int32)), .val (.ref b1), .val (.int (Int32.ofNat i)), .unset, .unset] [(.ref b1)])) _
      refine XS.aloadN X12.here hx rfl (hb hby d4_17) rfl rfl ?_
      show Steps p.tables e below (T12.setTop (mkF m 18 #[.val (.ref o0), .val (.int (2 : Int32)), .val (.ref b1), .val (.int (Int32.ofNat i)), .unset, .unset] [(.ref o0), (.ref b1)])) _
      refine st15 _ ?_
      show Steps p.tables e below (T15.setTop (mkF m 21 #[.val (.ref o0), .val (.int (2 : Int32)), .val (.ref b1), .val (.int (Int32.ofNat i)), .unset, .unset] [(.ref pa), (.ref b1)])) _
      refine XS.iloadN X15.here hx rfl (hb hby d4_21) rfl ?_
      show Steps p.tables e below (T15.setTop (mkF m 22 #[.val (.ref o0), .val (.int (2 : Int32)), .val (.ref b1), .val (.int (Int32.ofNat i)), .unset, .unset] [(.int (Int32.ofNat i)), (.ref pa), (.ref b1)])) _
      refine X15.iaload hx (j := (Int32.ofNat i)) (v := (.int (Int32.ofNat (f i)))) (by rw [e15]; exact Ar17.1) (State.isArrayOf_alike hZ.alike Ar17.2.1) Ar17.2.2 hin17 hat17 (g := (mkF m 22 #[.val (.ref o0), .val (.int (2 : Int32)), .val (.ref b1), .val (.int (Int32.ofNat i)), .unset, .unset] [(.int (Int32.ofNat i)), (.ref pa), (.ref b1)])) rfl rfl (hb hby d4_22) _ ?_
      show Steps p.tables e below (T15.setTop (mkF m 23 #[.val (.ref o0), .val (.int (2 : Int32)), .val (.ref b1), .val (.int (Int32.ofNat i)), .unset, .unset] [(.int (Int32.ofNat (f i))), (.ref b1)])) _
      refine XS.iconst X15.here hx rfl (hb hby d4_23) ?_
      show Steps p.tables e below (T15.setTop (mkF m 24 #[.val (.ref o0), .val (.int (2 : Int32)), .val (.ref b1), .val (.int (Int32.ofNat i)), .unset, .unset] [(.int (1 : Int32)), (.int (Int32.ofNat (f i))), (.ref b1)])) _
      refine XS.iadd X15.here hx rfl (hb hby d4_24) rfl ?_
      show Steps p.tables e below (T15.setTop (mkF m 25 #[.val (.ref o0), .val (.int (2 : Int32)), .val (.ref b1), .val (.int (Int32.ofNat i)), .unset, .unset] [(.int ((Int32.ofNat (f i)) + (1 : Int32))), (.ref b1)])) _
      jvm_step X15.here [X15.here.top, hx, (hb hby d4_25), Value.category]
      show Steps p.tables e below (T15.setTop (mkF m 26 #[.val (.ref o0), .val (.int (2 : Int32)), .val (.ref b1), .val (.int (Int32.ofNat i)), .unset, .unset] [(.int ((Int32.ofNat (f i)) + (1 : Int32))), (.ref b1), (.int ((Int32.ofNat (f i)) + (1 : Int32))), (.ref b1)])) _
      refine X15.iaload hx (j := ((Int32.ofNat (f i)) + (1 : Int32))) (v := (.int (Int32.ofNat (own_pk (f i) (own_zc f i) (own_oc f i))))) (by rw [e15]; exact Ar18.1) (State.isArrayOf_alike hZ.alike Ar18.2.1) Ar18.2.2 hin18 hat18 (g := (mkF m 26 #[.val (.ref o0), .val (.int (2 : Int32)), .val (.ref b1), .val (.int (Int32.ofNat i)), .unset, .unset] [(.int ((Int32.ofNat (f i)) + (1 : Int32))), (.ref b1), (.int ((Int32.ofNat (f i)) + (1 : Int32))), (.ref b1)])) rfl rfl (hb hby d4_26) _ ?_
      show Steps p.tables e below (T15.setTop (mkF m 27 #[.val (.ref o0), .val (.int (2 : Int32)), .val (.ref b1), .val (.int (Int32.ofNat i)), .unset, .unset] [(.int (Int32.ofNat (own_pk (f i) (own_zc f i) (own_oc f i)))), (.int ((Int32.ofNat (f i)) + (1 : Int32))), (.ref b1)])) _
      refine XS.iconst X15.here hx rfl (hb hby d4_27) ?_
      show Steps p.tables e below (T15.setTop (mkF m 28 #[.val (.ref o0), .val (.int (2 : Int32)), .val (.ref b1), .val (.int (Int32.ofNat i)), .unset, .unset] [(.int (1 : Int32)), (.int (Int32.ofNat (own_pk (f i) (own_zc f i) (own_oc f i)))), (.int ((Int32.ofNat (f i)) + (1 : Int32))), (.ref b1)])) _
      refine XS.iadd X15.here hx rfl (hb hby d4_28) rfl ?_
      show Steps p.tables e below (T15.setTop (mkF m 29 #[.val (.ref o0), .val (.int (2 : Int32)), .val (.ref b1), .val (.int (Int32.ofNat i)), .unset, .unset] [(.int ((Int32.ofNat (own_pk (f i) (own_zc f i) (own_oc f i))) + (1 : Int32))), (.int ((Int32.ofNat (f i)) + (1 : Int32))), (.ref b1)])) _
      refine st20 _ ?_
      show Steps p.tables e below (T20.setTop (mkF m 30 #[.val (.ref o0), .val (.int (2 : Int32)), .val (.ref b1), .val (.int (Int32.ofNat i)), .unset, .unset] [])) _
      refine XS.iinc X20.here hx rfl (hb hby d4_30) rfl (l' := #[.val (.ref o0), .val (.int (2 : Int32)), .val (.ref b1), .val (.int ((Int32.ofNat i) + (1 : Int32))), .unset, .unset]) rfl ?_
      show Steps p.tables e below (T20.setTop (mkF m 33 #[.val (.ref o0), .val (.int (2 : Int32)), .val (.ref b1), .val (.int ((Int32.ofNat i) + (1 : Int32))), .unset, .unset] [])) _
      refine XS.goto X20.here hx rfl (pc0 := 33) (pc' := 8) rfl (hb hby d4_33) (by decide) (by decide) ?_
      show Steps p.tables e below (T20.setTop (mkF m 8 #[.val (.ref o0), .val (.int (2 : Int32)), .val (.ref b1), .val (.int ((Int32.ofNat i) + (1 : Int32))), .unset, .unset] [])) _
      rw [own_one]
      exact st21 t kt
  obtain ⟨T5, h5, L5, X5, e5, N5, K5, u0_5, st5⟩ := loop5 n 0 T1 h1 _ (by omega) X1 e1 N0 (Keep.refl _ _) (V_b1.pad own_c30)
  have J5 : Keep h0 h5 [o0] := J1.trans K5 (allS (Or.inr sz_b1) all0)
  obtain ⟨cl22, Ar22, -, Sz22, Nn22, Hs22, -⟩ := id u0_5
  have hin22 : ¬ ((1 : Int32) < 0 ∨ cl22.slots.size ≤ ((1 : Int32)).toNatClampNeg) := inb_of Sz22 (by decide)
  have hat22 : cl22.slots[((1 : Int32)).toNatClampNeg]? = some (.int (Int32.ofNat (own_zc f n))) := Hs22.at hin22 rfl
  obtain ⟨cl23, Ar23, -, Sz23, Nn23, Hs23, -⟩ := id u0_5
  have hin23 : ¬ ((0 : Int32) < 0 ∨ cl23.slots.size ≤ ((0 : Int32)).toNatClampNeg) := inb_of Sz23 (by decide)
  have hat23 : cl23.slots[((0 : Int32)).toNatClampNeg]? = some (.int (0 : Int32)) := Hs23.at hin23 rfl
  obtain ⟨cl24, Ar24, qk24, Sz24, Nn24, Hs24, Gs24⟩ := id u0_5
  have hin24 : ¬ ((1 : Int32) < 0 ∨ cl24.slots.size ≤ ((1 : Int32)).toNatClampNeg) := inb_of Sz24 (by decide)
  obtain ⟨T25, h25, X25, e25, W25, st25⟩ := stI X5 hx hZ e5 Ar24 (j := (1 : Int32)) hin24 (g := (mkF m 53 #[.val (.ref o0), .val (.int (2 : Int32)), .val (.ref b1), .val (.int (0 : Int32)), .unset, .unset] [(.int ((Int32.ofNat (own_zc f n)) + (0 : Int32))), (.int (1 : Int32)), (.ref b1)])) rfl rfl (hb hby d4_53)
  have V25 : Arv Z h25 b1 k1 .int (3 : Int32) (own_l3 ((Int32.ofNat (own_zc f n)) + (0 : Int32)) (Int32.ofNat (own_oc f n))) (.int (0 : Int32)) := Arv.set Ar24 qk24 Sz24 Nn24 Hs24 Gs24 rfl W25 1 rfl (Nat.le_of_ble_eq_true rfl)
  have J25 : Keep h0 h25 [o0] := J5.wr W25 (Or.inr sz_b1)
  have N25 := Fr.snoc X25 N5 g_b1
  obtain ⟨cl26, Ar26, -, Sz26, Nn26, Hs26, -⟩ := id V25
  have hin26 : ¬ ((2 : Int32) < 0 ∨ cl26.slots.size ≤ ((2 : Int32)).toNatClampNeg) := inb_of Sz26 (by decide)
  have hat26 : cl26.slots[((2 : Int32)).toNatClampNeg]? = some (.int (Int32.ofNat (own_oc f n))) := Hs26.at hin26 rfl
  obtain ⟨cl27, Ar27, -, Sz27, Nn27, Hs27, -⟩ := id V25
  have hin27 : ¬ ((1 : Int32) < 0 ∨ cl27.slots.size ≤ ((1 : Int32)).toNatClampNeg) := inb_of Sz27 (by decide)
  have hat27 : cl27.slots[((1 : Int32)).toNatClampNeg]? = some (.int ((Int32.ofNat (own_zc f n)) + (0 : Int32))) := Hs27.at hin27 rfl
  obtain ⟨cl28, Ar28, qk28, Sz28, Nn28, Hs28, Gs28⟩ := id V25
  have hin28 : ¬ ((2 : Int32) < 0 ∨ cl28.slots.size ≤ ((2 : Int32)).toNatClampNeg) := inb_of Sz28 (by decide)
  obtain ⟨T29, h29, X29, e29, W29, st29⟩ := stI X25 hx hZ e25 Ar28 (j := (2 : Int32)) hin28 (g := (mkF m 53 #[.val (.ref o0), .val (.int (2 : Int32)), .val (.ref b1), .val (.int (1 : Int32)), .unset, .unset] [(.int ((Int32.ofNat (own_oc f n)) + ((Int32.ofNat (own_zc f n)) + (0 : Int32)))), (.int (2 : Int32)), (.ref b1)])) rfl rfl (hb hby d4_53)
  have V29 : Arv Z h29 b1 k1 .int (3 : Int32) (own_l3 ((Int32.ofNat (own_zc f n)) + (0 : Int32)) ((Int32.ofNat (own_oc f n)) + ((Int32.ofNat (own_zc f n)) + (0 : Int32)))) (.int (0 : Int32)) := Arv.set Ar28 qk28 Sz28 Nn28 Hs28 Gs28 rfl W29 2 rfl (Nat.le_of_ble_eq_true rfl)
  have J29 : Keep h0 h29 [o0] := J25.wr W29 (Or.inr sz_b1)
  have N29 := Fr.snoc X29 N25 g_b1
  have c30 : Fld Z h29 o0 "com/example/vestwright/vestwright/ParticipantRows" "size" "I" (.int (Int32.ofNat n)) := ((((F_size_o0.ext E1).keep K5 (ninS ne2 nin0)).other W25 (Or.inl ne2)).other W29 (Or.inl ne2))
  obtain ⟨T31, X31, e31, st31⟩ := getF X29 hx hZ hown (host := "") (Or.inl (hw _ (List.mem_of_getElem? (i := 19) rfl))) Via.refl e29 c30 (g := (mkF m 61 #[.val (.ref o0), .val (.int (2 : Int32)), .val (.ref b1), .val (.int (2 : Int32)), .unset, .unset] [(.ref o0)])) rfl rfl (hb hby d4_61)
  have z32 : n0 ≤ h29.size := (Nat.le_trans (Nat.le_trans (Nat.le_trans (Nat.le_trans Z0 E1.1) K5.1) (Keep.of_wr W25).1) (Keep.of_wr W29).1)
  have c33 : Exa Z h29 o0 "com/example/vestwright/vestwright/ParticipantRows" := ((((E_o0.ext E1).keep K5).wr W25).wr W29)
  have c34 : Arv Z h29 pa kp .int (1024 : Int32) ps (.int (0 : Int32)) := ((((V_pa.ext E1).keep K5 (ninS ne3 nin0)).other W25 ne3).other W29 ne3)
  obtain ⟨T35, h35, k35, X35, e35, E35, A35, st35⟩ := newP X31 hx hZ (hw _ (List.mem_of_getElem? (i := 9) rfl)) e31 (g := (mkF m 64 #[.val (.ref o0), .val (.int (2 : Int32)), .val (.ref b1), .val (.int (2 : Int32)), .unset, .unset] [(.int (Int32.ofNat n))])) rfl (hb hby d4_64) rfl (own_in (by omega)) (cap := 3) (own_fin0 n hn) (by decide) (by decide) (by decide)
  obtain ⟨b35, g35⟩ : ∃ z, z = h29.size := ⟨_, rfl⟩
  rw [← g35] at A35 st35
  have g_b35 : n0 ≤ b35 := Nat.le_trans z32 (Nat.le_of_eq g35.symm)
  have sz_b35 : h0.size ≤ b35 := Nat.le_trans J29.1 (Nat.le_of_eq g35.symm)
  have ne36 : o0 ≠ b35 := Nat.ne_of_lt (Nat.lt_of_lt_of_le c33.lt (Nat.le_of_eq g35.symm))
  have ne37 : pa ≠ b35 := Nat.ne_of_lt (Nat.lt_of_lt_of_le c34.lt (Nat.le_of_eq g35.symm))
  have ne38 : b1 ≠ b35 := Nat.ne_of_lt (Nat.lt_of_lt_of_le V29.lt (Nat.le_of_eq g35.symm))
  have V_b35 : Arv Z h35 b35 k35 .int (Int32.ofNat n) [] (.int (0 : Int32)) := Arv.new A35 (own_in (by omega))
  have J35 : Keep h0 h35 [o0] := J29.ext E35
  have c39 : Arv Z h35 b1 k1 .int (3 : Int32) (own_l3 ((Int32.ofNat (own_zc f n)) + (0 : Int32)) ((Int32.ofNat (own_oc f n)) + ((Int32.ofNat (own_zc f n)) + (0 : Int32)))) (.int (0 : Int32)) := (V29.ext E35)
  have c40 : Exa Z h35 o0 "com/example/vestwright/vestwright/ParticipantRows" := (c33.ext E35)
  have c41 : Arv Z h35 pa kp .int (1024 : Int32) ps (.int (0 : Int32)) := (c34.ext E35)
  have z42 : n0 ≤ h35.size := (Nat.le_trans z32 E35.1)
  -- pc 69: Arrays.copyOf by rm123
  obtain ⟨_, _, ⟨T43, L43, k43, n43⟩, -, X43, ⟨Lc43, hQ43, l43, y43, z43'⟩, st43⟩ := Jvm.LawKit.callS X35 hx (y := (⟨"java/util/Arrays", "copyOf", "([II)[I"⟩ : MethodName)) hown (mvT hZ (hw _ (List.mem_of_getElem? (i := 21) rfl))) (mvT hZ (hw _ (List.mem_of_getElem? (i := 22) rfl))) (mvT hZ (hw _ (List.mem_of_getElem? (i := 23) rfl))) (mvT hZ (hw _ (List.mem_of_getElem? (i := 24) rfl))) (by decide) (backOf (W := 0) (rm123 l Z a0 hw [] b1 k1 ((Int32.ofNat (own_zc f n)) + (0 : Int32)) ((Int32.ofNat (own_oc f n)) + ((Int32.ofNat (own_zc f n)) + (0 : Int32))) h35 n0 z42 c39) hZ (hw _ (List.mem_of_getElem? (i := 24) rfl)) (hw _ (List.mem_of_getElem? (i := 23) rfl)) (by decide) (by decide)) (g := (mkF m 69 #[.val (.ref o0), .val (.int (2 : Int32)), .val (.ref b1), .val (.ref b35), .unset, .unset] [(.int (2 : Int32)), (.ref b1)])) rfl (by rw [hml]; rfl) (argsL := [(.ref b1), (.int (2 : Int32))]) (rest := []) (lenOf pd_2 rfl) rfl (by show 2 * 0 + _ ≤ _; exact Nat.le_of_eq rfl) (hb hby d4_69) (fun _ _ => ⟨rfl, e35, (by decide : 2 + 1 ≤ _), (by decide : 6 + 2 ≤ _)⟩)
  dsimp only [Pt.U, Pt.locs, Pt.cells, Pt.slots] at X43 l43 y43 z43' st43 hQ43
  subst l43 y43 z43'
  obtain ⟨b_43, kb_43, rfl, N43q, K43, r0_43, r1_43⟩ := hQ43
  have N43 := Fr.app N29 N43q
  have J43 : Keep h0 T43.heap [o0] := J35.trans K43 all0
  have g_b_43 : n0 ≤ b_43 := Nat.le_trans z42 r0_43
  have sz_b_43 : h0.size ≤ b_43 := Nat.le_trans J35.1 r0_43
  have ne44 : o0 ≠ b_43 := Nat.ne_of_lt (Nat.lt_of_lt_of_le c40.lt r0_43)
  have ne45 : pa ≠ b_43 := Nat.ne_of_lt (Nat.lt_of_lt_of_le c41.lt r0_43)
  have ne46 : b1 ≠ b_43 := Nat.ne_of_lt (Nat.lt_of_lt_of_le c39.lt r0_43)
  have ne47 : b35 ≠ b_43 := Nat.ne_of_lt (Nat.lt_of_lt_of_le V_b35.lt r0_43)
  have pre48 : ∀ t, Steps p.tables e below (T43.setTop (mkF m 77 #[.val (.ref o0), .val (.int (2 : Int32)), .val (.ref b1), .val (.ref b35), .val (.ref b_43), .val (.int (0 : Int32))] [])) t → Steps p.tables e below (s₁.setTop (entryFrame m #[(.ref o0), (.int (2 : Int32))] 6)) t := by
    intro t kt
    refine pre4 _ ?_
    show Steps p.tables e below (T1.setTop (mkF m 8 #[.val (.ref o0), .val (.int (2 : Int32)), .val (.ref b1), .val (.int (0 : Int32)), .unset, .unset] [])) _
    refine st5 _ ?_
    show Steps p.tables e below (T5.setTop (mkF m 36 #[.val (.ref o0), .val (.int (2 : Int32)), .val (.ref b1), .val (.int (Int32.ofNat n)), .unset, .unset] [])) _
    refine XS.iconst X5.here hx rfl (hb hby d4_36) ?_
    show Steps p.tables e below (T5.setTop (mkF m 37 #[.val (.ref o0), .val (.int (2 : Int32)), .val (.ref b1), .val (.int (Int32.ofNat n)), .unset, .unset] [(.int (0 : Int32))])) _
    refine XS.istoreN X5.here hx rfl (hb hby d4_37) rfl (l' := #[.val (.ref o0), .val (.int (2 : Int32)), .val (.ref b1), .val (.int (0 : Int32)), .unset, .unset]) rfl ?_
    show Steps p.tables e below (T5.setTop (mkF m 38 #[.val (.ref o0), .val (.int (2 : Int32)), .val (.ref b1), .val (.int (0 : Int32)), .unset, .unset] [])) _
    refine XS.iloadN X5.here hx rfl (hb hby d4_38) rfl ?_
    show Steps p.tables e below (T5.setTop (mkF m 39 #[.val (.ref o0), .val (.int (2 : Int32)), .val (.ref b1), .val (.int (0 : Int32)), .unset, .unset] [(.int (0 : Int32))])) _
    refine XS.iloadN X5.here hx rfl (hb hby d4_39) rfl ?_
    show Steps p.tables e below (T5.setTop (mkF m 40 #[.val (.ref o0), .val (.int (2 : Int32)), .val (.ref b1), .val (.int (0 : Int32)), .unset, .unset] [(.int (2 : Int32)), (.int (0 : Int32))])) _
    refine XS.icmpNo X5.here hx rfl (hb hby d4_40) rfl (tlt (by decide)).2.1 ?_
    show Steps p.tables e below (T5.setTop (mkF m 43 #[.val (.ref o0), .val (.int (2 : Int32)), .val (.ref b1), .val (.int (0 : Int32)), .unset, .unset] [])) _
    refine XS.aloadN X5.here hx rfl (hb hby d4_43) rfl rfl ?_
    show Steps p.tables e below (T5.setTop (mkF m 44 #[.val (.ref o0), .val (.int (2 : Int32)), .val (.ref b1), .val (.int (0 : Int32)), .unset, .unset] [(.ref b1)])) _
    refine XS.iloadN X5.here hx rfl (hb hby d4_44) rfl ?_
    show Steps p.tables e below (T5.setTop (mkF m 45 #[.val (.ref o0), .val (.int (2 : Int32)), .val (.ref b1), .val (.int (0 : Int32)), .unset, .unset] [(.int (0 : Int32)), (.ref b1)])) _
    refine XS.iconst X5.here hx rfl (hb hby d4_45) ?_
    show Steps p.tables e below (T5.setTop (mkF m 46 #[.val (.ref o0), .val (.int (2 : Int32)), .val (.ref b1), .val (.int (0 : Int32)), .unset, .unset] [(.int (1 : Int32)), (.int (0 : Int32)), (.ref b1)])) _
    refine XS.iadd X5.here hx rfl (hb hby d4_46) rfl ?_
    show Steps p.tables e below (T5.setTop (mkF m 47 #[.val (.ref o0), .val (.int (2 : Int32)), .val (.ref b1), .val (.int (0 : Int32)), .unset, .unset] [(.int (1 : Int32)), (.ref b1)])) _
    jvm_step X5.here [X5.here.top, hx, (hb hby d4_47), Value.category]
    show Steps p.tables e below (T5.setTop (mkF m 48 #[.val (.ref o0), .val (.int (2 : Int32)), .val (.ref b1), .val (.int (0 : Int32)), .unset, .unset] [(.int (1 : Int32)), (.ref b1), (.int (1 : Int32)), (.ref b1)])) _
    refine X5.iaload hx (j := (1 : Int32)) (v := (.int (Int32.ofNat (own_zc f n)))) (by rw [e5]; exact Ar22.1) (State.isArrayOf_alike hZ.alike Ar22.2.1) Ar22.2.2 hin22 hat22 (g := (mkF m 48 #[.val (.ref o0), .val (.int (2 : Int32)), .val (.ref b1), .val (.int (0 : Int32)), .unset, .unset] [(.int (1 : Int32)), (.ref b1), (.int (1 : Int32)), (.ref b1)])) rfl rfl (hb hby d4_48) _ ?_
    show Steps p.tables e below (T5.setTop (mkF m 49 #[.val (.ref o0), .val (.int (2 : Int32)), .val (.ref b1), .val (.int (0 : Int32)), .unset, .unset] [(.int (Int32.ofNat (own_zc f n))), (.int (1 : Int32)), (.ref b1)])) _
    refine XS.aloadN X5.here hx rfl (hb hby d4_49) rfl rfl ?_
    show Steps p.tables e below (T5.setTop (mkF m 50 #[.val (.ref o0), .val (.int (2 : Int32)), .val (.ref b1), .val (.int (0 : Int32)), .unset, .unset] [(.ref b1), (.int (Int32.ofNat (own_zc f n))), (.int (1 : Int32)), (.ref b1)])) _
    refine XS.iloadN X5.here hx rfl (hb hby d4_50) rfl ?_
    show Steps p.tables e below (T5.setTop (mkF m 51 #[.val (.ref o0), .val (.int (2 : Int32)), .val (.ref b1), .val (.int (0 : Int32)), .unset, .unset] [(.int (0 : Int32)), (.ref b1), (.int (Int32.ofNat (own_zc f n))), (.int (1 : Int32)), (.ref b1)])) _
    refine X5.iaload hx (j := (0 : Int32)) (v := (.int (0 : Int32))) (by rw [e5]; exact Ar23.1) (State.isArrayOf_alike hZ.alike Ar23.2.1) Ar23.2.2 hin23 hat23 (g := (mkF m 51 #[.val (.ref o0), .val (.int (2 : Int32)), .val (.ref b1), .val (.int (0 : Int32)), .unset, .unset] [(.int (0 : Int32)), (.ref b1), (.int (Int32.ofNat (own_zc f n))), (.int (1 : Int32)), (.ref b1)])) rfl rfl (hb hby d4_51) _ ?_
    show Steps p.tables e below (T5.setTop (mkF m 52 #[.val (.ref o0), .val (.int (2 : Int32)), .val (.ref b1), .val (.int (0 : Int32)), .unset, .unset] [(.int (0 : Int32)), (.int (Int32.ofNat (own_zc f n))), (.int (1 : Int32)), (.ref b1)])) _
    refine XS.iadd X5.here hx rfl (hb hby d4_52) rfl ?_
    show Steps p.tables e below (T5.setTop (mkF m 53 #[.val (.ref o0), .val (.int (2 : Int32)), .val (.ref b1), .val (.int (0 : Int32)), .unset, .unset] [(.int ((Int32.ofNat (own_zc f n)) + (0 : Int32))), (.int (1 : Int32)), (.ref b1)])) _
    refine st25 _ ?_
    show Steps p.tables e below (T25.setTop (mkF m 54 #[.val (.ref o0), .val (.int (2 : Int32)), .val (.ref b1), .val (.int (0 : Int32)), .unset, .unset] [])) _
    refine XS.iinc X25.here hx rfl (hb hby d4_54) rfl (l' := #[.val (.ref o0), .val (.int (2 : Int32)), .val (.ref b1), .val (.int (1 : Int32)), .unset, .unset]) rfl ?_
    show Steps p.tables e below (T25.setTop (mkF m 57 #[.val (.ref o0), .val (.int (2 : Int32)), .val (.ref b1), .val (.int (1 : Int32)), .unset, .unset] [])) _
    refine XS.goto X25.here hx rfl (pc0 := 57) (pc' := 38) rfl (hb hby d4_57) (by decide) (by decide) ?_
    show Steps p.tables e below (T25.setTop (mkF m 38 #[.val (.ref o0), .val (.int (2 : Int32)), .val (.ref b1), .val (.int (1 : Int32)), .unset, .unset] [])) _
    refine XS.iloadN X25.here hx rfl (hb hby d4_38) rfl ?_
    show Steps p.tables e below (T25.setTop (mkF m 39 #[.val (.ref o0), .val (.int (2 : Int32)), .val (.ref b1), .val (.int (1 : Int32)), .unset, .unset] [(.int (1 : Int32))])) _
    refine XS.iloadN X25.here hx rfl (hb hby d4_39) rfl ?_
    show Steps p.tables e below (T25.setTop (mkF m 40 #[.val (.ref o0), .val (.int (2 : Int32)), .val (.ref b1), .val (.int (1 : Int32)), .unset, .unset] [(.int (2 : Int32)), (.int (1 : Int32))])) _
    refine XS.icmpNo X25.here hx rfl (hb hby d4_40) rfl (tlt (by decide)).2.1 ?_
    show Steps p.tables e below (T25.setTop (mkF m 43 #[.val (.ref o0), .val (.int (2 : Int32)), .val (.ref b1), .val (.int (1 : Int32)), .unset, .unset] [])) _
    refine XS.aloadN X25.here hx rfl (hb hby d4_43) rfl rfl ?_
    show Steps p.tables e below (T25.setTop (mkF m 44 #[.val (.ref o0), .val (.int (2 : Int32)), .val (.ref b1), .val (.int (1 : Int32)), .unset, .unset] [(.ref b1)])) _
    refine XS.iloadN X25.here hx rfl (hb hby d4_44) rfl ?_
    show Steps p.tables e below (T25.setTop (mkF m 45 #[.val (.ref o0), .val (.int (2 : Int32)), .val (.ref b1), .val (.int (1 : Int32)), .unset, .unset] [(.int (1 : Int32)), (.ref b1)])) _
    refine XS.iconst X25.here hx rfl (hb hby d4_45) ?_
    show Steps p.tables e below (T25.setTop (mkF m 46 #[.val (.ref o0), .val (.int (2 : Int32)), .val (.ref b1), .val (.int (1 : Int32)), .unset, .unset] [(.int (1 : Int32)), (.int (1 : Int32)), (.ref b1)])) _
    refine XS.iadd X25.here hx rfl (hb hby d4_46) rfl ?_
    show Steps p.tables e below (T25.setTop (mkF m 47 #[.val (.ref o0), .val (.int (2 : Int32)), .val (.ref b1), .val (.int (1 : Int32)), .unset, .unset] [(.int (2 : Int32)), (.ref b1)])) _
    jvm_step X25.here [X25.here.top, hx, (hb hby d4_47), Value.category]
    show Steps p.tables e below (T25.setTop (mkF m 48 #[.val (.ref o0), .val (.int (2 : Int32)), .val (.ref b1), .val (.int (1 : Int32)), .unset, .unset] [(.int (2 : Int32)), (.ref b1), (.int (2 : Int32)), (.ref b1)])) _
    refine X25.iaload hx (j := (2 : Int32)) (v := (.int (Int32.ofNat (own_oc f n)))) (by rw [e25]; exact Ar26.1) (State.isArrayOf_alike hZ.alike Ar26.2.1) Ar26.2.2 hin26 hat26 (g := (mkF m 48 #[.val (.ref o0), .val (.int (2 : Int32)), .val (.ref b1), .val (.int (1 : Int32)), .unset, .unset] [(.int (2 : Int32)), (.ref b1), (.int (2 : Int32)), (.ref b1)])) rfl rfl (hb hby d4_48) _ ?_
    show Steps p.tables e below (T25.setTop (mkF m 49 #[.val (.ref o0), .val (.int (2 : Int32)), .val (.ref b1), .val (.int (1 : Int32)), .unset, .unset] [(.int (Int32.ofNat (own_oc f n))), (.int (2 : Int32)), (.ref b1)])) _
    refine XS.aloadN X25.here hx rfl (hb hby d4_49) rfl rfl ?_
    show Steps p.tables e below (T25.setTop (mkF m 50 #[.val (.ref o0), .val (.int (2 : Int32)), .val (.ref b1), .val (.int (1 : Int32)), .unset, .unset] [(.ref b1), (.int (Int32.ofNat (own_oc f n))), (.int (2 : Int32)), (.ref b1)])) _
    refine XS.iloadN X25.here hx rfl (hb hby d4_50) rfl ?_
    show Steps p.tables e below (T25.setTop (mkF m 51 #[.val (.ref o0), .val (.int (2 : Int32)), .val (.ref b1), .val (.int (1 : Int32)), .unset, .unset] [(.int (1 : Int32)), (.ref b1), (.int (Int32.ofNat (own_oc f n))), (.int (2 : Int32)), (.ref b1)])) _
    refine X25.iaload hx (j := (1 : Int32)) (v := (.int ((Int32.ofNat (own_zc f n)) + (0 : Int32)))) (by rw [e25]; exact Ar27.1) (State.isArrayOf_alike hZ.alike Ar27.2.1) Ar27.2.2 hin27 hat27 (g := (mkF m 51 #[.val (.ref o0), .val (.int (2 : Int32)), .val (.ref b1), .val (.int (1 : Int32)), .unset, .unset] [(.int (1 : Int32)), (.ref b1), (.int (Int32.ofNat (own_oc f n))), (.int (2 : Int32)), (.ref b1)])) rfl rfl (hb hby d4_51) _ ?_
    show Steps p.tables e below (T25.setTop (mkF m 52 #[.val (.ref o0), .val (.int (2 : Int32)), .val (.ref b1), .val (.int (1 : Int32)), .unset, .unset] [(.int ((Int32.ofNat (own_zc f n)) + (0 : Int32))), (.int (Int32.ofNat (own_oc f n))), (.int (2 : Int32)), (.ref b1)])) _
    refine XS.iadd X25.here hx rfl (hb hby d4_52) rfl ?_
    show Steps p.tables e below (T25.setTop (mkF m 53 #[.val (.ref o0), .val (.int (2 : Int32)), .val (.ref b1), .val (.int (1 : Int32)), .unset, .unset] [(.int ((Int32.ofNat (own_oc f n)) + ((Int32.ofNat (own_zc f n)) + (0 : Int32)))), (.int (2 : Int32)), (.ref b1)])) _
    refine st29 _ ?_
    show Steps p.tables e below (T29.setTop (mkF m 54 #[.val (.ref o0), .val (.int (2 : Int32)), .val (.ref b1), .val (.int (1 : Int32)), .unset, .unset] [])) _
    refine XS.iinc X29.here hx rfl (hb hby d4_54) rfl (l' := #[.val (.ref o0), .val (.int (2 : Int32)), .val (.ref b1), .val (.int (2 : Int32)), .unset, .unset]) rfl ?_
    show Steps p.tables e below (T29.setTop (mkF m 57 #[.val (.ref o0), .val (.int (2 : Int32)), .val (.ref b1), .val (.int (2 : Int32)), .unset, .unset] [])) _
    refine XS.goto X29.here hx rfl (pc0 := 57) (pc' := 38) rfl (hb hby d4_57) (by decide) (by decide) ?_
    show Steps p.tables e below (T29.setTop (mkF m 38 #[.val (.ref o0), .val (.int (2 : Int32)), .val (.ref b1), .val (.int (2 : Int32)), .unset, .unset] [])) _
    refine XS.iloadN X29.here hx rfl (hb hby d4_38) rfl ?_
    show Steps p.tables e below (T29.setTop (mkF m 39 #[.val (.ref o0), .val (.int (2 : Int32)), .val (.ref b1), .val (.int (2 : Int32)), .unset, .unset] [(.int (2 : Int32))])) _
    refine XS.iloadN X29.here hx rfl (hb hby d4_39) rfl ?_
    show Steps p.tables e below (T29.setTop (mkF m 40 #[.val (.ref o0), .val (.int (2 : Int32)), .val (.ref b1), .val (.int (2 : Int32)), .unset, .unset] [(.int (2 : Int32)), (.int (2 : Int32))])) _
    refine XS.icmpYes X29.here hx rfl (pc0 := 40) (pc' := 60) rfl (hb hby d4_40) rfl (flt (by decide)).2.1 (by decide) (by decide) ?_
    show Steps p.tables e below (T29.setTop (mkF m 60 #[.val (.ref o0), .val (.int (2 : Int32)), .val (.ref b1), .val (.int (2 : Int32)), .unset, .unset] [])) _
    refine XS.aloadN X29.here hx rfl (hb hby d4_60) rfl rfl ?_
    show Steps p.tables e below (T29.setTop (mkF m 61 #[.val (.ref o0), .val (.int (2 : Int32)), .val (.ref b1), .val (.int (2 : Int32)), .unset, .unset] [(.ref o0)])) _
    refine st31 _ ?_
    show Steps p.tables e below (T31.setTop (mkF m 64 #[.val (.ref o0), .val (.int (2 : Int32)), .val (.ref b1), .val (.int (2 : Int32)), .unset, .unset] [(.int (Int32.ofNat n))])) _
    refine st35 _ ?_
    show Steps p.tables e below (T35.setTop (mkF m 66 #[.val (.ref o0), .val (.int (2 : Int32)), .val (.ref b1), .val (.int (2 : Int32)), .unset, .unset] [(.ref b35)])) _
    refine XS.astoreN X35.here hx rfl (hb hby d4_66) rfl rfl (l' := #[.val (.ref o0), .val (.int (2 : Int32)), .val (.ref b1), .val (.ref b35), .unset, .unset]) rfl ?_
    show Steps p.tables e below (T35.setTop (mkF m 67 #[.val (.ref o0), .val (.int (2 : Int32)), .val (.ref b1), .val (.ref b35), .unset, .unset] [])) _
    refine XS.aloadN X35.here hx rfl (hb hby d4_67) rfl rfl ?_
    show Steps p.tables e below (T35.setTop (mkF m 68 #[.val (.ref o0), .val (.int (2 : Int32)), .val (.ref b1), .val (.ref b35), .unset, .unset] [(.ref b1)])) _
    refine XS.iloadN X35.here hx rfl (hb hby d4_68) rfl ?_
    show Steps p.tables e below (T35.setTop (mkF m 69 #[.val (.ref o0), .val (.int (2 : Int32)), .val (.ref b1), .val (.ref b35), .unset, .unset] [(.int (2 : Int32)), (.ref b1)])) _
    refine st43 _ ?_
    show Steps p.tables e below (T43.setTop (mkF m 72 #[.val (.ref o0), .val (.int (2 : Int32)), .val (.ref b1), .val (.ref b35), .unset, .unset] [(.ref b_43)])) _
    refine XS.astore X43.here hx rfl (hb hby d4_72) rfl rfl (l' := #[.val (.ref o0), .val (.int (2 : Int32)), .val (.ref b1), .val (.ref b35), .val (.ref b_43), .unset]) rfl ?_
    show Steps p.tables e below (T43.setTop (mkF m 74 #[.val (.ref o0), .val (.int (2 : Int32)), .val (.ref b1), .val (.ref b35), .val (.ref b_43), .unset] [])) _
    refine XS.iconst X43.here hx rfl (hb hby d4_74) ?_
    show Steps p.tables e below (T43.setTop (mkF m 75 #[.val (.ref o0), .val (.int (2 : Int32)), .val (.ref b1), .val (.ref b35), .val (.ref b_43), .unset] [(.int (0 : Int32))])) _
    refine XS.istore X43.here hx rfl (hb hby d4_75) rfl (l' := #[.val (.ref o0), .val (.int (2 : Int32)), .val (.ref b1), .val (.ref b35), .val (.ref b_43), .val (.int (0 : Int32))]) rfl ?_
    exact kt
  have c49 : Arv Z T43.heap b35 k35 .int (Int32.ofNat n) [] (.int (0 : Int32)) := (V_b35.keep K43 nin0)
  have loop50 : ∀ (k i : Nat) (T : State) (h : Heap) (locs : List Loc), i + k = n → Stand p l e ({ frames := 2, cells := 3, slots := 8, locals := 32 } : Room) s m #[(.ref o0), (.int (2 : Int32))] below meth c T locs 3 8 → T.heap = h → Fr n0 locs → Keep T43.heap h [b_43, b35] → Arv Z h b_43 kb_43 .int (2 : Int32) (own_n2 (own_zc f i) (own_zc f n + own_oc f i)) (.int (0 : Int32)) → Arv Z h b35 k35 .int (Int32.ofNat n) (own_so f n i) (.int (0 : Int32)) → ∃ (T' : State) (h' : Heap) (locs' : List Loc), Stand p l e ({ frames := 2, cells := 3, slots := 8, locals := 32 } : Room) s m #[(.ref o0), (.int (2 : Int32))] below meth c T' locs' 3 8 ∧ T'.heap = h' ∧ Fr n0 locs' ∧ Keep T43.heap h' [b_43, b35] ∧ Arv Z h' b_43 kb_43 .int (2 : Int32) (own_n2 (own_zc f n) (own_zc f n + own_oc f n)) (.int (0 : Int32)) ∧ Arv Z h' b35 k35 .int (Int32.ofNat n) (own_so f n n) (.int (0 : Int32)) ∧ ∀ t, Steps p.tables e below (T'.setTop (mkF m 111 #[.val (.ref o0), .val (.int (2 : Int32)), .val (.ref b1), .val (.ref b35), .val (.ref b_43), .val (.int (Int32.ofNat n))] [])) t → Steps p.tables e below (T.setTop (mkF m 77 #[.val (.ref o0), .val (.int (2 : Int32)), .val (.ref b1), .val (.ref b35), .val (.ref b_43), .val (.int (Int32.ofNat i))] [])) t := by
    intro k
    induction k with
    | zero =>
      intro i T51 h51 L51 hi X51 e51 N51 K51 v0_51 v1_51
      have hi' : n = i := by omega
      subst hi'
      have c52 : Fld Z h51 o0 "com/example/vestwright/vestwright/ParticipantRows" "size" "I" (.int (Int32.ofNat n)) := (((c30.ext E35).keep K43 nin0).keep K51 (ninS ne44 (ninS ne36 nin0)))
      obtain ⟨T53, X53, e53, st53⟩ := getF X51 hx hZ hown (host := "") (Or.inl (hw _ (List.mem_of_getElem? (i := 19) rfl))) Via.refl e51 c52 (g := (mkF m 80 #[.val (.ref o0), .val (.int (2 : Int32)), .val (.ref b1), .val (.ref b35), .val (.ref b_43), .val (.int (Int32.ofNat n))] [(.ref o0), (.int (Int32.ofNat n))])) rfl rfl (hb hby d4_80)
      have hc83_54 : ¬ ((Int32.ofNat n) < (Int32.ofNat n)) := Int32.lt_irrefl
      refine ⟨T53, h51, _, X53, e53, N51, K51, v0_51, v1_51, fun t kt => ?_⟩
      show Steps p.tables e below (T51.setTop (mkF m 77 #[.val (.ref o0), .val (.int (2 : Int32)), .val (.ref b1), .val (.ref b35), .val (.ref b_43), .val (.int (Int32.ofNat n))] [])) _
      refine XS.iload X51.here hx rfl (hb hby d4_77) rfl ?_
      show Steps p.tables e below (T51.setTop (mkF m 79 #[.val (.ref o0), .val (.int (2 : Int32)), .val (.ref b1), .val (.ref b35), .val (.ref b_43), .val (.int (Int32.ofNat n))] [(.int (Int32.ofNat n))])) _
      refine XS.aloadN X51.here hx rfl (hb hby d4_79) rfl rfl ?_
      show Steps p.tables e below (T51.setTop (mkF m 80 #[.val (.ref o0), .val (.int (2 : Int32)), .val (.ref b1), .val (.ref b35), .val (.ref b_43), .val (.int (Int32.ofNat n))] [(.ref o0), (.int (Int32.ofNat n))])) _
      refine st53 _ ?_
      show Steps p.tables e below (T53.setTop (mkF m 83 #[.val (.ref o0), .val (.int (2 : Int32)), .val (.ref b1), .val (.ref b35), .val (.ref b_43), .val (.int (Int32.ofNat n))] [(.int (Int32.ofNat n)), (.int (Int32.ofNat n))])) _
      refine XS.icmpYes X53.here hx rfl (pc0 := 83) (pc' := 111) rfl (hb hby d4_83) rfl (flt hc83_54).2.1 (by decide) (by decide) ?_
      exact kt
    | succ k ih =>
      intro i T55 h55 L55 hi X55 e55 N55 K55 v0_55 v1_55
      have hi' : i < n := by omega
      have c56 : Fld Z h55 o0 "com/example/vestwright/vestwright/ParticipantRows" "size" "I" (.int (Int32.ofNat n)) := (((c30.ext E35).keep K43 nin0).keep K55 (ninS ne44 (ninS ne36 nin0)))
      obtain ⟨T57, X57, e57, st57⟩ := getF X55 hx hZ hown (host := "") (Or.inl (hw _ (List.mem_of_getElem? (i := 19) rfl))) Via.refl e55 c56 (g := (mkF m 80 #[.val (.ref o0), .val (.int (2 : Int32)), .val (.ref b1), .val (.ref b35), .val (.ref b_43), .val (.int (Int32.ofNat i))] [(.ref o0), (.int (Int32.ofNat i))])) rfl rfl (hb hby d4_80)
      have hc83_58 : (Int32.ofNat i) < (Int32.ofNat n) := own_ltn hi' hn
      have c59 : Fld Z h55 o0 "com/example/vestwright/vestwright/ParticipantRows" "participants" "[I" (.ref pa) := (((((((F_participants_o0.ext E1).keep K5 (ninS ne2 nin0)).other W25 (Or.inl ne2)).other W29 (Or.inl ne2)).ext E35).keep K43 nin0).keep K55 (ninS ne44 (ninS ne36 nin0)))
      obtain ⟨T60, X60, e60, st60⟩ := getF X57 hx hZ hown (host := "") (Or.inl (hw _ (List.mem_of_getElem? (i := 10) rfl))) Via.refl e57 c59 (g := (mkF m 90 #[.val (.ref o0), .val (.int (2 : Int32)), .val (.ref b1), .val (.ref b35), .val (.ref b_43), .val (.int (Int32.ofNat i))] [(.ref o0), (.ref b_43), (.ref b35)])) rfl rfl (hb hby d4_90)
      have c61 : Arv Z h55 pa kp .int (1024 : Int32) ps (.int (0 : Int32)) := ((c41.keep K43 nin0).keep K55 (ninS ne45 (ninS ne37 nin0)))
      obtain ⟨cl62, Ar62, -, Sz62, Nn62, Hs62, -⟩ := id c61
      have hin62 : ¬ ((Int32.ofNat i) < 0 ∨ cl62.slots.size ≤ ((Int32.ofNat i)).toNatClampNeg) := inb_of Sz62 (own_lt1024 hi' hn)
      have hat62 : cl62.slots[((Int32.ofNat i)).toNatClampNeg]? = some (.int (Int32.ofNat (f i))) := Hs62.at hin62 (by rw [own_ic (by omega)]; exact hps i hi')
      obtain ⟨cl63, Ar63, -, Sz63, Nn63, Hs63, -⟩ := id v0_55
      have hin63 : ¬ ((Int32.ofNat (f i)) < 0 ∨ cl63.slots.size ≤ ((Int32.ofNat (f i))).toNatClampNeg) := inb_of Sz63 (own_ix0in (hf i))
      have hat63 : cl63.slots[((Int32.ofNat (f i))).toNatClampNeg]? = some (.int (Int32.ofNat (own_pk (f i) (own_zc f i) (own_zc f n + own_oc f i)))) := Hs63.at hin63 (own_n2at (hf i) _)
      obtain ⟨cl64, Ar64, qk64, Sz64, Nn64, Hs64, Gs64⟩ := id v0_55
      have hin64 : ¬ ((Int32.ofNat (f i)) < 0 ∨ cl64.slots.size ≤ ((Int32.ofNat (f i))).toNatClampNeg) := inb_of Sz64 (own_ix0in (hf i))
      obtain ⟨T65, h65, X65, e65, W65, st65⟩ := stI X60 hx hZ e60 Ar64 (j := (Int32.ofNat (f i))) hin64 (g := (mkF m 101 #[.val (.ref o0), .val (.int (2 : Int32)), .val (.ref b1), .val (.ref b35), .val (.ref b_43), .val (.int (Int32.ofNat i))] [(.int ((Int32.ofNat (own_pk (f i) (own_zc f i) (own_zc f n + own_oc f i))) + (1 : Int32))), (.int (Int32.ofNat (f i))), (.ref b_43), (.int (Int32.ofNat (own_pk (f i) (own_zc f i) (own_zc f n + own_oc f i)))), (.ref b35)])) rfl rfl (hb hby d4_101)
      have V65 : Arv Z h65 b_43 kb_43 .int (2 : Int32) (own_n2 (own_zc f (i + 1)) (own_zc f n + own_oc f (i + 1))) (.int (0 : Int32)) := by have q := Arv.set Ar64 qk64 Sz64 Nn64 Hs64 Gs64 rfl W65 (f i) (own_ix0 (hf i)) (by show f i < 2; exact hf i); rw [own_n2set (hf i)] at q; exact q
      have J65 : Keep h0 h65 [o0] := (J43.trans K55 (allS (Or.inr sz_b_43) (allS (Or.inr sz_b35) all0))).wr W65 (Or.inr sz_b_43)
      have N65 := Fr.snoc X65 N55 g_b_43
      have c66 : Arv Z h65 b35 k35 .int (Int32.ofNat n) (own_so f n i) (.int (0 : Int32)) := (v1_55.other W65 ne47)
      obtain ⟨cl67, Ar67, qk67, Sz67, Nn67, Hs67, Gs67⟩ := id c66
      have hin67 : ¬ ((Int32.ofNat (own_pk (f i) (own_zc f i) (own_zc f n + own_oc f i))) < 0 ∨ cl67.slots.size ≤ ((Int32.ofNat (own_pk (f i) (own_zc f i) (own_zc f n + own_oc f i)))).toNatClampNeg) := inb_of Sz67 ⟨own_in (by have := own_idx (f := f) hi'; omega), own_ltn (own_idx hi') hn⟩
      obtain ⟨T68, h68, X68, e68, W68, st68⟩ := stI X65 hx hZ e65 Ar67 (j := (Int32.ofNat (own_pk (f i) (own_zc f i) (own_zc f n + own_oc f i)))) hin67 (g := (mkF m 104 #[.val (.ref o0), .val (.int (2 : Int32)), .val (.ref b1), .val (.ref b35), .val (.ref b_43), .val (.int (Int32.ofNat i))] [(.int (Int32.ofNat i)), (.int (Int32.ofNat (own_pk (f i) (own_zc f i) (own_zc f n + own_oc f i)))), (.ref b35)])) rfl rfl (hb hby d4_104)
      have V68 : Arv Z h68 b35 k35 .int (Int32.ofNat n) (own_so f n (i + 1)) (.int (0 : Int32)) := Arv.set Ar67 qk67 Sz67 Nn67 Hs67 Gs67 rfl W68 (own_pk (f i) (own_zc f i) (own_zc f n + own_oc f i)) (own_ic (by have := own_idx (f := f) hi'; omega)) (by rw [own_sol]; exact own_idx hi')
      have J68 : Keep h0 h68 [o0] := J65.wr W68 (Or.inr sz_b35)
      have N68 := Fr.snoc X68 N65 g_b35
      have c69 : Arv Z h68 b_43 kb_43 .int (2 : Int32) (own_n2 (own_zc f (i + 1)) (own_zc f n + own_oc f (i + 1))) (.int (0 : Int32)) := (V65.other W68 (Ne.symm ne47))
      obtain ⟨T70, h70, L70, X70, e70, N70, K70, w0_70, w1_70, st70⟩ := ih (i + 1) T68 h68 _ (by omega) X68 e68 N68 ((K55.wr W65 (Or.inl (List.mem_of_getElem? (i := 0) rfl))).wr W68 (Or.inl (List.mem_of_getElem? (i := 1) rfl))) c69 V68
      refine ⟨T70, h70, L70, X70, e70, N70, K70, w0_70, w1_70, fun t kt => ?_⟩
      show Steps p.tables e below (T55.setTop (mkF m 77 #[.val (.ref o0), .val (.int (2 : Int32)), .val (.ref b1), .val (.ref b35), .val (.ref b_43), .val (.int (Int32.ofNat i))] [])) _
      refine XS.iload X55.here hx rfl (hb hby d4_77) rfl ?_
      show Steps p.tables e below (T55.setTop (mkF m 79 #[.val (.ref o0), .val (.int (2 : Int32)), .val (.ref b1), .val (.ref b35), .val (.ref b_43), .val (.int (Int32.ofNat i))] [(.int (Int32.ofNat i))])) _
      refine XS.aloadN X55.here hx rfl (hb hby d4_79) rfl rfl ?_
      show Steps p.tables e below (T55.setTop (mkF m 80 #[.val (.ref o0), .val (.int (2 : Int32)), .val (.ref b1), .val (.ref b35), .val (.ref b_43), .val (.int (Int32.ofNat i))] [(.ref o0), (.int (Int32.ofNat i))])) _
      refine st57 _ ?_
      show Steps p.tables e below (T57.setTop (mkF m 83 #[.val (.ref o0), .val (.int (2 : Int32)), .val (.ref b1), .val (.ref b35), .val (.ref b_43), .val (.int (Int32.ofNat i))] [(.int (Int32.ofNat n)), (.int (Int32.ofNat i))])) _
      refine XS.icmpNo X57.here hx rfl (hb hby d4_83) rfl (tlt hc83_58).2.1 ?_
      show Steps p.tables e below (T57.setTop (mkF m 86 #[.val (.ref o0), .val (.int (2 : Int32)), .val (.ref b1), .val (.ref b35), .val (.ref b_43), .val (.int (Int32.ofNat i))] [])) _
      refine XS.aloadN X57.here hx rfl (hb hby d4_86) rfl rfl ?_
      show Steps p.tables e below (T57.setTop (mkF m 87 #[.val (.ref o0), .val (.int (2 : Int32)), .val (.ref b1), .val (.ref b35), .val (.ref b_43), .val (.int (Int32.ofNat i))] [(.ref b35)])) _
      refine XS.aload X57.here hx rfl (hb hby d4_87) rfl rfl ?_
      show Steps p.tables e below (T57.setTop (mkF m 89 #[.val (.ref o0), .val (.int (2 : Int32)), .val (.ref b1), .val (.ref b35), .val (.ref b_43), .val (.int (Int32.ofNat i))] [(.ref b_43), (.ref b35)])) _
      refine XS.aloadN X57.here hx rfl (hb hby d4_89) rfl rfl ?_
      show Steps p.tables e below (T57.setTop (mkF m 90 #[.val (.ref o0), .val (.int (2 : Int32)), .val (.ref b1), .val (.ref b35), .val (.ref b_43), .val (.int (Int32.ofNat i))] [(.ref o0), (.ref b_43), (.ref b35)])) _
      refine st60 _ ?_
      show Steps p.tables e below (T60.setTop (mkF m 93 #[.val (.ref o0), .val (.int (2 : Int32)), .val (.ref b1), .val (.ref b35), .val (.ref b_43), .val (.int (Int32.ofNat i))] [(.ref pa), (.ref b_43), (.ref b35)])) _
      refine XS.iload X60.here hx rfl (hb hby d4_93) rfl ?_
      show Steps p.tables e below (T60.setTop (mkF m 95 #[.val (.ref o0), .val (.int (2 : Int32)), .val (.ref b1), .val (.ref b35), .val (.ref b_43), .val (.int (Int32.ofNat i))] [(.int (Int32.ofNat i)), (.ref pa), (.ref b_43), (.ref b35)])) _
      refine X60.iaload hx (j := (Int32.ofNat i)) (v := (.int (Int32.ofNat (f i)))) (by rw [e60]; exact Ar62.1) (State.isArrayOf_alike hZ.alike Ar62.2.1) Ar62.2.2 hin62 hat62 (g := (mkF m 95 #[.val (.ref o0), .val (.int (2 : Int32)), .val (.ref b1), .val (.ref b35), .val (.ref b_43), .val (.int (Int32.ofNat i))] [(.int (Int32.ofNat i)), (.ref pa), (.ref b_43), (.ref b35)])) rfl rfl (hb hby d4_95) _ ?_
      show Steps p.tables e below (T60.setTop (mkF m 96 #[.val (.ref o0), .val (.int (2 : Int32)), .val (.ref b1), .val (.ref b35), .val (.ref b_43), .val (.int (Int32.ofNat i))] [(.int (Int32.ofNat (f i))), (.ref b_43), (.ref b35)])) _
      jvm_step X60.here [X60.here.top, hx, (hb hby d4_96), Value.category]
      show Steps p.tables e below (T60.setTop (mkF m 97 #[.val (.ref o0), .val (.int (2 : Int32)), .val (.ref b1), .val (.ref b35), .val (.ref b_43), .val (.int (Int32.ofNat i))] [(.int (Int32.ofNat (f i))), (.ref b_43), (.int (Int32.ofNat (f i))), (.ref b_43), (.ref b35)])) _
      refine X60.iaload hx (j := (Int32.ofNat (f i))) (v := (.int (Int32.ofNat (own_pk (f i) (own_zc f i) (own_zc f n + own_oc f i))))) (by rw [e60]; exact Ar63.1) (State.isArrayOf_alike hZ.alike Ar63.2.1) Ar63.2.2 hin63 hat63 (g := (mkF m 97 #[.val (.ref o0), .val (.int (2 : Int32)), .val (.ref b1), .val (.ref b35), .val (.ref b_43), .val (.int (Int32.ofNat i))] [(.int (Int32.ofNat (f i))), (.ref b_43), (.int (Int32.ofNat (f i))), (.ref b_43), (.ref b35)])) rfl rfl (hb hby d4_97) _ ?_
      show Steps p.tables e below (T60.setTop (mkF m 98 #[.val (.ref o0), .val (.int (2 : Int32)), .val (.ref b1), .val (.ref b35), .val (.ref b_43), .val (.int (Int32.ofNat i))] [(.int (Int32.ofNat (own_pk (f i) (own_zc f i) (own_zc f n + own_oc f i)))), (.int (Int32.ofNat (f i))), (.ref b_43), (.ref b35)])) _
      jvm_step X60.here [X60.here.top, hx, (hb hby d4_98), Value.category]
      show Steps p.tables e below (T60.setTop (mkF m 99 #[.val (.ref o0), .val (.int (2 : Int32)), .val (.ref b1), .val (.ref b35), .val (.ref b_43), .val (.int (Int32.ofNat i))] [(.int (Int32.ofNat (own_pk (f i) (own_zc f i) (own_zc f n + own_oc f i)))), (.int (Int32.ofNat (f i))), (.ref b_43), (.int (Int32.ofNat (own_pk (f i) (own_zc f i) (own_zc f n + own_oc f i)))), (.ref b35)])) _
      refine XS.iconst X60.here hx rfl (hb hby d4_99) ?_
      show Steps p.tables e below (T60.setTop (mkF m 100 #[.val (.ref o0), .val (.int (2 : Int32)), .val (.ref b1), .val (.ref b35), .val (.ref b_43), .val (.int (Int32.ofNat i))] [(.int (1 : Int32)), (.int (Int32.ofNat (own_pk (f i) (own_zc f i) (own_zc f n + own_oc f i)))), (.int (Int32.ofNat (f i))), (.ref b_43), (.int (Int32.ofNat (own_pk (f i) (own_zc f i) (own_zc f n + own_oc f i)))), (.ref b35)])) _
      refine XS.iadd X60.here hx rfl (hb hby d4_100) rfl ?_
      show Steps p.tables e below (T60.setTop (mkF m 101 #[.val (.ref o0), .val (.int (2 : Int32)), .val (.ref b1), .val (.ref b35), .val (.ref b_43), .val (.int (Int32.ofNat i))] [(.int ((Int32.ofNat (own_pk (f i) (own_zc f i) (own_zc f n + own_oc f i))) + (1 : Int32))), (.int (Int32.ofNat (f i))), (.ref b_43), (.int (Int32.ofNat (own_pk (f i) (own_zc f i) (own_zc f n + own_oc f i)))), (.ref b35)])) _
      refine st65 _ ?_
      show Steps p.tables e below (T65.setTop (mkF m 102 #[.val (.ref o0), .val (.int (2 : Int32)), .val (.ref b1), .val (.ref b35), .val (.ref b_43), .val (.int (Int32.ofNat i))] [(.int (Int32.ofNat (own_pk (f i) (own_zc f i) (own_zc f n + own_oc f i)))), (.ref b35)])) _
      refine XS.iload X65.here hx rfl (hb hby d4_102) rfl ?_
      show Steps p.tables e below (T65.setTop (mkF m 104 #[.val (.ref o0), .val (.int (2 : Int32)), .val (.ref b1), .val (.ref b35), .val (.ref b_43), .val (.int (Int32.ofNat i))] [(.int (Int32.ofNat i)), (.int (Int32.ofNat (own_pk (f i) (own_zc f i) (own_zc f n + own_oc f i)))), (.ref b35)])) _
      refine st68 _ ?_
      show Steps p.tables e below (T68.setTop (mkF m 105 #[.val (.ref o0), .val (.int (2 : Int32)), .val (.ref b1), .val (.ref b35), .val (.ref b_43), .val (.int (Int32.ofNat i))] [])) _
      refine XS.iinc X68.here hx rfl (hb hby d4_105) rfl (l' := #[.val (.ref o0), .val (.int (2 : Int32)), .val (.ref b1), .val (.ref b35), .val (.ref b_43), .val (.int ((Int32.ofNat i) + (1 : Int32)))]) rfl ?_
      show Steps p.tables e below (T68.setTop (mkF m 108 #[.val (.ref o0), .val (.int (2 : Int32)), .val (.ref b1), .val (.ref b35), .val (.ref b_43), .val (.int ((Int32.ofNat i) + (1 : Int32)))] [])) _
      refine XS.goto X68.here hx rfl (pc0 := 108) (pc' := 77) rfl (hb hby d4_108) (by decide) (by decide) ?_
      show Steps p.tables e below (T68.setTop (mkF m 77 #[.val (.ref o0), .val (.int (2 : Int32)), .val (.ref b1), .val (.ref b35), .val (.ref b_43), .val (.int ((Int32.ofNat i) + (1 : Int32)))] [])) _
      rw [own_one]
      exact st70 t kt
  obtain ⟨T50, h50, L50, X50, e50, N50, K50, u0_50, u1_50, st50⟩ := loop50 n 0 T43 T43.heap _ (by omega) X43 rfl N43 (Keep.refl _ _) (show Arv Z T43.heap b_43 kb_43 .int (2 : Int32) (own_n2 (own_zc f 0) (own_zc f n + own_oc f 0)) (.int (0 : Int32)) by have q := r1_43; rw [Int32.add_zero] at q; exact q) (c49.pad (pad_rep [] (.int (0 : Int32)) n))
  have J50 : Keep h0 h50 [o0] := J43.trans K50 (allS (Or.inr sz_b_43) (allS (Or.inr sz_b35) all0))
  have c71 : Fld Z h50 o0 "com/example/vestwright/vestwright/ParticipantRows" "starts" "[I" .null := (((((((F_starts_o0.ext E1).keep K5 (ninS ne2 nin0)).other W25 (Or.inl ne2)).other W29 (Or.inl ne2)).ext E35).keep K43 nin0).keep K50 (ninS ne44 (ninS ne36 nin0)))
  have c72 : Exa Z h50 o0 "com/example/vestwright/vestwright/ParticipantRows" := ((c40.keep K43).keep K50)
  obtain ⟨T73, h73, X73, e73, W73, st73⟩ := putF X50 hx hZ hown (host := "") (Or.inl (hw _ (List.mem_of_getElem? (i := 33) rfl))) Via.refl e50 c71 c72 (Or.inl (hw _ (List.mem_of_getElem? (i := 34) rfl))) (hw _ (List.mem_of_getElem? (i := 1) rfl)) (ty := (.array .int)) (by decide) rfl rfl (g := (mkF m 113 #[.val (.ref o0), .val (.int (2 : Int32)), .val (.ref b1), .val (.ref b35), .val (.ref b_43), .val (.int (Int32.ofNat n))] [(.ref b1), (.ref o0)])) rfl rfl (hb hby d4_113)
  have Fw73 : Fld Z h73 o0 "com/example/vestwright/vestwright/ParticipantRows" "starts" "[I" (.ref b1) := c71.same W73
  have J73 : Keep h0 h73 [o0] := J50.wr W73 (Or.inl (List.mem_of_getElem? (i := 0) rfl))
  have N73 := Fr.snoc X73 N50 g_o0
  have c74 : Fld Z h73 o0 "com/example/vestwright/vestwright/ParticipantRows" "order" "[I" .null := ((((((((F_order_o0.ext E1).keep K5 (ninS ne2 nin0)).other W25 (Or.inl ne2)).other W29 (Or.inl ne2)).ext E35).keep K43 nin0).keep K50 (ninS ne44 (ninS ne36 nin0))).other W73 (Or.inr (slot_ne (Or.inl (hw _ (List.mem_of_getElem? (i := 36) rfl))) (Or.inl (hw _ (List.mem_of_getElem? (i := 34) rfl))) (by decide) (t := (.array .int)) (t' := (.array .int)) (by decide) (by decide))))
  have c75 : Exa Z h73 o0 "com/example/vestwright/vestwright/ParticipantRows" := (c72.wr W73)
  obtain ⟨T76, h76, X76, e76, W76, st76⟩ := putF X73 hx hZ hown (host := "") (Or.inl (hw _ (List.mem_of_getElem? (i := 35) rfl))) Via.refl e73 c74 c75 (Or.inl (hw _ (List.mem_of_getElem? (i := 36) rfl))) (hw _ (List.mem_of_getElem? (i := 1) rfl)) (ty := (.array .int)) (by decide) rfl rfl (g := (mkF m 118 #[.val (.ref o0), .val (.int (2 : Int32)), .val (.ref b1), .val (.ref b35), .val (.ref b_43), .val (.int (Int32.ofNat n))] [(.ref b35), (.ref o0)])) rfl rfl (hb hby d4_118)
  have Fw76 : Fld Z h76 o0 "com/example/vestwright/vestwright/ParticipantRows" "order" "[I" (.ref b35) := c74.same W76
  have J76 : Keep h0 h76 [o0] := J73.wr W76 (Or.inl (List.mem_of_getElem? (i := 0) rfl))
  have N76 := Fr.snoc X76 N73 g_o0
  have c77 : Fld Z h76 o0 "com/example/vestwright/vestwright/ParticipantRows" "participants" "[I" (.ref pa) := (((((((((F_participants_o0.ext E1).keep K5 (ninS ne2 nin0)).other W25 (Or.inl ne2)).other W29 (Or.inl ne2)).ext E35).keep K43 nin0).keep K50 (ninS ne44 (ninS ne36 nin0))).other W73 (Or.inr (slot_ne (Or.inl (hw _ (List.mem_of_getElem? (i := 11) rfl))) (Or.inl (hw _ (List.mem_of_getElem? (i := 34) rfl))) (by decide) (t := (.array .int)) (t' := (.array .int)) (by decide) (by decide)))).other W76 (Or.inr (slot_ne (Or.inl (hw _ (List.mem_of_getElem? (i := 11) rfl))) (Or.inl (hw _ (List.mem_of_getElem? (i := 36) rfl))) (by decide) (t := (.array .int)) (t' := (.array .int)) (by decide) (by decide))))
  have c78 : Exa Z h76 o0 "com/example/vestwright/vestwright/ParticipantRows" := (c75.wr W76)
  obtain ⟨T79, h79, X79, e79, W79, st79⟩ := putF X76 hx hZ hown (host := "") (Or.inl (hw _ (List.mem_of_getElem? (i := 10) rfl))) Via.refl e76 c77 c78 (Or.inl (hw _ (List.mem_of_getElem? (i := 11) rfl))) (hw _ (List.mem_of_getElem? (i := 1) rfl)) (ty := (.array .int)) (by decide) rfl rfl (g := (mkF m 123 #[.val (.ref o0), .val (.int (2 : Int32)), .val (.ref b1), .val (.ref b35), .val (.ref b_43), .val (.int (Int32.ofNat n))] [.null, (.ref o0)])) rfl rfl (hb hby d4_123)
  have Fw79 : Fld Z h79 o0 "com/example/vestwright/vestwright/ParticipantRows" "participants" "[I" .null := c77.same W79
  have J79 : Keep h0 h79 [o0] := J76.wr W79 (Or.inl (List.mem_of_getElem? (i := 0) rfl))
  have N79 := Fr.snoc X79 N76 g_o0
  have c80 : Fld Z h79 o0 "com/example/vestwright/vestwright/ParticipantRows" "starts" "[I" (.ref b1) := ((Fw73.other W76 (Or.inr (slot_ne (Or.inl (hw _ (List.mem_of_getElem? (i := 34) rfl))) (Or.inl (hw _ (List.mem_of_getElem? (i := 36) rfl))) (by decide) (t := (.array .int)) (t' := (.array .int)) (by decide) (by decide)))).other W79 (Or.inr (slot_ne (Or.inl (hw _ (List.mem_of_getElem? (i := 34) rfl))) (Or.inl (hw _ (List.mem_of_getElem? (i := 11) rfl))) (by decide) (t := (.array .int)) (t' := (.array .int)) (by decide) (by decide))))
  have c81 : Arv Z h79 b1 k1 .int (3 : Int32) (own_l3 ((Int32.ofNat (own_zc f n)) + (0 : Int32)) ((Int32.ofNat (own_oc f n)) + ((Int32.ofNat (own_zc f n)) + (0 : Int32)))) (.int (0 : Int32)) := (((((c39.keep K43 nin0).keep K50 (ninS ne46 (ninS ne38 nin0))).other W73 (Ne.symm ne2)).other W76 (Ne.symm ne2)).other W79 (Ne.symm ne2))
  obtain ⟨fs, hr, hrun, hended, hW, hsame⟩ := X79.leave (v := none) (fun _ => rfl)
  refine ⟨_, _, pre48 _ ?_, hrun, hended, _, _, rfl, ?_, ⟨_, rfl⟩, hW, hsame.mono (by decide) (by decide)⟩
  · show Steps p.tables e below (T43.setTop (mkF m 77 #[.val (.ref o0), .val (.int (2 : Int32)), .val (.ref b1), .val (.ref b35), .val (.ref b_43), .val (.int (0 : Int32))] [])) _
    refine st50 _ ?_
    show Steps p.tables e below (T50.setTop (mkF m 111 #[.val (.ref o0), .val (.int (2 : Int32)), .val (.ref b1), .val (.ref b35), .val (.ref b_43), .val (.int (Int32.ofNat n))] [])) _
    refine XS.aloadN X50.here hx rfl (hb hby d4_111) rfl rfl ?_
    show Steps p.tables e below (T50.setTop (mkF m 112 #[.val (.ref o0), .val (.int (2 : Int32)), .val (.ref b1), .val (.ref b35), .val (.ref b_43), .val (.int (Int32.ofNat n))] [(.ref o0)])) _
    refine XS.aloadN X50.here hx rfl (hb hby d4_112) rfl rfl ?_
    show Steps p.tables e below (T50.setTop (mkF m 113 #[.val (.ref o0), .val (.int (2 : Int32)), .val (.ref b1), .val (.ref b35), .val (.ref b_43), .val (.int (Int32.ofNat n))] [(.ref b1), (.ref o0)])) _
    refine st73 _ ?_
    show Steps p.tables e below (T73.setTop (mkF m 116 #[.val (.ref o0), .val (.int (2 : Int32)), .val (.ref b1), .val (.ref b35), .val (.ref b_43), .val (.int (Int32.ofNat n))] [])) _
    refine XS.aloadN X73.here hx rfl (hb hby d4_116) rfl rfl ?_
    show Steps p.tables e below (T73.setTop (mkF m 117 #[.val (.ref o0), .val (.int (2 : Int32)), .val (.ref b1), .val (.ref b35), .val (.ref b_43), .val (.int (Int32.ofNat n))] [(.ref o0)])) _
    refine XS.aloadN X73.here hx rfl (hb hby d4_117) rfl rfl ?_
    show Steps p.tables e below (T73.setTop (mkF m 118 #[.val (.ref o0), .val (.int (2 : Int32)), .val (.ref b1), .val (.ref b35), .val (.ref b_43), .val (.int (Int32.ofNat n))] [(.ref b35), (.ref o0)])) _
    refine st76 _ ?_
    show Steps p.tables e below (T76.setTop (mkF m 121 #[.val (.ref o0), .val (.int (2 : Int32)), .val (.ref b1), .val (.ref b35), .val (.ref b_43), .val (.int (Int32.ofNat n))] [])) _
    refine XS.aloadN X76.here hx rfl (hb hby d4_121) rfl rfl ?_
    show Steps p.tables e below (T76.setTop (mkF m 122 #[.val (.ref o0), .val (.int (2 : Int32)), .val (.ref b1), .val (.ref b35), .val (.ref b_43), .val (.int (Int32.ofNat n))] [(.ref o0)])) _
    refine XS.aconstNull X76.here hx rfl (hb hby d4_122) ?_
    show Steps p.tables e below (T76.setTop (mkF m 123 #[.val (.ref o0), .val (.int (2 : Int32)), .val (.ref b1), .val (.ref b35), .val (.ref b_43), .val (.int (Int32.ofNat n))] [.null, (.ref o0)])) _
    refine st79 _ ?_
    show Steps p.tables e below (T79.setTop (mkF m 126 #[.val (.ref o0), .val (.int (2 : Int32)), .val (.ref b1), .val (.ref b35), .val (.ref b_43), .val (.int (Int32.ofNat n))] [])) _
    exact X79.returnOut hx Bd.returns (hb hby d4_126) hr
  · show Q4 Z o0 n f pa kp ps h0 n0 _ T79.heap _
    rw [e79]
    exact ⟨b1, k1, rfl, N79, J79, sz_b1, c80, c81⟩
theorem d22_0 : decode jdk_22_method_1_code 0 = .ok (.aload_n 0, 1) := by decide +kernel
theorem d22_1 : decode jdk_22_method_1_code 1 = .ok (.invokespecial 1, 3) := by decide +kernel
theorem d22_4 : decode jdk_22_method_1_code 4 = .ok (.return_, 1) := by decide +kernel
theorem pn_java_util_AbstractCollection : plainName "java/util/AbstractCollection" = true := by first | (simp [plainName, overriddenIn]; done) | decide +kernel
theorem ef_22 (m : MethodId) (o0 : Addr) : entryFrame m #[(.ref o0)] 1 = mkF m 0 #[.val (.ref o0)] [] := by first | (simp [entryFrame, mkF, argsToLocals, Value.category]; done) | rfl
def Q22 (Z : State) (o0 : Addr) (h0 : Heap) (n0 : Nat) (v : Option Value) (h : Heap) (L : List Loc) : Prop := v = none ∧ Fr n0 L ∧ Keep h0 h []
set_option maxRecDepth 65536 in
set_option maxHeartbeats 40000000 in
theorem rm22 (l : Launch) (Z : State) (a0 : Array Value) (hw : ∀ d ∈ tables_1, d.before a0 Z = true) (ws : List Jvm.Cond) (o0 : Addr) (h0 : Heap) (n0 : Nat) (Z0 : n0 ≤ h0.size) :
    MetFree l (⟨"java/util/AbstractCollection", "<init>", "()V"⟩ : MethodName) (head1 (Jvm.Cond.code (⟨"java/util/AbstractCollection", "<init>", "()V"⟩ : MethodName) jdk_22_method_1_code 1 none :: ws) ({ frames := 1, cells := 0, slots := 0, locals := 12 } : Room)) (fun a U => a = #[(.ref o0)] ∧ Z.Warmed39 U.vm ∧ U.heap = h0) (fun _ _ _ _ _ => True) (fun _ U o U' => ∃ v L, o = .returned v ∧ Q22 Z o0 h0 n0 v U'.heap L ∧ FrameEnd U o U' L ({ frames := 1, cells := 0, slots := 0, locals := 12 } : Room).cells ({ frames := 1, cells := 0, slots := 0, locals := 12 } : Room).slots) := by
  refine MetFree.of_bodySF (plainFor_of_name pn_java_util_AbstractCollection) hisR ?_
  intro p e s m args below meth c s₁ Bd hml0 hP hK
  obtain ⟨rfl, hZ, hh⟩ := hP
  have hx := Bd.exec
  have hby := Bd.bytes
  have hml : c.maxLocals = 1 := hml0
  have hown : s.vm.findClass "java/util/AbstractCollection" = some m.cls := findClass_of_methodNamed Bd.named
  have hnm := (name_of_methodNamed Bd.named Bd.method).1
  have X0 : Stand p l e ({ frames := 1, cells := 0, slots := 0, locals := 12 } : Room) s m #[(.ref o0)] below meth c s₁ [] 0 0 := Stand.of_body Bd
  have e0 : s₁.heap = h0 := by rw [← hh, Bd.state]; rfl
  have N0 := Fr.nil n0
  have pre0 : ∀ t, Steps p.tables e below (s₁.setTop (mkF m 0 #[.val (.ref o0)] [])) t → Steps p.tables e below (s₁.setTop (entryFrame m #[(.ref o0)] 1)) t := fun t k => castTop (ef_22 m o0) k
  obtain ⟨T1, X1, e1, st1⟩ := initO X0 hx hZ hown (hw _ (List.mem_of_getElem? (i := 61) rfl)) (hw _ (List.mem_of_getElem? (i := 7) rfl)) (hw _ (List.mem_of_getElem? (i := 8) rfl)) e0 (g := (mkF m 1 #[.val (.ref o0)] [(.ref o0)])) rfl (by rw [hml]; rfl) rfl (hb hby d22_1) (by decide) (W := 0) (by show 2 * 0 + _ ≤ _; exact Nat.le_of_eq rfl) (by decide)
  obtain ⟨fs, hr, hrun, hended, hW, hsame⟩ := X1.leave (v := none) (fun _ => rfl)
  refine ⟨_, _, pre0 _ ?_, hrun, hended, _, _, rfl, ?_, ⟨_, rfl⟩, hW, hsame.mono (by decide) (by decide)⟩
  · show Steps p.tables e below (s₁.setTop (mkF m 0 #[.val (.ref o0)] [])) _
    refine XS.aloadN X0.here hx rfl (hb hby d22_0) rfl rfl ?_
    show Steps p.tables e below (s₁.setTop (mkF m 1 #[.val (.ref o0)] [(.ref o0)])) _
    refine st1 _ ?_
    show Steps p.tables e below (T1.setTop (mkF m 4 #[.val (.ref o0)] [])) _
    exact X1.returnOut hx Bd.returns (hb hby d22_4) hr
  · show Q22 Z o0 h0 n0 _ T1.heap _
    rw [e1]
    exact ⟨rfl, N0, (Keep.refl h0 [])⟩
theorem d39_0 : decode jdk_39_method_1_code 0 = .ok (.aload_n 0, 1) := by decide +kernel
theorem d39_1 : decode jdk_39_method_1_code 1 = .ok (.invokespecial 1, 3) := by decide +kernel
theorem d39_4 : decode jdk_39_method_1_code 4 = .ok (.aload_n 0, 1) := by decide +kernel
theorem d39_5 : decode jdk_39_method_1_code 5 = .ok (.iconst 0, 1) := by decide +kernel
theorem d39_6 : decode jdk_39_method_1_code 6 = .ok (.putfield 7, 3) := by decide +kernel
theorem d39_9 : decode jdk_39_method_1_code 9 = .ok (.return_, 1) := by decide +kernel
theorem pn_java_util_AbstractList : plainName "java/util/AbstractList" = true := by first | (simp [plainName, overriddenIn]; done) | decide +kernel
theorem pd_3 : parseMethodDescriptor "()V" = some ⟨[], none⟩ := by decide +kernel
theorem ef_39 (m : MethodId) (o0 : Addr) : entryFrame m #[(.ref o0)] 1 = mkF m 0 #[.val (.ref o0)] [] := by first | (simp [entryFrame, mkF, argsToLocals, Value.category]; done) | rfl
def Q39 (Z : State) (o0 : Addr) (h0 : Heap) (n0 : Nat) (v : Option Value) (h : Heap) (L : List Loc) : Prop := v = none ∧ Fr n0 L ∧ Keep h0 h [o0] ∧ Fld Z h o0 "java/util/AbstractList" "modCount" "I" (.int (0 : Int32)) ∧ Fld Z h o0 "com/example/vestwright/vestwright/ParticipantRows$Rows" "from" "I" (.int (0 : Int32)) ∧ Fld Z h o0 "com/example/vestwright/vestwright/ParticipantRows$Rows" "to" "I" (.int (0 : Int32)) ∧ Fld Z h o0 "com/example/vestwright/vestwright/ParticipantRows$Rows" "row" "Ljava/util/function/IntFunction;" .null
set_option maxRecDepth 65536 in
set_option maxHeartbeats 40000000 in
theorem rm39 (l : Launch) (Z : State) (a0 : Array Value) (hw : ∀ d ∈ tables_1, d.before a0 Z = true) (ws : List Jvm.Cond) (o0 : Addr) (h0 : Heap) (n0 : Nat) (Z0 : n0 ≤ h0.size) (E_o0 : Exa Z h0 o0 "com/example/vestwright/vestwright/ParticipantRows$Rows") (F_modCount_o0 : Fld Z h0 o0 "java/util/AbstractList" "modCount" "I" (.int (0 : Int32))) (g_o0 : n0 ≤ o0) (F_from_o0 : Fld Z h0 o0 "com/example/vestwright/vestwright/ParticipantRows$Rows" "from" "I" (.int (0 : Int32))) (F_to_o0 : Fld Z h0 o0 "com/example/vestwright/vestwright/ParticipantRows$Rows" "to" "I" (.int (0 : Int32))) (F_row_o0 : Fld Z h0 o0 "com/example/vestwright/vestwright/ParticipantRows$Rows" "row" "Ljava/util/function/IntFunction;" .null) :
    MetFree l (⟨"java/util/AbstractList", "<init>", "()V"⟩ : MethodName) (head1 (Jvm.Cond.code (⟨"java/util/AbstractList", "<init>", "()V"⟩ : MethodName) jdk_39_method_1_code 1 none :: ws) ({ frames := 2, cells := 0, slots := 0, locals := 24 } : Room)) (fun a U => a = #[(.ref o0)] ∧ Z.Warmed39 U.vm ∧ U.heap = h0) (fun _ _ _ _ _ => True) (fun _ U o U' => ∃ v L, o = .returned v ∧ Q39 Z o0 h0 n0 v U'.heap L ∧ FrameEnd U o U' L ({ frames := 2, cells := 0, slots := 0, locals := 24 } : Room).cells ({ frames := 2, cells := 0, slots := 0, locals := 24 } : Room).slots) := by
  refine MetFree.of_bodySF (plainFor_of_name pn_java_util_AbstractList) hisR ?_
  intro p e s m args below meth c s₁ Bd hml0 hP hK
  obtain ⟨rfl, hZ, hh⟩ := hP
  have hx := Bd.exec
  have hby := Bd.bytes
  have hml : c.maxLocals = 1 := hml0
  have hown : s.vm.findClass "java/util/AbstractList" = some m.cls := findClass_of_methodNamed Bd.named
  have hnm := (name_of_methodNamed Bd.named Bd.method).1
  have X0 : Stand p l e ({ frames := 2, cells := 0, slots := 0, locals := 24 } : Room) s m #[(.ref o0)] below meth c s₁ [] 0 0 := Stand.of_body Bd
  have e0 : s₁.heap = h0 := by rw [← hh, Bd.state]; rfl
  have N0 := Fr.nil n0
  have pre0 : ∀ t, Steps p.tables e below (s₁.setTop (mkF m 0 #[.val (.ref o0)] [])) t → Steps p.tables e below (s₁.setTop (entryFrame m #[(.ref o0)] 1)) t := fun t k => castTop (ef_39 m o0) k
  -- pc 1: AbstractCollection.<init> by rm22
  obtain ⟨_, _, ⟨T1, L1, k1, n1⟩, -, X1, ⟨Lc1, hQ1, l1, y1, z1'⟩, st1⟩ := X0.specialBack hx (y := (⟨"java/util/AbstractCollection", "<init>", "()V"⟩ : MethodName)) rfl hown (mvT hZ (hw _ (List.mem_of_getElem? (i := 55) rfl))) (mvT hZ (hw _ (List.mem_of_getElem? (i := 56) rfl))) (mvT hZ (hw _ (List.mem_of_getElem? (i := 60) rfl))) (by decide) (backOf (W := 0) (rm22 l Z a0 hw [] o0 h0 n0 Z0 ) hZ (hw _ (List.mem_of_getElem? (i := 60) rfl)) (hw _ (List.mem_of_getElem? (i := 59) rfl)) (by decide) (by decide)) (g := (mkF m 1 #[.val (.ref o0)] [(.ref o0)])) rfl (by rw [hml]; rfl) (Steps.refl _) (a := o0) (argsL := []) (rest := []) (lenOf pd_3 rfl) rfl (by show 2 * 0 + _ ≤ _; exact Nat.le_of_eq rfl) (hb hby d39_1) (fun _ _ => ⟨rfl, e0, (by decide : 0 + 0 ≤ _), (by decide : 0 + 0 ≤ _)⟩)
  dsimp only [Pt.U, Pt.locs, Pt.cells, Pt.slots] at X1 l1 y1 z1' st1 hQ1
  subst l1 y1 z1'
  obtain ⟨rfl, N1q, K1⟩ := hQ1
  have N1 := Fr.app N0 N1q
  have J1 : Keep h0 T1.heap [o0] := (Keep.refl h0 [o0]).trans K1 all0
  have c2 : Fld Z T1.heap o0 "java/util/AbstractList" "modCount" "I" (.int (0 : Int32)) := (F_modCount_o0.keep K1 nin0)
  have c3 : Exa Z T1.heap o0 "com/example/vestwright/vestwright/ParticipantRows$Rows" := (E_o0.keep K1)
  obtain ⟨T4, h4, X4, e4, W4, st4⟩ := putF X1 hx hZ hown (host := "") (Or.inl (hw _ (List.mem_of_getElem? (i := 62) rfl))) Via.refl rfl c2 c3 (Or.inl (hw _ (List.mem_of_getElem? (i := 63) rfl))) (hw _ (List.mem_of_getElem? (i := 43) rfl)) (ty := .int) (by decide) rfl rfl (g := (mkF m 6 #[.val (.ref o0)] [(.int (0 : Int32)), (.ref o0)])) rfl rfl (hb hby d39_6)
  have Fw4 : Fld Z h4 o0 "java/util/AbstractList" "modCount" "I" (.int (0 : Int32)) := c2.same W4
  have J4 : Keep h0 h4 [o0] := J1.wr W4 (Or.inl (List.mem_of_getElem? (i := 0) rfl))
  have N4 := Fr.snoc X4 N1 g_o0
  have c5 : Fld Z h4 o0 "com/example/vestwright/vestwright/ParticipantRows$Rows" "from" "I" (.int (0 : Int32)) := ((F_from_o0.keep K1 nin0).other W4 (Or.inr (slot_ne (Or.inr (hw _ (List.mem_of_getElem? (i := 65) rfl))) (Or.inl (hw _ (List.mem_of_getElem? (i := 63) rfl))) (by decide) (t := .int) (t' := .int) (by decide) (by decide))))
  have c6 : Fld Z h4 o0 "com/example/vestwright/vestwright/ParticipantRows$Rows" "to" "I" (.int (0 : Int32)) := ((F_to_o0.keep K1 nin0).other W4 (Or.inr (slot_ne (Or.inr (hw _ (List.mem_of_getElem? (i := 67) rfl))) (Or.inl (hw _ (List.mem_of_getElem? (i := 63) rfl))) (by decide) (t := .int) (t' := .int) (by decide) (by decide))))
  have c7 : Fld Z h4 o0 "com/example/vestwright/vestwright/ParticipantRows$Rows" "row" "Ljava/util/function/IntFunction;" .null := ((F_row_o0.keep K1 nin0).other W4 (Or.inr (slot_ne (Or.inr (hw _ (List.mem_of_getElem? (i := 69) rfl))) (Or.inl (hw _ (List.mem_of_getElem? (i := 63) rfl))) (by decide) (t := (.object "java/util/function/IntFunction")) (t' := .int) (by decide) (by decide))))
  obtain ⟨fs, hr, hrun, hended, hW, hsame⟩ := X4.leave (v := none) (fun _ => rfl)
  refine ⟨_, _, pre0 _ ?_, hrun, hended, _, _, rfl, ?_, ⟨_, rfl⟩, hW, hsame.mono (by decide) (by decide)⟩
  · show Steps p.tables e below (s₁.setTop (mkF m 0 #[.val (.ref o0)] [])) _
    refine XS.aloadN X0.here hx rfl (hb hby d39_0) rfl rfl ?_
    show Steps p.tables e below (s₁.setTop (mkF m 1 #[.val (.ref o0)] [(.ref o0)])) _
    refine st1.trans ?_
    show Steps p.tables e below (T1.setTop (mkF m 4 #[.val (.ref o0)] [])) _
    refine XS.aloadN X1.here hx rfl (hb hby d39_4) rfl rfl ?_
    show Steps p.tables e below (T1.setTop (mkF m 5 #[.val (.ref o0)] [(.ref o0)])) _
    refine XS.iconst X1.here hx rfl (hb hby d39_5) ?_
    show Steps p.tables e below (T1.setTop (mkF m 6 #[.val (.ref o0)] [(.int (0 : Int32)), (.ref o0)])) _
    refine st4 _ ?_
    show Steps p.tables e below (T4.setTop (mkF m 9 #[.val (.ref o0)] [])) _
    exact X4.returnOut hx Bd.returns (hb hby d39_9) hr
  · show Q39 Z o0 h0 n0 _ T4.heap _
    rw [e4]
    exact ⟨rfl, N4, J4, Fw4, c5, c6, c7⟩
theorem d19_0 : decode prog_19_method_1_code 0 = .ok (.aload_n 0, 1) := by decide +kernel
theorem d19_1 : decode prog_19_method_1_code 1 = .ok (.aload_n 1, 1) := by decide +kernel
theorem d19_2 : decode prog_19_method_1_code 2 = .ok (.putfield 1, 3) := by decide +kernel
theorem d19_5 : decode prog_19_method_1_code 5 = .ok (.aload_n 0, 1) := by decide +kernel
theorem d19_6 : decode prog_19_method_1_code 6 = .ok (.invokespecial 7, 3) := by decide +kernel
theorem d19_9 : decode prog_19_method_1_code 9 = .ok (.aload_n 0, 1) := by decide +kernel
theorem d19_10 : decode prog_19_method_1_code 10 = .ok (.iload_n 2, 1) := by decide +kernel
theorem d19_11 : decode prog_19_method_1_code 11 = .ok (.putfield 13, 3) := by decide +kernel
theorem d19_14 : decode prog_19_method_1_code 14 = .ok (.aload_n 0, 1) := by decide +kernel
theorem d19_15 : decode prog_19_method_1_code 15 = .ok (.iload_n 3, 1) := by decide +kernel
theorem d19_16 : decode prog_19_method_1_code 16 = .ok (.putfield 17, 3) := by decide +kernel
theorem d19_19 : decode prog_19_method_1_code 19 = .ok (.aload_n 0, 1) := by decide +kernel
theorem d19_20 : decode prog_19_method_1_code 20 = .ok (.aload 4, 2) := by decide +kernel
theorem d19_22 : decode prog_19_method_1_code 22 = .ok (.putfield 20, 3) := by decide +kernel
theorem d19_25 : decode prog_19_method_1_code 25 = .ok (.return_, 1) := by decide +kernel
theorem pn_com_example_vestwright_vestwright_ParticipantRows_Rows : plainName "com/example/vestwright/vestwright/ParticipantRows$Rows" = true := by first | (simp [plainName, overriddenIn]; done) | decide +kernel
theorem ef_19 (m : MethodId) (o0 : Addr) (o1 : Addr) (p2 : Int32) (p3 : Int32) : entryFrame m #[(.ref o0), (.ref o1), (.int p2), (.int p3), .null] 5 = mkF m 0 #[.val (.ref o0), .val (.ref o1), .val (.int p2), .val (.int p3), .val .null] [] := by first | (simp [entryFrame, mkF, argsToLocals, Value.category]; done) | rfl
def Q19 (Z : State) (o0 : Addr) (o1 : Addr) (p2 : Int32) (p3 : Int32) (h0 : Heap) (n0 : Nat) (v : Option Value) (h : Heap) (L : List Loc) : Prop := v = none ∧ Fr n0 L ∧ Keep h0 h [o0] ∧ Fld Z h o0 "com/example/vestwright/vestwright/ParticipantRows$Rows" "from" "I" (.int p2) ∧ Fld Z h o0 "com/example/vestwright/vestwright/ParticipantRows$Rows" "to" "I" (.int p3)
set_option maxRecDepth 65536 in
set_option maxHeartbeats 40000000 in
theorem rm19 (l : Launch) (Z : State) (a0 : Array Value) (hw : ∀ d ∈ tables_1, d.before a0 Z = true) (ws : List Jvm.Cond) (o0 : Addr) (o1 : Addr) (p2 : Int32) (p3 : Int32) (h0 : Heap) (n0 : Nat) (Z0 : n0 ≤ h0.size) (E_o0 : Exa Z h0 o0 "com/example/vestwright/vestwright/ParticipantRows$Rows") (F_modCount_o0 : Fld Z h0 o0 "java/util/AbstractList" "modCount" "I" (.int (0 : Int32))) (F_this_0_o0 : Fld Z h0 o0 "com/example/vestwright/vestwright/ParticipantRows$Rows" "this$0" "Lcom/example/vestwright/vestwright/ParticipantRows;" .null) (F_from_o0 : Fld Z h0 o0 "com/example/vestwright/vestwright/ParticipantRows$Rows" "from" "I" (.int (0 : Int32))) (F_to_o0 : Fld Z h0 o0 "com/example/vestwright/vestwright/ParticipantRows$Rows" "to" "I" (.int (0 : Int32))) (F_row_o0 : Fld Z h0 o0 "com/example/vestwright/vestwright/ParticipantRows$Rows" "row" "Ljava/util/function/IntFunction;" .null) (g_o0 : n0 ≤ o0) :
    MetFree l (⟨"com/example/vestwright/vestwright/ParticipantRows$Rows", "<init>", "(Lcom/example/vestwright/vestwright/ParticipantRows;IILjava/util/function/IntFunction;)V"⟩ : MethodName) (head1 (Jvm.Cond.code (⟨"com/example/vestwright/vestwright/ParticipantRows$Rows", "<init>", "(Lcom/example/vestwright/vestwright/ParticipantRows;IILjava/util/function/IntFunction;)V"⟩ : MethodName) prog_19_method_1_code 5 none :: ws) ({ frames := 3, cells := 0, slots := 0, locals := 36 } : Room)) (fun a U => a = #[(.ref o0), (.ref o1), (.int p2), (.int p3), .null] ∧ Z.Warmed39 U.vm ∧ U.heap = h0) (fun _ _ _ _ _ => True) (fun _ U o U' => ∃ v L, o = .returned v ∧ Q19 Z o0 o1 p2 p3 h0 n0 v U'.heap L ∧ FrameEnd U o U' L ({ frames := 3, cells := 0, slots := 0, locals := 36 } : Room).cells ({ frames := 3, cells := 0, slots := 0, locals := 36 } : Room).slots) := by
  refine MetFree.of_bodySF (plainFor_of_name pn_com_example_vestwright_vestwright_ParticipantRows_Rows) hisR ?_
  intro p e s m args below meth c s₁ Bd hml0 hP hK
  obtain ⟨rfl, hZ, hh⟩ := hP
  have hx := Bd.exec
  have hby := Bd.bytes
  have hml : c.maxLocals = 5 := hml0
  have hown : s.vm.findClass "com/example/vestwright/vestwright/ParticipantRows$Rows" = some m.cls := findClass_of_methodNamed Bd.named
  have hnm := (name_of_methodNamed Bd.named Bd.method).1
  have X0 : Stand p l e ({ frames := 3, cells := 0, slots := 0, locals := 36 } : Room) s m #[(.ref o0), (.ref o1), (.int p2), (.int p3), .null] below meth c s₁ [] 0 0 := Stand.of_body Bd
  have e0 : s₁.heap = h0 := by rw [← hh, Bd.state]; rfl
  have N0 := Fr.nil n0
  have pre0 : ∀ t, Steps p.tables e below (s₁.setTop (mkF m 0 #[.val (.ref o0), .val (.ref o1), .val (.int p2), .val (.int p3), .val .null] [])) t → Steps p.tables e below (s₁.setTop (entryFrame m #[(.ref o0), (.ref o1), (.int p2), (.int p3), .null] 5)) t := fun t k => castTop (ef_19 m o0 o1 p2 p3) k
  obtain ⟨T1, h1, X1, e1, W1, st1⟩ := putF X0 hx hZ hown (host := "") (Or.inl (hw _ (List.mem_of_getElem? (i := 48) rfl))) Via.refl e0 F_this_0_o0 E_o0 (Or.inr ⟨(hw _ (List.mem_of_getElem? (i := 49) rfl)), rfl, hnm⟩) (hw _ (List.mem_of_getElem? (i := 43) rfl)) (ty := (.object "com/example/vestwright/vestwright/ParticipantRows")) (by decide) rfl rfl (g := (mkF m 2 #[.val (.ref o0), .val (.ref o1), .val (.int p2), .val (.int p3), .val .null] [(.ref o1), (.ref o0)])) rfl rfl (hb hby d19_2)
  have Fw1 : Fld Z h1 o0 "com/example/vestwright/vestwright/ParticipantRows$Rows" "this$0" "Lcom/example/vestwright/vestwright/ParticipantRows;" (.ref o1) := F_this_0_o0.same W1
  have J1 : Keep h0 h1 [o0] := (Keep.refl h0 [o0]).wr W1 (Or.inl (List.mem_of_getElem? (i := 0) rfl))
  have N1 := Fr.snoc X1 N0 g_o0
  have c2 : Exa Z h1 o0 "com/example/vestwright/vestwright/ParticipantRows$Rows" := (E_o0.wr W1)
  have c3 : Fld Z h1 o0 "java/util/AbstractList" "modCount" "I" (.int (0 : Int32)) := (F_modCount_o0.other W1 (Or.inr (slot_ne (Or.inl (hw _ (List.mem_of_getElem? (i := 63) rfl))) (Or.inr (hw _ (List.mem_of_getElem? (i := 49) rfl))) (by decide) (t := .int) (t' := (.object "com/example/vestwright/vestwright/ParticipantRows")) (by decide) (by decide))))
  have c4 : Fld Z h1 o0 "com/example/vestwright/vestwright/ParticipantRows$Rows" "from" "I" (.int (0 : Int32)) := (F_from_o0.other W1 (Or.inr (slot_ne (Or.inr (hw _ (List.mem_of_getElem? (i := 65) rfl))) (Or.inr (hw _ (List.mem_of_getElem? (i := 49) rfl))) (by decide) (t := .int) (t' := (.object "com/example/vestwright/vestwright/ParticipantRows")) (by decide) (by decide))))
  have c5 : Fld Z h1 o0 "com/example/vestwright/vestwright/ParticipantRows$Rows" "to" "I" (.int (0 : Int32)) := (F_to_o0.other W1 (Or.inr (slot_ne (Or.inr (hw _ (List.mem_of_getElem? (i := 67) rfl))) (Or.inr (hw _ (List.mem_of_getElem? (i := 49) rfl))) (by decide) (t := .int) (t' := (.object "com/example/vestwright/vestwright/ParticipantRows")) (by decide) (by decide))))
  have c6 : Fld Z h1 o0 "com/example/vestwright/vestwright/ParticipantRows$Rows" "row" "Ljava/util/function/IntFunction;" .null := (F_row_o0.other W1 (Or.inr (slot_ne (Or.inr (hw _ (List.mem_of_getElem? (i := 69) rfl))) (Or.inr (hw _ (List.mem_of_getElem? (i := 49) rfl))) (by decide) (t := (.object "java/util/function/IntFunction")) (t' := (.object "com/example/vestwright/vestwright/ParticipantRows")) (by decide) (by decide))))
  have z7 : n0 ≤ h1.size := (Nat.le_trans Z0 (Keep.of_wr W1).1)
  -- pc 6: AbstractList.<init> by rm39
  obtain ⟨_, _, ⟨T8, L8, k8, n8⟩, -, X8, ⟨Lc8, hQ8, l8, y8, z8'⟩, st8⟩ := X1.specialBack hx (y := (⟨"java/util/AbstractList", "<init>", "()V"⟩ : MethodName)) rfl hown (mvT hZ (hw _ (List.mem_of_getElem? (i := 50) rfl))) (mvT hZ (hw _ (List.mem_of_getElem? (i := 51) rfl))) (mvT hZ (hw _ (List.mem_of_getElem? (i := 54) rfl))) (by decide) (backOf (W := 0) (rm39 l Z a0 hw [] o0 h1 n0 z7 c2 c3 g_o0 c4 c5 c6) hZ (hw _ (List.mem_of_getElem? (i := 54) rfl)) (hw _ (List.mem_of_getElem? (i := 53) rfl)) (by decide) (by decide)) (g := (mkF m 6 #[.val (.ref o0), .val (.ref o1), .val (.int p2), .val (.int p3), .val .null] [(.ref o0)])) rfl (by rw [hml]; rfl) (Steps.refl _) (a := o0) (argsL := []) (rest := []) (lenOf pd_3 rfl) rfl (by show 2 * 0 + _ ≤ _; exact Nat.le_of_eq rfl) (hb hby d19_6) (fun _ _ => ⟨rfl, e1, (by decide : 0 + 0 ≤ _), (by decide : 0 + 0 ≤ _)⟩)
  dsimp only [Pt.U, Pt.locs, Pt.cells, Pt.slots] at X8 l8 y8 z8' st8 hQ8
  subst l8 y8 z8'
  obtain ⟨rfl, N8q, K8, r0_8, r1_8, r2_8, r3_8⟩ := hQ8
  have N8 := Fr.app N1 N8q
  have J8 : Keep h0 T8.heap [o0] := J1.trans K8 (allS (Or.inl (List.mem_of_getElem? (i := 0) rfl)) all0)
  have c9 : Exa Z T8.heap o0 "com/example/vestwright/vestwright/ParticipantRows$Rows" := (c2.keep K8)
  obtain ⟨T10, h10, X10, e10, W10, st10⟩ := putF X8 hx hZ hown (host := "") (Or.inl (hw _ (List.mem_of_getElem? (i := 64) rfl))) Via.refl rfl r1_8 c9 (Or.inr ⟨(hw _ (List.mem_of_getElem? (i := 65) rfl)), rfl, hnm⟩) (hw _ (List.mem_of_getElem? (i := 43) rfl)) (ty := .int) (by decide) rfl rfl (g := (mkF m 11 #[.val (.ref o0), .val (.ref o1), .val (.int p2), .val (.int p3), .val .null] [(.int p2), (.ref o0)])) rfl rfl (hb hby d19_11)
  have Fw10 : Fld Z h10 o0 "com/example/vestwright/vestwright/ParticipantRows$Rows" "from" "I" (.int p2) := r1_8.same W10
  have J10 : Keep h0 h10 [o0] := J8.wr W10 (Or.inl (List.mem_of_getElem? (i := 0) rfl))
  have N10 := Fr.snoc X10 N8 g_o0
  have c11 : Fld Z h10 o0 "com/example/vestwright/vestwright/ParticipantRows$Rows" "to" "I" (.int (0 : Int32)) := (r2_8.other W10 (Or.inr (slot_ne (Or.inr (hw _ (List.mem_of_getElem? (i := 67) rfl))) (Or.inr (hw _ (List.mem_of_getElem? (i := 65) rfl))) (by decide) (t := .int) (t' := .int) (by decide) (by decide))))
  have c12 : Exa Z h10 o0 "com/example/vestwright/vestwright/ParticipantRows$Rows" := (c9.wr W10)
  obtain ⟨T13, h13, X13, e13, W13, st13⟩ := putF X10 hx hZ hown (host := "") (Or.inl (hw _ (List.mem_of_getElem? (i := 66) rfl))) Via.refl e10 c11 c12 (Or.inr ⟨(hw _ (List.mem_of_getElem? (i := 67) rfl)), rfl, hnm⟩) (hw _ (List.mem_of_getElem? (i := 43) rfl)) (ty := .int) (by decide) rfl rfl (g := (mkF m 16 #[.val (.ref o0), .val (.ref o1), .val (.int p2), .val (.int p3), .val .null] [(.int p3), (.ref o0)])) rfl rfl (hb hby d19_16)
  have Fw13 : Fld Z h13 o0 "com/example/vestwright/vestwright/ParticipantRows$Rows" "to" "I" (.int p3) := c11.same W13
  have J13 : Keep h0 h13 [o0] := J10.wr W13 (Or.inl (List.mem_of_getElem? (i := 0) rfl))
  have N13 := Fr.snoc X13 N10 g_o0
  have c14 : Fld Z h13 o0 "com/example/vestwright/vestwright/ParticipantRows$Rows" "row" "Ljava/util/function/IntFunction;" .null := ((r3_8.other W10 (Or.inr (slot_ne (Or.inr (hw _ (List.mem_of_getElem? (i := 69) rfl))) (Or.inr (hw _ (List.mem_of_getElem? (i := 65) rfl))) (by decide) (t := (.object "java/util/function/IntFunction")) (t' := .int) (by decide) (by decide)))).other W13 (Or.inr (slot_ne (Or.inr (hw _ (List.mem_of_getElem? (i := 69) rfl))) (Or.inr (hw _ (List.mem_of_getElem? (i := 67) rfl))) (by decide) (t := (.object "java/util/function/IntFunction")) (t' := .int) (by decide) (by decide))))
  have c15 : Exa Z h13 o0 "com/example/vestwright/vestwright/ParticipantRows$Rows" := (c12.wr W13)
  obtain ⟨T16, h16, X16, e16, W16, st16⟩ := putF X13 hx hZ hown (host := "") (Or.inl (hw _ (List.mem_of_getElem? (i := 68) rfl))) Via.refl e13 c14 c15 (Or.inr ⟨(hw _ (List.mem_of_getElem? (i := 69) rfl)), rfl, hnm⟩) (hw _ (List.mem_of_getElem? (i := 43) rfl)) (ty := (.object "java/util/function/IntFunction")) (by decide) rfl rfl (g := (mkF m 22 #[.val (.ref o0), .val (.ref o1), .val (.int p2), .val (.int p3), .val .null] [.null, (.ref o0)])) rfl rfl (hb hby d19_22)
  have Fw16 : Fld Z h16 o0 "com/example/vestwright/vestwright/ParticipantRows$Rows" "row" "Ljava/util/function/IntFunction;" .null := c14.same W16
  have J16 : Keep h0 h16 [o0] := J13.wr W16 (Or.inl (List.mem_of_getElem? (i := 0) rfl))
  have N16 := Fr.snoc X16 N13 g_o0
  have c17 : Fld Z h16 o0 "com/example/vestwright/vestwright/ParticipantRows$Rows" "from" "I" (.int p2) := ((Fw10.other W13 (Or.inr (slot_ne (Or.inr (hw _ (List.mem_of_getElem? (i := 65) rfl))) (Or.inr (hw _ (List.mem_of_getElem? (i := 67) rfl))) (by decide) (t := .int) (t' := .int) (by decide) (by decide)))).other W16 (Or.inr (slot_ne (Or.inr (hw _ (List.mem_of_getElem? (i := 65) rfl))) (Or.inr (hw _ (List.mem_of_getElem? (i := 69) rfl))) (by decide) (t := .int) (t' := (.object "java/util/function/IntFunction")) (by decide) (by decide))))
  have c18 : Fld Z h16 o0 "com/example/vestwright/vestwright/ParticipantRows$Rows" "to" "I" (.int p3) := (Fw13.other W16 (Or.inr (slot_ne (Or.inr (hw _ (List.mem_of_getElem? (i := 67) rfl))) (Or.inr (hw _ (List.mem_of_getElem? (i := 69) rfl))) (by decide) (t := .int) (t' := (.object "java/util/function/IntFunction")) (by decide) (by decide))))
  obtain ⟨fs, hr, hrun, hended, hW, hsame⟩ := X16.leave (v := none) (fun _ => rfl)
  refine ⟨_, _, pre0 _ ?_, hrun, hended, _, _, rfl, ?_, ⟨_, rfl⟩, hW, hsame.mono (by decide) (by decide)⟩
  · show Steps p.tables e below (s₁.setTop (mkF m 0 #[.val (.ref o0), .val (.ref o1), .val (.int p2), .val (.int p3), .val .null] [])) _
    refine XS.aloadN X0.here hx rfl (hb hby d19_0) rfl rfl ?_
    show Steps p.tables e below (s₁.setTop (mkF m 1 #[.val (.ref o0), .val (.ref o1), .val (.int p2), .val (.int p3), .val .null] [(.ref o0)])) _
    refine XS.aloadN X0.here hx rfl (hb hby d19_1) rfl rfl ?_
    show Steps p.tables e below (s₁.setTop (mkF m 2 #[.val (.ref o0), .val (.ref o1), .val (.int p2), .val (.int p3), .val .null] [(.ref o1), (.ref o0)])) _
    refine st1 _ ?_
    show Steps p.tables e below (T1.setTop (mkF m 5 #[.val (.ref o0), .val (.ref o1), .val (.int p2), .val (.int p3), .val .null] [])) _
    refine XS.aloadN X1.here hx rfl (hb hby d19_5) rfl rfl ?_
    show Steps p.tables e below (T1.setTop (mkF m 6 #[.val (.ref o0), .val (.ref o1), .val (.int p2), .val (.int p3), .val .null] [(.ref o0)])) _
    refine st8.trans ?_
    show Steps p.tables e below (T8.setTop (mkF m 9 #[.val (.ref o0), .val (.ref o1), .val (.int p2), .val (.int p3), .val .null] [])) _
    refine XS.aloadN X8.here hx rfl (hb hby d19_9) rfl rfl ?_
    show Steps p.tables e below (T8.setTop (mkF m 10 #[.val (.ref o0), .val (.ref o1), .val (.int p2), .val (.int p3), .val .null] [(.ref o0)])) _
    refine XS.iloadN X8.here hx rfl (hb hby d19_10) rfl ?_
    show Steps p.tables e below (T8.setTop (mkF m 11 #[.val (.ref o0), .val (.ref o1), .val (.int p2), .val (.int p3), .val .null] [(.int p2), (.ref o0)])) _
    refine st10 _ ?_
    show Steps p.tables e below (T10.setTop (mkF m 14 #[.val (.ref o0), .val (.ref o1), .val (.int p2), .val (.int p3), .val .null] [])) _
    refine XS.aloadN X10.here hx rfl (hb hby d19_14) rfl rfl ?_
    show Steps p.tables e below (T10.setTop (mkF m 15 #[.val (.ref o0), .val (.ref o1), .val (.int p2), .val (.int p3), .val .null] [(.ref o0)])) _
    refine XS.iloadN X10.here hx rfl (hb hby d19_15) rfl ?_
    show Steps p.tables e below (T10.setTop (mkF m 16 #[.val (.ref o0), .val (.ref o1), .val (.int p2), .val (.int p3), .val .null] [(.int p3), (.ref o0)])) _
    refine st13 _ ?_
    show Steps p.tables e below (T13.setTop (mkF m 19 #[.val (.ref o0), .val (.ref o1), .val (.int p2), .val (.int p3), .val .null] [])) _
    refine XS.aloadN X13.here hx rfl (hb hby d19_19) rfl rfl ?_
    show Steps p.tables e below (T13.setTop (mkF m 20 #[.val (.ref o0), .val (.ref o1), .val (.int p2), .val (.int p3), .val .null] [(.ref o0)])) _
    refine XS.aload X13.here hx rfl (hb hby d19_20) rfl rfl ?_
    show Steps p.tables e below (T13.setTop (mkF m 22 #[.val (.ref o0), .val (.ref o1), .val (.int p2), .val (.int p3), .val .null] [.null, (.ref o0)])) _
    refine st16 _ ?_
    show Steps p.tables e below (T16.setTop (mkF m 25 #[.val (.ref o0), .val (.ref o1), .val (.int p2), .val (.int p3), .val .null] [])) _
    exact X16.returnOut hx Bd.returns (hb hby d19_25) hr
  · show Q19 Z o0 o1 p2 p3 h0 n0 _ T16.heap _
    rw [e16]
    exact ⟨rfl, N16, J16, c17, c18⟩
theorem d5_0 : decode prog_18_method_5_code 0 = .ok (.aload_n 0, 1) := by decide +kernel
theorem d5_1 : decode prog_18_method_5_code 1 = .ok (.getfield 16, 3) := by decide +kernel
theorem d5_4 : decode prog_18_method_5_code 4 = .ok (.ifnonnull 13, 3) := by decide +kernel
theorem d5_17 : decode prog_18_method_5_code 17 = .ok (.new 47, 3) := by decide +kernel
theorem d5_20 : decode prog_18_method_5_code 20 = .ok (.dup, 1) := by decide +kernel
theorem d5_21 : decode prog_18_method_5_code 21 = .ok (.aload_n 0, 1) := by decide +kernel
theorem d5_22 : decode prog_18_method_5_code 22 = .ok (.aload_n 0, 1) := by decide +kernel
theorem d5_23 : decode prog_18_method_5_code 23 = .ok (.getfield 16, 3) := by decide +kernel
theorem d5_26 : decode prog_18_method_5_code 26 = .ok (.iload_n 1, 1) := by decide +kernel
theorem d5_27 : decode prog_18_method_5_code 27 = .ok (.iaload, 1) := by decide +kernel
theorem d5_28 : decode prog_18_method_5_code 28 = .ok (.aload_n 0, 1) := by decide +kernel
theorem d5_29 : decode prog_18_method_5_code 29 = .ok (.getfield 16, 3) := by decide +kernel
theorem d5_32 : decode prog_18_method_5_code 32 = .ok (.iload_n 1, 1) := by decide +kernel
theorem d5_33 : decode prog_18_method_5_code 33 = .ok (.iconst 1, 1) := by decide +kernel
theorem d5_34 : decode prog_18_method_5_code 34 = .ok (.iadd, 1) := by decide +kernel
theorem d5_35 : decode prog_18_method_5_code 35 = .ok (.iaload, 1) := by decide +kernel
theorem d5_36 : decode prog_18_method_5_code 36 = .ok (.aload_n 2, 1) := by decide +kernel
theorem d5_37 : decode prog_18_method_5_code 37 = .ok (.invokespecial 49, 3) := by decide +kernel
theorem d5_40 : decode prog_18_method_5_code 40 = .ok (.areturn, 1) := by decide +kernel
theorem pd_4 : parseMethodDescriptor "(Lcom/example/vestwright/vestwright/ParticipantRows;IILjava/util/function/IntFunction;)V" = some ⟨[(.object "com/example/vestwright/vestwright/ParticipantRows"), .int, .int, (.object "java/util/function/IntFunction")], none⟩ := by decide +kernel
theorem ef_5 (m : MethodId) (o0 : Addr) (p1 : Int32) : entryFrame m #[(.ref o0), (.int p1), .null] 3 = mkF m 0 #[.val (.ref o0), .val (.int p1), .val .null] [] := by first | (simp [entryFrame, mkF, argsToLocals, Value.category]; done) | rfl
def Q5 (Z : State) (o0 : Addr) (p1 : Int32) (sa : Addr) (ks : ClassId) (vs : List Value) (w0 : Int32) (w1 : Int32) (h0 : Heap) (n0 : Nat) (v : Option Value) (h : Heap) (L : List Loc) : Prop := ∃ b : Addr, v = some (.ref b) ∧ Fr n0 L ∧ Keep h0 h [] ∧ h0.size ≤ b ∧ Exa Z h b "com/example/vestwright/vestwright/ParticipantRows$Rows" ∧ Fld Z h b "com/example/vestwright/vestwright/ParticipantRows$Rows" "from" "I" (.int w0) ∧ Fld Z h b "com/example/vestwright/vestwright/ParticipantRows$Rows" "to" "I" (.int w1)
set_option maxRecDepth 65536 in
set_option maxHeartbeats 40000000 in
theorem rm5 (l : Launch) (Z : State) (a0 : Array Value) (hw : ∀ d ∈ tables_1, d.before a0 Z = true) (ws : List Jvm.Cond) (o0 : Addr) (p1 : Int32) (sa : Addr) (ks : ClassId) (vs : List Value) (w0 : Int32) (w1 : Int32) (h0 : Heap) (n0 : Nat) (Z0 : n0 ≤ h0.size) (F_starts_o0 : Fld Z h0 o0 "com/example/vestwright/vestwright/ParticipantRows" "starts" "[I" (.ref sa)) (V_sa : Arv Z h0 sa ks .int (3 : Int32) vs (.int (0 : Int32))) (hi0 : ¬ p1 < 0 ∧ p1 < (3 : Int32)) (hi1 : ¬ (p1 + (1 : Int32)) < 0 ∧ (p1 + (1 : Int32)) < (3 : Int32)) (ha0 : vs.getD p1.toNatClampNeg (.int (0 : Int32)) = .int w0) (ha1 : vs.getD (p1 + (1 : Int32)).toNatClampNeg (.int (0 : Int32)) = .int w1) :
    MetFree l (⟨"com/example/vestwright/vestwright/ParticipantRows", "rowsOf", "(ILjava/util/function/IntFunction;)Ljava/util/List;"⟩ : MethodName) (head1 (Jvm.Cond.code (⟨"com/example/vestwright/vestwright/ParticipantRows", "rowsOf", "(ILjava/util/function/IntFunction;)Ljava/util/List;"⟩ : MethodName) prog_18_method_5_code 3 (some (.object "java/util/List")) :: ws) ({ frames := 4, cells := 1, slots := 5, locals := 53 } : Room)) (fun a U => a = #[(.ref o0), (.int p1), .null] ∧ Z.Warmed39 U.vm ∧ U.heap = h0) (fun _ _ _ _ _ => True) (fun _ U o U' => ∃ v L, o = .returned v ∧ Q5 Z o0 p1 sa ks vs w0 w1 h0 n0 v U'.heap L ∧ FrameEnd U o U' L ({ frames := 4, cells := 1, slots := 5, locals := 53 } : Room).cells ({ frames := 4, cells := 1, slots := 5, locals := 53 } : Room).slots) := by
  refine MetFree.of_bodySF (plainFor_of_name pn_com_example_vestwright_vestwright_ParticipantRows) hisR ?_
  intro p e s m args below meth c s₁ Bd hml0 hP hK
  obtain ⟨rfl, hZ, hh⟩ := hP
  have hx := Bd.exec
  have hby := Bd.bytes
  have hml : c.maxLocals = 3 := hml0
  have hown : s.vm.findClass "com/example/vestwright/vestwright/ParticipantRows" = some m.cls := findClass_of_methodNamed Bd.named
  have hnm := (name_of_methodNamed Bd.named Bd.method).1
  have X0 : Stand p l e ({ frames := 4, cells := 1, slots := 5, locals := 53 } : Room) s m #[(.ref o0), (.int p1), .null] below meth c s₁ [] 0 0 := Stand.of_body Bd
  have e0 : s₁.heap = h0 := by rw [← hh, Bd.state]; rfl
  have N0 := Fr.nil n0
  have pre0 : ∀ t, Steps p.tables e below (s₁.setTop (mkF m 0 #[.val (.ref o0), .val (.int p1), .val .null] [])) t → Steps p.tables e below (s₁.setTop (entryFrame m #[(.ref o0), (.int p1), .null] 3)) t := fun t k => castTop (ef_5 m o0 p1) k
  obtain ⟨T1, X1, e1, st1⟩ := getF X0 hx hZ hown (host := "") (Or.inl (hw _ (List.mem_of_getElem? (i := 33) rfl))) Via.refl e0 F_starts_o0 (g := (mkF m 1 #[.val (.ref o0), .val (.int p1), .val .null] [(.ref o0)])) rfl rfl (hb hby d5_1)
  obtain ⟨T2, h2, X2, e2, E2, A2, D2, U2, st2⟩ := newO X1 hx hZ hown (hw _ (List.mem_of_getElem? (i := 42) rfl)) (hw _ (List.mem_of_getElem? (i := 43) rfl)) (hw _ (List.mem_of_getElem? (i := 44) rfl)) e1 (g := (mkF m 17 #[.val (.ref o0), .val (.int p1), .val .null] [])) rfl (hb hby d5_17) (by decide) (by decide)
  obtain ⟨b2, g2⟩ : ∃ z, z = h0.size := ⟨_, rfl⟩
  rw [← g2] at A2 D2 U2 st2
  have g_b2 : n0 ≤ b2 := Nat.le_trans Z0 (Nat.le_of_eq g2.symm)
  have sz_b2 : h0.size ≤ b2 := Nat.le_trans (Keep.refl h0 []).1 (Nat.le_of_eq g2.symm)
  have ne3 : o0 ≠ b2 := Nat.ne_of_lt (Nat.lt_of_lt_of_le F_starts_o0.lt (Nat.le_of_eq g2.symm))
  have ne4 : sa ≠ b2 := Nat.ne_of_lt (Nat.lt_of_lt_of_le V_sa.lt (Nat.le_of_eq g2.symm))
  have F_this_0_b2 : Fld Z h2 b2 "com/example/vestwright/vestwright/ParticipantRows$Rows" "this$0" "Lcom/example/vestwright/vestwright/ParticipantRows;" .null := D2 (Or.inr (hw _ (List.mem_of_getElem? (i := 49) rfl))) (ty := (.object "com/example/vestwright/vestwright/ParticipantRows")) (by decide)
  have F_modCount_b2 : Fld Z h2 b2 "java/util/AbstractList" "modCount" "I" (.int (0 : Int32)) := D2 (Or.inl (hw _ (List.mem_of_getElem? (i := 63) rfl))) (ty := .int) (by decide)
  have F_from_b2 : Fld Z h2 b2 "com/example/vestwright/vestwright/ParticipantRows$Rows" "from" "I" (.int (0 : Int32)) := D2 (Or.inr (hw _ (List.mem_of_getElem? (i := 65) rfl))) (ty := .int) (by decide)
  have F_to_b2 : Fld Z h2 b2 "com/example/vestwright/vestwright/ParticipantRows$Rows" "to" "I" (.int (0 : Int32)) := D2 (Or.inr (hw _ (List.mem_of_getElem? (i := 67) rfl))) (ty := .int) (by decide)
  have F_row_b2 : Fld Z h2 b2 "com/example/vestwright/vestwright/ParticipantRows$Rows" "row" "Ljava/util/function/IntFunction;" .null := D2 (Or.inr (hw _ (List.mem_of_getElem? (i := 69) rfl))) (ty := (.object "java/util/function/IntFunction")) (by decide)
  have J2 : Keep h0 h2 [] := (Keep.refl h0 []).ext E2
  have c5 : Fld Z h2 o0 "com/example/vestwright/vestwright/ParticipantRows" "starts" "[I" (.ref sa) := (F_starts_o0.ext E2)
  obtain ⟨T6, X6, e6, st6⟩ := getF X2 hx hZ hown (host := "") (Or.inl (hw _ (List.mem_of_getElem? (i := 33) rfl))) Via.refl e2 c5 (g := (mkF m 23 #[.val (.ref o0), .val (.int p1), .val .null] [(.ref o0), (.ref o0), (.ref b2), (.ref b2)])) rfl rfl (hb hby d5_23)
  have c7 : Arv Z h2 sa ks .int (3 : Int32) vs (.int (0 : Int32)) := (V_sa.ext E2)
  obtain ⟨cl8, Ar8, -, Sz8, Nn8, Hs8, -⟩ := id c7
  have hin8 : ¬ (p1 < 0 ∨ cl8.slots.size ≤ (p1).toNatClampNeg) := inb_of Sz8 hi0
  have hat8 : cl8.slots[(p1).toNatClampNeg]? = some (.int w0) := Hs8.at hin8 ha0
  obtain ⟨T9, X9, e9, st9⟩ := getF X6 hx hZ hown (host := "") (Or.inl (hw _ (List.mem_of_getElem? (i := 33) rfl))) Via.refl e6 c5 (g := (mkF m 29 #[.val (.ref o0), .val (.int p1), .val .null] [(.ref o0), (.int w0), (.ref o0), (.ref b2), (.ref b2)])) rfl rfl (hb hby d5_29)
  obtain ⟨cl10, Ar10, -, Sz10, Nn10, Hs10, -⟩ := id c7
  have hin10 : ¬ ((p1 + (1 : Int32)) < 0 ∨ cl10.slots.size ≤ ((p1 + (1 : Int32))).toNatClampNeg) := inb_of Sz10 hi1
  have hat10 : cl10.slots[((p1 + (1 : Int32))).toNatClampNeg]? = some (.int w1) := Hs10.at hin10 ha1
  have z11 : n0 ≤ h2.size := (Nat.le_trans Z0 E2.1)
  -- pc 37: ParticipantRows$Rows.<init> by rm19
  obtain ⟨_, _, ⟨T12, L12, k12, n12⟩, -, X12, ⟨Lc12, hQ12, l12, y12, z12'⟩, st12⟩ := own_specialBackR X9 hx (y := (⟨"com/example/vestwright/vestwright/ParticipantRows$Rows", "<init>", "(Lcom/example/vestwright/vestwright/ParticipantRows;IILjava/util/function/IntFunction;)V"⟩ : MethodName)) rfl hown (own_mvRef hZ (hw _ (List.mem_of_getElem? (i := 45) rfl)) (hw _ (List.mem_of_getElem? (i := 46) rfl)) (by decide)) (mvT hZ (hw _ (List.mem_of_getElem? (i := 46) rfl))) (mvT hZ (hw _ (List.mem_of_getElem? (i := 47) rfl))) (by decide) (backOf (W := 1) (rm19 l Z a0 hw [] b2 o0 w0 w1 h2 n0 z11 A2 F_modCount_b2 F_this_0_b2 F_from_b2 F_to_b2 F_row_b2 g_b2) hZ (hw _ (List.mem_of_getElem? (i := 47) rfl)) (hw _ (List.mem_of_getElem? (i := 44) rfl)) (by decide) (by decide)) (g := (mkF m 37 #[.val (.ref o0), .val (.int p1), .val .null] [.null, (.int w1), (.int w0), (.ref o0), (.ref b2), (.ref b2)])) rfl (by rw [hml]; rfl) (Steps.refl _) (a := b2) (argsL := [(.ref o0), (.int w0), (.int w1), .null]) (rest := [(.ref b2)]) (lenOf pd_4 rfl) rfl (by show 2 * 0 + _ ≤ _; exact Nat.le_of_eq rfl) (hb hby d5_37) (fun _ _ => ⟨rfl, e9, (by decide : 1 + 0 ≤ _), (by decide : 5 + 0 ≤ _)⟩)
  dsimp only [Pt.U, Pt.locs, Pt.cells, Pt.slots] at X12 l12 y12 z12' st12 hQ12
  subst l12 y12 z12'
  obtain ⟨rfl, N12q, K12, r0_12, r1_12⟩ := hQ12
  have N12 := Fr.app N0 N12q
  have J12 : Keep h0 T12.heap [] := J2.trans K12 (allS (Or.inr sz_b2) all0)
  have c13 : Exa Z T12.heap b2 "com/example/vestwright/vestwright/ParticipantRows$Rows" := (A2.keep K12)
  obtain ⟨fs, hr, hrun, hended, hW, hsame⟩ := X12.leave (v := some (.ref b2)) (fun h => by rw [Bd.returns] at h; cases h)
  refine ⟨_, _, pre0 _ ?_, hrun, hended, _, _, rfl, ?_, ⟨_, rfl⟩, hW, hsame.mono (by decide) (by decide)⟩
  · show Steps p.tables e below (s₁.setTop (mkF m 0 #[.val (.ref o0), .val (.int p1), .val .null] [])) _
    refine XS.aloadN X0.here hx rfl (hb hby d5_0) rfl rfl ?_
    show Steps p.tables e below (s₁.setTop (mkF m 1 #[.val (.ref o0), .val (.int p1), .val .null] [(.ref o0)])) _
    refine st1 _ ?_
    show Steps p.tables e below (T1.setTop (mkF m 4 #[.val (.ref o0), .val (.int p1), .val .null] [(.ref sa)])) _
    refine XS.ifnonnullYes X1.here hx rfl (pc0 := 4) (pc' := 17) rfl (hb hby d5_4) rfl (by decide) (by decide) ?_
    show Steps p.tables e below (T1.setTop (mkF m 17 #[.val (.ref o0), .val (.int p1), .val .null] [])) _
    refine st2 _ ?_
    show Steps p.tables e below (T2.setTop (mkF m 20 #[.val (.ref o0), .val (.int p1), .val .null] [(.ref b2)])) _
    refine XS.dup X2.here hx rfl (hb hby d5_20) rfl rfl ?_
    show Steps p.tables e below (T2.setTop (mkF m 21 #[.val (.ref o0), .val (.int p1), .val .null] [(.ref b2), (.ref b2)])) _
    refine XS.aloadN X2.here hx rfl (hb hby d5_21) rfl rfl ?_
    show Steps p.tables e below (T2.setTop (mkF m 22 #[.val (.ref o0), .val (.int p1), .val .null] [(.ref o0), (.ref b2), (.ref b2)])) _
    refine XS.aloadN X2.here hx rfl (hb hby d5_22) rfl rfl ?_
    show Steps p.tables e below (T2.setTop (mkF m 23 #[.val (.ref o0), .val (.int p1), .val .null] [(.ref o0), (.ref o0), (.ref b2), (.ref b2)])) _
    refine st6 _ ?_
    show Steps p.tables e below (T6.setTop (mkF m 26 #[.val (.ref o0), .val (.int p1), .val .null] [(.ref sa), (.ref o0), (.ref b2), (.ref b2)])) _
    refine XS.iloadN X6.here hx rfl (hb hby d5_26) rfl ?_
    show Steps p.tables e below (T6.setTop (mkF m 27 #[.val (.ref o0), .val (.int p1), .val .null] [(.int p1), (.ref sa), (.ref o0), (.ref b2), (.ref b2)])) _
    refine X6.iaload hx (j := p1) (v := (.int w0)) (by rw [e6]; exact Ar8.1) (State.isArrayOf_alike hZ.alike Ar8.2.1) Ar8.2.2 hin8 hat8 (g := (mkF m 27 #[.val (.ref o0), .val (.int p1), .val .null] [(.int p1), (.ref sa), (.ref o0), (.ref b2), (.ref b2)])) rfl rfl (hb hby d5_27) _ ?_
    show Steps p.tables e below (T6.setTop (mkF m 28 #[.val (.ref o0), .val (.int p1), .val .null] [(.int w0), (.ref o0), (.ref b2), (.ref b2)])) _
    refine XS.aloadN X6.here hx rfl (hb hby d5_28) rfl rfl ?_
    show Steps p.tables e below (T6.setTop (mkF m 29 #[.val (.ref o0), .val (.int p1), .val .null] [(.ref o0), (.int w0), (.ref o0), (.ref b2), (.ref b2)])) _
    refine st9 _ ?_
    show Steps p.tables e below (T9.setTop (mkF m 32 #[.val (.ref o0), .val (.int p1), .val .null] [(.ref sa), (.int w0), (.ref o0), (.ref b2), (.ref b2)])) _
    refine XS.iloadN X9.here hx rfl (hb hby d5_32) rfl ?_
    show Steps p.tables e below (T9.setTop (mkF m 33 #[.val (.ref o0), .val (.int p1), .val .null] [(.int p1), (.ref sa), (.int w0), (.ref o0), (.ref b2), (.ref b2)])) _
    refine XS.iconst X9.here hx rfl (hb hby d5_33) ?_
    show Steps p.tables e below (T9.setTop (mkF m 34 #[.val (.ref o0), .val (.int p1), .val .null] [(.int (1 : Int32)), (.int p1), (.ref sa), (.int w0), (.ref o0), (.ref b2), (.ref b2)])) _
    refine XS.iadd X9.here hx rfl (hb hby d5_34) rfl ?_
    show Steps p.tables e below (T9.setTop (mkF m 35 #[.val (.ref o0), .val (.int p1), .val .null] [(.int (p1 + (1 : Int32))), (.ref sa), (.int w0), (.ref o0), (.ref b2), (.ref b2)])) _
    refine X9.iaload hx (j := (p1 + (1 : Int32))) (v := (.int w1)) (by rw [e9]; exact Ar10.1) (State.isArrayOf_alike hZ.alike Ar10.2.1) Ar10.2.2 hin10 hat10 (g := (mkF m 35 #[.val (.ref o0), .val (.int p1), .val .null] [(.int (p1 + (1 : Int32))), (.ref sa), (.int w0), (.ref o0), (.ref b2), (.ref b2)])) rfl rfl (hb hby d5_35) _ ?_
    show Steps p.tables e below (T9.setTop (mkF m 36 #[.val (.ref o0), .val (.int p1), .val .null] [(.int w1), (.int w0), (.ref o0), (.ref b2), (.ref b2)])) _
    refine XS.aloadN X9.here hx rfl (hb hby d5_36) rfl rfl ?_
    show Steps p.tables e below (T9.setTop (mkF m 37 #[.val (.ref o0), .val (.int p1), .val .null] [.null, (.int w1), (.int w0), (.ref o0), (.ref b2), (.ref b2)])) _
    refine st12.trans ?_
    show Steps p.tables e below (T12.setTop (mkF m 40 #[.val (.ref o0), .val (.int p1), .val .null] [(.ref b2)])) _
    jvm_step X12.here [X12.here.top, hx, (hb hby d5_40), X12.method', Bd.returns, Value.isRef, FieldType.isReference]
    first | (intro acts; rw [hr _ acts rfl rfl rfl]) | rw [hr _ _ rfl rfl rfl]
    exact Steps.refl _
  · show Q5 Z o0 p1 sa ks vs w0 w1 h0 n0 _ T12.heap _
    exact ⟨b2, rfl, N12, J12, sz_b2, c13, r0_12, r1_12⟩
theorem d193_0 : decode prog_19_method_3_code 0 = .ok (.aload_n 0, 1) := by decide +kernel
theorem d193_1 : decode prog_19_method_3_code 1 = .ok (.getfield 17, 3) := by decide +kernel
theorem d193_4 : decode prog_19_method_3_code 4 = .ok (.aload_n 0, 1) := by decide +kernel
theorem d193_5 : decode prog_19_method_3_code 5 = .ok (.getfield 13, 3) := by decide +kernel
theorem d193_8 : decode prog_19_method_3_code 8 = .ok (.isub, 1) := by decide +kernel
theorem d193_9 : decode prog_19_method_3_code 9 = .ok (.ireturn, 1) := by decide +kernel
theorem ef_193 (m : MethodId) (o0 : Addr) : entryFrame m #[(.ref o0)] 1 = mkF m 0 #[.val (.ref o0)] [] := by first | (simp [entryFrame, mkF, argsToLocals, Value.category]; done) | rfl
def Q193 (Z : State) (o0 : Addr) (fm : Int32) (tt : Int32) (h0 : Heap) (n0 : Nat) (v : Option Value) (h : Heap) (L : List Loc) : Prop := v = some (.int (tt - fm)) ∧ Fr n0 L ∧ Keep h0 h []
set_option maxRecDepth 65536 in
set_option maxHeartbeats 40000000 in
theorem rm193 (l : Launch) (Z : State) (a0 : Array Value) (hw : ∀ d ∈ tables_1, d.before a0 Z = true) (ws : List Jvm.Cond) (o0 : Addr) (fm : Int32) (tt : Int32) (h0 : Heap) (n0 : Nat) (Z0 : n0 ≤ h0.size) (F_from_o0 : Fld Z h0 o0 "com/example/vestwright/vestwright/ParticipantRows$Rows" "from" "I" (.int fm)) (F_to_o0 : Fld Z h0 o0 "com/example/vestwright/vestwright/ParticipantRows$Rows" "to" "I" (.int tt)) :
    MetFree l (⟨"com/example/vestwright/vestwright/ParticipantRows$Rows", "size", "()I"⟩ : MethodName) (head1 (Jvm.Cond.code (⟨"com/example/vestwright/vestwright/ParticipantRows$Rows", "size", "()I"⟩ : MethodName) prog_19_method_3_code 1 (some .int) :: ws) ({ frames := 0, cells := 0, slots := 0, locals := 0 } : Room)) (fun a U => a = #[(.ref o0)] ∧ Z.Warmed39 U.vm ∧ U.heap = h0) (fun _ _ _ _ _ => True) (fun _ U o U' => ∃ v L, o = .returned v ∧ Q193 Z o0 fm tt h0 n0 v U'.heap L ∧ FrameEnd U o U' L ({ frames := 0, cells := 0, slots := 0, locals := 0 } : Room).cells ({ frames := 0, cells := 0, slots := 0, locals := 0 } : Room).slots) := by
  refine MetFree.of_bodySF (plainFor_of_name pn_com_example_vestwright_vestwright_ParticipantRows_Rows) hisR ?_
  intro p e s m args below meth c s₁ Bd hml0 hP hK
  obtain ⟨rfl, hZ, hh⟩ := hP
  have hx := Bd.exec
  have hby := Bd.bytes
  have hml : c.maxLocals = 1 := hml0
  have hown : s.vm.findClass "com/example/vestwright/vestwright/ParticipantRows$Rows" = some m.cls := findClass_of_methodNamed Bd.named
  have hnm := (name_of_methodNamed Bd.named Bd.method).1
  have X0 : Stand p l e ({ frames := 0, cells := 0, slots := 0, locals := 0 } : Room) s m #[(.ref o0)] below meth c s₁ [] 0 0 := Stand.of_body Bd
  have e0 : s₁.heap = h0 := by rw [← hh, Bd.state]; rfl
  have N0 := Fr.nil n0
  have pre0 : ∀ t, Steps p.tables e below (s₁.setTop (mkF m 0 #[.val (.ref o0)] [])) t → Steps p.tables e below (s₁.setTop (entryFrame m #[(.ref o0)] 1)) t := fun t k => castTop (ef_193 m o0) k
  obtain ⟨T1, X1, e1, st1⟩ := getF X0 hx hZ hown (host := "") (Or.inl (hw _ (List.mem_of_getElem? (i := 66) rfl))) Via.refl e0 F_to_o0 (g := (mkF m 1 #[.val (.ref o0)] [(.ref o0)])) rfl rfl (hb hby d193_1)
  obtain ⟨T2, X2, e2, st2⟩ := getF X1 hx hZ hown (host := "") (Or.inl (hw _ (List.mem_of_getElem? (i := 64) rfl))) Via.refl e1 F_from_o0 (g := (mkF m 5 #[.val (.ref o0)] [(.ref o0), (.int tt)])) rfl rfl (hb hby d193_5)
  obtain ⟨fs, hr, hrun, hended, hW, hsame⟩ := X2.leave (v := some (.int (tt - fm))) (fun h => by rw [Bd.returns] at h; cases h)
  refine ⟨_, _, pre0 _ ?_, hrun, hended, _, _, rfl, ?_, ⟨_, rfl⟩, hW, hsame.mono (by decide) (by decide)⟩
  · show Steps p.tables e below (s₁.setTop (mkF m 0 #[.val (.ref o0)] [])) _
    refine XS.aloadN X0.here hx rfl (hb hby d193_0) rfl rfl ?_
    show Steps p.tables e below (s₁.setTop (mkF m 1 #[.val (.ref o0)] [(.ref o0)])) _
    refine st1 _ ?_
    show Steps p.tables e below (T1.setTop (mkF m 4 #[.val (.ref o0)] [(.int tt)])) _
    refine XS.aloadN X1.here hx rfl (hb hby d193_4) rfl rfl ?_
    show Steps p.tables e below (T1.setTop (mkF m 5 #[.val (.ref o0)] [(.ref o0), (.int tt)])) _
    refine st2 _ ?_
    show Steps p.tables e below (T2.setTop (mkF m 8 #[.val (.ref o0)] [(.int fm), (.int tt)])) _
    refine XS.isub X2.here hx rfl (hb hby d193_8) rfl ?_
    show Steps p.tables e below (T2.setTop (mkF m 9 #[.val (.ref o0)] [(.int (tt - fm))])) _
    exact retI X2 hx Bd.returns (hb hby d193_9) hr
  · show Q193 Z o0 fm tt h0 n0 _ T2.heap _
    rw [e2]
    exact ⟨rfl, N0, (Keep.refl h0 [])⟩
theorem own_zz0 {ac0 ac1 ac2 : Nat} : (((Int32.ofNat (own_zc (own_f ac0 ac1 ac2) 0)) + (0 : Int32)) - (0 : Int32)) = (0 : Int32) := by
  simp [own_zc, own_oc]
theorem own_oo0 {ac0 ac1 ac2 : Nat} : (((Int32.ofNat (own_oc (own_f ac0 ac1 ac2) 0)) + ((Int32.ofNat (own_zc (own_f ac0 ac1 ac2) 0)) + (0 : Int32))) - ((Int32.ofNat (own_zc (own_f ac0 ac1 ac2) 0)) + (0 : Int32))) = (0 : Int32) := by
  simp [own_zc, own_oc]
theorem own_zz1 {ac0 ac1 ac2 : Nat} {p0 : Int32} {z0 o0 : Int32} (h0 : ac0 < 2) (q0 : p0 = Int32.ofNat ac0) (e0 : z0 = (if p0 = (0 : Int32) then (1 : Int32) else (0 : Int32))) (g0 : o0 = (if p0 = (0 : Int32) then (0 : Int32) else (1 : Int32))) : (((Int32.ofNat (own_zc (own_f ac0 ac1 ac2) 1)) + (0 : Int32)) - (0 : Int32)) = z0 := by
  subst q0
  subst e0
  subst g0
  rcases own_bit2 h0 with rfl | rfl <;> simp [own_zc, own_oc, own_f] <;> decide
theorem own_oo1 {ac0 ac1 ac2 : Nat} {p0 : Int32} {z0 o0 : Int32} (h0 : ac0 < 2) (q0 : p0 = Int32.ofNat ac0) (e0 : z0 = (if p0 = (0 : Int32) then (1 : Int32) else (0 : Int32))) (g0 : o0 = (if p0 = (0 : Int32) then (0 : Int32) else (1 : Int32))) : (((Int32.ofNat (own_oc (own_f ac0 ac1 ac2) 1)) + ((Int32.ofNat (own_zc (own_f ac0 ac1 ac2) 1)) + (0 : Int32))) - ((Int32.ofNat (own_zc (own_f ac0 ac1 ac2) 1)) + (0 : Int32))) = o0 := by
  subst q0
  subst e0
  subst g0
  rcases own_bit2 h0 with rfl | rfl <;> simp [own_zc, own_oc, own_f] <;> decide
theorem own_zz2 {ac0 ac1 ac2 : Nat} {p0 : Int32} {p1 : Int32} {z0 o0 : Int32} {z1 o1 : Int32} (h0 : ac0 < 2) (h1 : ac1 < 2) (q0 : p0 = Int32.ofNat ac0) (e0 : z0 = (if p0 = (0 : Int32) then (1 : Int32) else (0 : Int32))) (g0 : o0 = (if p0 = (0 : Int32) then (0 : Int32) else (1 : Int32))) (q1 : p1 = Int32.ofNat ac1) (e1 : z1 = (if p1 = (0 : Int32) then (z0 + (1 : Int32)) else z0)) (g1 : o1 = (if p1 = (0 : Int32) then o0 else (o0 + (1 : Int32)))) : (((Int32.ofNat (own_zc (own_f ac0 ac1 ac2) 2)) + (0 : Int32)) - (0 : Int32)) = z1 := by
  subst q0
  subst q1
  subst e0
  subst g0
  subst e1
  subst g1
  rcases own_bit2 h0 with rfl | rfl <;> rcases own_bit2 h1 with rfl | rfl <;> simp [own_zc, own_oc, own_f] <;> decide
theorem own_oo2 {ac0 ac1 ac2 : Nat} {p0 : Int32} {p1 : Int32} {z0 o0 : Int32} {z1 o1 : Int32} (h0 : ac0 < 2) (h1 : ac1 < 2) (q0 : p0 = Int32.ofNat ac0) (e0 : z0 = (if p0 = (0 : Int32) then (1 : Int32) else (0 : Int32))) (g0 : o0 = (if p0 = (0 : Int32) then (0 : Int32) else (1 : Int32))) (q1 : p1 = Int32.ofNat ac1) (e1 : z1 = (if p1 = (0 : Int32) then (z0 + (1 : Int32)) else z0)) (g1 : o1 = (if p1 = (0 : Int32) then o0 else (o0 + (1 : Int32)))) : (((Int32.ofNat (own_oc (own_f ac0 ac1 ac2) 2)) + ((Int32.ofNat (own_zc (own_f ac0 ac1 ac2) 2)) + (0 : Int32))) - ((Int32.ofNat (own_zc (own_f ac0 ac1 ac2) 2)) + (0 : Int32))) = o1 := by
  subst q0
  subst q1
  subst e0
  subst g0
  subst e1
  subst g1
  rcases own_bit2 h0 with rfl | rfl <;> rcases own_bit2 h1 with rfl | rfl <;> simp [own_zc, own_oc, own_f] <;> decide
theorem own_zz3 {ac0 ac1 ac2 : Nat} {p0 : Int32} {p1 : Int32} {p2 : Int32} {z0 o0 : Int32} {z1 o1 : Int32} {z2 o2 : Int32} (h0 : ac0 < 2) (h1 : ac1 < 2) (h2 : ac2 < 2) (q0 : p0 = Int32.ofNat ac0) (e0 : z0 = (if p0 = (0 : Int32) then (1 : Int32) else (0 : Int32))) (g0 : o0 = (if p0 = (0 : Int32) then (0 : Int32) else (1 : Int32))) (q1 : p1 = Int32.ofNat ac1) (e1 : z1 = (if p1 = (0 : Int32) then (z0 + (1 : Int32)) else z0)) (g1 : o1 = (if p1 = (0 : Int32) then o0 else (o0 + (1 : Int32)))) (q2 : p2 = Int32.ofNat ac2) (e2 : z2 = (if p2 = (0 : Int32) then (z1 + (1 : Int32)) else z1)) (g2 : o2 = (if p2 = (0 : Int32) then o1 else (o1 + (1 : Int32)))) : (((Int32.ofNat (own_zc (own_f ac0 ac1 ac2) 3)) + (0 : Int32)) - (0 : Int32)) = z2 := by
  subst q0
  subst q1
  subst q2
  subst e0
  subst g0
  subst e1
  subst g1
  subst e2
  subst g2
  rcases own_bit2 h0 with rfl | rfl <;> rcases own_bit2 h1 with rfl | rfl <;> rcases own_bit2 h2 with rfl | rfl <;> simp [own_zc, own_oc, own_f] <;> decide
theorem own_oo3 {ac0 ac1 ac2 : Nat} {p0 : Int32} {p1 : Int32} {p2 : Int32} {z0 o0 : Int32} {z1 o1 : Int32} {z2 o2 : Int32} (h0 : ac0 < 2) (h1 : ac1 < 2) (h2 : ac2 < 2) (q0 : p0 = Int32.ofNat ac0) (e0 : z0 = (if p0 = (0 : Int32) then (1 : Int32) else (0 : Int32))) (g0 : o0 = (if p0 = (0 : Int32) then (0 : Int32) else (1 : Int32))) (q1 : p1 = Int32.ofNat ac1) (e1 : z1 = (if p1 = (0 : Int32) then (z0 + (1 : Int32)) else z0)) (g1 : o1 = (if p1 = (0 : Int32) then o0 else (o0 + (1 : Int32)))) (q2 : p2 = Int32.ofNat ac2) (e2 : z2 = (if p2 = (0 : Int32) then (z1 + (1 : Int32)) else z1)) (g2 : o2 = (if p2 = (0 : Int32) then o1 else (o1 + (1 : Int32)))) : (((Int32.ofNat (own_oc (own_f ac0 ac1 ac2) 3)) + ((Int32.ofNat (own_zc (own_f ac0 ac1 ac2) 3)) + (0 : Int32))) - ((Int32.ofNat (own_zc (own_f ac0 ac1 ac2) 3)) + (0 : Int32))) = o2 := by
  subst q0
  subst q1
  subst q2
  subst e0
  subst g0
  subst e1
  subst g1
  subst e2
  subst g2
  rcases own_bit2 h0 with rfl | rfl <;> rcases own_bit2 h1 with rfl | rfl <;> rcases own_bit2 h2 with rfl | rfl <;> simp [own_zc, own_oc, own_f] <;> decide
theorem pn_com_example_vestwright_vestwright_ParticipantRowsAddPinLaw : plainName "com/example/vestwright/vestwright/ParticipantRowsAddPinLaw" = true := by first | (simp [plainName, overriddenIn]; done) | decide +kernel
theorem pd_5 : parseMethodDescriptor "(I)V" = some ⟨[.int], none⟩ := by decide +kernel
theorem pd_6 : parseMethodDescriptor "(ILjava/util/function/IntFunction;)Ljava/util/List;" = some ⟨[.int, (.object "java/util/function/IntFunction")], some (.object "java/util/List")⟩ := by decide +kernel
theorem pd_7 : parseMethodDescriptor "()I" = some ⟨[], some .int⟩ := by decide +kernel
theorem pd_8 : parseMethodDescriptor "(IJ)I" = some ⟨[.int, .long], some .int⟩ := by decide +kernel
theorem pd_9 : parseMethodDescriptor "(I)J" = some ⟨[.int], some .long⟩ := by decide +kernel
theorem ef_0 (m : MethodId) (p0 : Int32) (q1 : Int64) (q2 : Int64) (q3 : Int64) : entryFrame m #[(.int p0), (.long q1), (.long q2), (.long q3)] maxLocals = mkF m 0 #[.val (.int p0), .val (.long q1), .second, .val (.long q2), .second, .val (.long q3), .second, .unset, .unset, .unset, .unset, .unset, .unset, .unset, .unset, .unset, .unset, .unset, .unset, .unset, .unset] [] := by first | (simp [entryFrame, mkF, argsToLocals, Value.category, maxLocals]; done) | rfl
def Q0 (Z : State) (p0 : Int32) (q1 : Int64) (q2 : Int64) (q3 : Int64) (h0 : Heap) (n0 : Nat) (v : Option Value) (h : Heap) (L : List Loc) : Prop := v = some (.int (1 : Int32)) ∧ Fr n0 L
set_option maxRecDepth 65536 in
set_option maxHeartbeats 40000000 in
theorem rm0 (l : Launch) (Z : State) (a0 : Array Value) (hw : ∀ d ∈ tables_1, d.before a0 Z = true) (ws : List Jvm.Cond) (p0 : Int32) (q1 : Int64) (q2 : Int64) (q3 : Int64) (h0 : Heap) (n0 : Nat) (Z0 : n0 ≤ h0.size) :
    MetFree l x (head1 (Jvm.Cond.code x code maxLocals ret :: ws) room_1) (fun a U => a = #[(.int p0), (.long q1), (.long q2), (.long q3)] ∧ Z.Warmed39 U.vm ∧ U.heap = h0) (fun _ _ _ _ _ => True) (fun _ U o U' => ∃ v L, o = .returned v ∧ Q0 Z p0 q1 q2 q3 h0 n0 v U'.heap L ∧ FrameEnd U o U' L room_1.cells room_1.slots) := by
  refine MetFree.of_bodySF (plainFor_of_name pn_com_example_vestwright_vestwright_ParticipantRowsAddPinLaw) hisR ?_
  intro p e s m args below meth c s₁ Bd hml0 hP hK
  obtain ⟨rfl, hZ, hh⟩ := hP
  have hx := Bd.exec
  have hby := Bd.bytes
  have hml : c.maxLocals = 21 := hml0
  have hown : s.vm.findClass "com/example/vestwright/vestwright/ParticipantRowsAddPinLaw" = some m.cls := findClass_of_methodNamed Bd.named
  have hnm := (name_of_methodNamed Bd.named Bd.method).1
  have X0 : Stand p l e room_1 s m #[(.int p0), (.long q1), (.long q2), (.long q3)] below meth c s₁ [] 0 0 := Stand.of_body Bd
  have e0 : s₁.heap = h0 := by rw [← hh, Bd.state]; rfl
  have N0 := Fr.nil n0
  have pre0 : ∀ t, Steps p.tables e below (s₁.setTop (mkF m 0 #[.val (.int p0), .val (.long q1), .second, .val (.long q2), .second, .val (.long q3), .second, .unset, .unset, .unset, .unset, .unset, .unset, .unset, .unset, .unset, .unset, .unset, .unset, .unset, .unset] [])) t → Steps p.tables e below (s₁.setTop (entryFrame m #[(.int p0), (.long q1), (.long q2), (.long q3)] maxLocals)) t := fun t k => castTop (ef_0 m p0 q1 q2 q3) k
  obtain ⟨nn, e_nn⟩ : ∃ z : Int32, z = (p0 &&& (3 : Int32)) := ⟨_, rfl⟩
  obtain ⟨pp0, e_pp0⟩ : ∃ z : Int32, z = (((p0.toUInt32 >>> ((2 : Int32) &&& 31).toUInt32).toInt32) &&& (1 : Int32)) := ⟨_, rfl⟩
  obtain ⟨ac0, hac0, hpp0⟩ := own_bit e_pp0
  obtain ⟨pp1, e_pp1⟩ : ∃ z : Int32, z = (((p0.toUInt32 >>> ((3 : Int32) &&& 31).toUInt32).toInt32) &&& (1 : Int32)) := ⟨_, rfl⟩
  obtain ⟨ac1, hac1, hpp1⟩ := own_bit e_pp1
  obtain ⟨pp2, e_pp2⟩ : ∃ z : Int32, z = (((p0.toUInt32 >>> ((4 : Int32) &&& 31).toUInt32).toInt32) &&& (1 : Int32)) := ⟨_, rfl⟩
  obtain ⟨ac2, hac2, hpp2⟩ := own_bit e_pp2
  obtain ⟨vv0, e_vv0⟩ : ∃ z : Int64, z = ((q1.toInt32).toInt64) := ⟨_, rfl⟩
  have h_vv0 : ((vv0.toInt32).toInt64) = vv0 := by rw [e_vv0, own_l2i]
  obtain ⟨vv1, e_vv1⟩ : ∃ z : Int64, z = ((q2.toInt32).toInt64) := ⟨_, rfl⟩
  have h_vv1 : ((vv1.toInt32).toInt64) = vv1 := by rw [e_vv1, own_l2i]
  obtain ⟨vv2, e_vv2⟩ : ∃ z : Int64, z = ((q3.toInt32).toInt64) := ⟨_, rfl⟩
  have h_vv2 : ((vv2.toInt32).toInt64) = vv2 := by rw [e_vv2, own_l2i]
  obtain ⟨T1, h1, X1, e1, E1, A1, D1, U1, st1⟩ := newO X0 hx hZ hown (hw _ (List.mem_of_getElem? (i := 0) rfl)) (hw _ (List.mem_of_getElem? (i := 1) rfl)) (hw _ (List.mem_of_getElem? (i := 2) rfl)) e0 (g := (mkF m 42 #[.val (.int p0), .val (.long q1), .second, .val (.long q2), .second, .val (.long q3), .second, .val (.int nn), .val (.int pp0), .val (.int pp1), .val (.int pp2), .val (.long vv0), .second, .val (.long vv1), .second, .val (.long vv2), .second, .unset, .unset, .unset, .unset] [])) rfl (hb hby at_42) (by decide) (by decide)
  obtain ⟨b1, g1⟩ : ∃ z, z = h0.size := ⟨_, rfl⟩
  rw [← g1] at A1 D1 U1 st1
  have g_b1 : n0 ≤ b1 := Nat.le_trans Z0 (Nat.le_of_eq g1.symm)
  have sz_b1 : h0.size ≤ b1 := Nat.le_trans (Keep.refl h0 []).1 (Nat.le_of_eq g1.symm)
  have F_participants_b1 : Fld Z h1 b1 "com/example/vestwright/vestwright/ParticipantRows" "participants" "[I" .null := D1 (Or.inl (hw _ (List.mem_of_getElem? (i := 11) rfl))) (ty := (.array .int)) (by decide)
  have F_lines_b1 : Fld Z h1 b1 "com/example/vestwright/vestwright/ParticipantRows" "lines" "[I" .null := D1 (Or.inl (hw _ (List.mem_of_getElem? (i := 13) rfl))) (ty := (.array .int)) (by decide)
  have F_size_b1 : Fld Z h1 b1 "com/example/vestwright/vestwright/ParticipantRows" "size" "I" (.int (0 : Int32)) := D1 (Or.inl (hw _ (List.mem_of_getElem? (i := 20) rfl))) (ty := .int) (by decide)
  have F_starts_b1 : Fld Z h1 b1 "com/example/vestwright/vestwright/ParticipantRows" "starts" "[I" .null := D1 (Or.inl (hw _ (List.mem_of_getElem? (i := 34) rfl))) (ty := (.array .int)) (by decide)
  have F_order_b1 : Fld Z h1 b1 "com/example/vestwright/vestwright/ParticipantRows" "order" "[I" .null := D1 (Or.inl (hw _ (List.mem_of_getElem? (i := 36) rfl))) (ty := (.array .int)) (by decide)
  have J1 : Keep h0 h1 [] := (Keep.refl h0 []).ext E1
  have z2 : n0 ≤ h1.size := (Nat.le_trans Z0 E1.1)
  -- pc 46: ParticipantRows.<init> by rm1
  obtain ⟨_, _, ⟨T3, L3, k3, n3⟩, -, X3, ⟨Lc3, hQ3, l3, y3, z3'⟩, st3⟩ := X1.specialBack hx (y := (⟨"com/example/vestwright/vestwright/ParticipantRows", "<init>", "()V"⟩ : MethodName)) rfl hown (mvT hZ (hw _ (List.mem_of_getElem? (i := 3) rfl))) (mvT hZ (hw _ (List.mem_of_getElem? (i := 4) rfl))) (mvT hZ (hw _ (List.mem_of_getElem? (i := 5) rfl))) (by decide) (backOf (W := 1) (rm1 l Z a0 hw [] b1 h1 n0 z2 A1 F_participants_b1 F_lines_b1 F_size_b1 F_starts_b1 F_order_b1 g_b1) hZ (hw _ (List.mem_of_getElem? (i := 5) rfl)) (hw _ (List.mem_of_getElem? (i := 2) rfl)) (by decide) (by decide)) (g := (mkF m 46 #[.val (.int p0), .val (.long q1), .second, .val (.long q2), .second, .val (.long q3), .second, .val (.int nn), .val (.int pp0), .val (.int pp1), .val (.int pp2), .val (.long vv0), .second, .val (.long vv1), .second, .val (.long vv2), .second, .unset, .unset, .unset, .unset] [(.ref b1), (.ref b1)])) rfl (by rw [hml]; rfl) (Steps.refl _) (a := b1) (argsL := []) (rest := [(.ref b1)]) (lenOf pd_3 rfl) rfl (by show 2 * 0 + _ ≤ _; exact Nat.le_of_eq rfl) (hb hby at_46) (fun _ _ => ⟨rfl, e1, (by decide : 1 + 2 ≤ _), (by decide : 5 + 2048 ≤ _)⟩)
  dsimp only [Pt.U, Pt.locs, Pt.cells, Pt.slots] at X3 l3 y3 z3' st3 hQ3
  subst l3 y3 z3'
  obtain ⟨pa_3, la_3, kp_3, kl_3, rfl, N3q, K3, r0_3, r1_3, r2_3, r3_3, r4_3, r5_3, r6_3, r7_3, r8_3, r9_3⟩ := hQ3
  have N3 := Fr.app N0 N3q
  have J3 : Keep h0 T3.heap [] := J1.trans K3 (allS (Or.inr sz_b1) all0)
  have g_pa_3 : n0 ≤ pa_3 := Nat.le_trans z2 r0_3
  have sz_pa_3 : h0.size ≤ pa_3 := Nat.le_trans J1.1 r0_3
  have ne4 : b1 ≠ pa_3 := Nat.ne_of_lt (Nat.lt_of_lt_of_le A1.lt r0_3)
  have g_la_3 : n0 ≤ la_3 := Nat.le_trans z2 r1_3
  have sz_la_3 : h0.size ≤ la_3 := Nat.le_trans J1.1 r1_3
  have ne5 : b1 ≠ la_3 := Nat.ne_of_lt (Nat.lt_of_lt_of_le A1.lt r1_3)
  have pre6 : ∀ t, Steps p.tables e below (T3.setTop (mkF m 63 #[.val (.int p0), .val (.long q1), .second, .val (.long q2), .second, .val (.long q3), .second, .val (.int nn), .val (.int pp0), .val (.int pp1), .val (.int pp2), .val (.long vv0), .second, .val (.long vv1), .second, .val (.long vv2), .second, .val (.ref b1), .val (.int (1 : Int32)), .val (.int (0 : Int32)), .val (.int (0 : Int32))] [(.int (1 : Int32)), (.int nn)])) t → Steps p.tables e below (s₁.setTop (entryFrame m #[(.int p0), (.long q1), (.long q2), (.long q3)] maxLocals)) t := by
    intro t kt
    refine pre0 _ ?_
    show Steps p.tables e below (s₁.setTop (mkF m 0 #[.val (.int p0), .val (.long q1), .second, .val (.long q2), .second, .val (.long q3), .second, .unset, .unset, .unset, .unset, .unset, .unset, .unset, .unset, .unset, .unset, .unset, .unset, .unset, .unset] [])) _
    refine XS.iloadN X0.here hx rfl (hb hby at_0) rfl ?_
    show Steps p.tables e below (s₁.setTop (mkF m 1 #[.val (.int p0), .val (.long q1), .second, .val (.long q2), .second, .val (.long q3), .second, .unset, .unset, .unset, .unset, .unset, .unset, .unset, .unset, .unset, .unset, .unset, .unset, .unset, .unset] [(.int p0)])) _
    refine XS.iconst X0.here hx rfl (hb hby at_1) ?_
    show Steps p.tables e below (s₁.setTop (mkF m 2 #[.val (.int p0), .val (.long q1), .second, .val (.long q2), .second, .val (.long q3), .second, .unset, .unset, .unset, .unset, .unset, .unset, .unset, .unset, .unset, .unset, .unset, .unset, .unset, .unset] [(.int (3 : Int32)), (.int p0)])) _
    refine XS.iand X0.here hx rfl (hb hby at_2) rfl ?_
    show Steps p.tables e below (s₁.setTop (mkF m 3 #[.val (.int p0), .val (.long q1), .second, .val (.long q2), .second, .val (.long q3), .second, .unset, .unset, .unset, .unset, .unset, .unset, .unset, .unset, .unset, .unset, .unset, .unset, .unset, .unset] [(.int (p0 &&& (3 : Int32)))])) _
    rw [← e_nn]
    show Steps p.tables e below (s₁.setTop (mkF m 3 #[.val (.int p0), .val (.long q1), .second, .val (.long q2), .second, .val (.long q3), .second, .unset, .unset, .unset, .unset, .unset, .unset, .unset, .unset, .unset, .unset, .unset, .unset, .unset, .unset] [(.int nn)])) _
    refine XS.istore X0.here hx rfl (hb hby at_3) rfl (l' := #[.val (.int p0), .val (.long q1), .second, .val (.long q2), .second, .val (.long q3), .second, .val (.int nn), .unset, .unset, .unset, .unset, .unset, .unset, .unset, .unset, .unset, .unset, .unset, .unset, .unset]) rfl ?_
    show Steps p.tables e below (s₁.setTop (mkF m 5 #[.val (.int p0), .val (.long q1), .second, .val (.long q2), .second, .val (.long q3), .second, .val (.int nn), .unset, .unset, .unset, .unset, .unset, .unset, .unset, .unset, .unset, .unset, .unset, .unset, .unset] [])) _
    refine XS.iloadN X0.here hx rfl (hb hby at_5) rfl ?_
    show Steps p.tables e below (s₁.setTop (mkF m 6 #[.val (.int p0), .val (.long q1), .second, .val (.long q2), .second, .val (.long q3), .second, .val (.int nn), .unset, .unset, .unset, .unset, .unset, .unset, .unset, .unset, .unset, .unset, .unset, .unset, .unset] [(.int p0)])) _
    refine XS.iconst X0.here hx rfl (hb hby at_6) ?_
    show Steps p.tables e below (s₁.setTop (mkF m 7 #[.val (.int p0), .val (.long q1), .second, .val (.long q2), .second, .val (.long q3), .second, .val (.int nn), .unset, .unset, .unset, .unset, .unset, .unset, .unset, .unset, .unset, .unset, .unset, .unset, .unset] [(.int (2 : Int32)), (.int p0)])) _
    refine XS.iushr X0.here hx rfl (hb hby at_7) rfl ?_
    show Steps p.tables e below (s₁.setTop (mkF m 8 #[.val (.int p0), .val (.long q1), .second, .val (.long q2), .second, .val (.long q3), .second, .val (.int nn), .unset, .unset, .unset, .unset, .unset, .unset, .unset, .unset, .unset, .unset, .unset, .unset, .unset] [(.int ((p0.toUInt32 >>> ((2 : Int32) &&& 31).toUInt32).toInt32))])) _
    refine XS.iconst X0.here hx rfl (hb hby at_8) ?_
    show Steps p.tables e below (s₁.setTop (mkF m 9 #[.val (.int p0), .val (.long q1), .second, .val (.long q2), .second, .val (.long q3), .second, .val (.int nn), .unset, .unset, .unset, .unset, .unset, .unset, .unset, .unset, .unset, .unset, .unset, .unset, .unset] [(.int (1 : Int32)), (.int ((p0.toUInt32 >>> ((2 : Int32) &&& 31).toUInt32).toInt32))])) _
    refine XS.iand X0.here hx rfl (hb hby at_9) rfl ?_
    show Steps p.tables e below (s₁.setTop (mkF m 10 #[.val (.int p0), .val (.long q1), .second, .val (.long q2), .second, .val (.long q3), .second, .val (.int nn), .unset, .unset, .unset, .unset, .unset, .unset, .unset, .unset, .unset, .unset, .unset, .unset, .unset] [(.int (((p0.toUInt32 >>> ((2 : Int32) &&& 31).toUInt32).toInt32) &&& (1 : Int32)))])) _
    rw [← e_pp0]
    show Steps p.tables e below (s₁.setTop (mkF m 10 #[.val (.int p0), .val (.long q1), .second, .val (.long q2), .second, .val (.long q3), .second, .val (.int nn), .unset, .unset, .unset, .unset, .unset, .unset, .unset, .unset, .unset, .unset, .unset, .unset, .unset] [(.int pp0)])) _
    refine XS.istore X0.here hx rfl (hb hby at_10) rfl (l' := #[.val (.int p0), .val (.long q1), .second, .val (.long q2), .second, .val (.long q3), .second, .val (.int nn), .val (.int pp0), .unset, .unset, .unset, .unset, .unset, .unset, .unset, .unset, .unset, .unset, .unset, .unset]) rfl ?_
    show Steps p.tables e below (s₁.setTop (mkF m 12 #[.val (.int p0), .val (.long q1), .second, .val (.long q2), .second, .val (.long q3), .second, .val (.int nn), .val (.int pp0), .unset, .unset, .unset, .unset, .unset, .unset, .unset, .unset, .unset, .unset, .unset, .unset] [])) _
    refine XS.iloadN X0.here hx rfl (hb hby at_12) rfl ?_
    show Steps p.tables e below (s₁.setTop (mkF m 13 #[.val (.int p0), .val (.long q1), .second, .val (.long q2), .second, .val (.long q3), .second, .val (.int nn), .val (.int pp0), .unset, .unset, .unset, .unset, .unset, .unset, .unset, .unset, .unset, .unset, .unset, .unset] [(.int p0)])) _
    refine XS.iconst X0.here hx rfl (hb hby at_13) ?_
    show Steps p.tables e below (s₁.setTop (mkF m 14 #[.val (.int p0), .val (.long q1), .second, .val (.long q2), .second, .val (.long q3), .second, .val (.int nn), .val (.int pp0), .unset, .unset, .unset, .unset, .unset, .unset, .unset, .unset, .unset, .unset, .unset, .unset] [(.int (3 : Int32)), (.int p0)])) _
    refine XS.iushr X0.here hx rfl (hb hby at_14) rfl ?_
    show Steps p.tables e below (s₁.setTop (mkF m 15 #[.val (.int p0), .val (.long q1), .second, .val (.long q2), .second, .val (.long q3), .second, .val (.int nn), .val (.int pp0), .unset, .unset, .unset, .unset, .unset, .unset, .unset, .unset, .unset, .unset, .unset, .unset] [(.int ((p0.toUInt32 >>> ((3 : Int32) &&& 31).toUInt32).toInt32))])) _
    refine XS.iconst X0.here hx rfl (hb hby at_15) ?_
    show Steps p.tables e below (s₁.setTop (mkF m 16 #[.val (.int p0), .val (.long q1), .second, .val (.long q2), .second, .val (.long q3), .second, .val (.int nn), .val (.int pp0), .unset, .unset, .unset, .unset, .unset, .unset, .unset, .unset, .unset, .unset, .unset, .unset] [(.int (1 : Int32)), (.int ((p0.toUInt32 >>> ((3 : Int32) &&& 31).toUInt32).toInt32))])) _
    refine XS.iand X0.here hx rfl (hb hby at_16) rfl ?_
    show Steps p.tables e below (s₁.setTop (mkF m 17 #[.val (.int p0), .val (.long q1), .second, .val (.long q2), .second, .val (.long q3), .second, .val (.int nn), .val (.int pp0), .unset, .unset, .unset, .unset, .unset, .unset, .unset, .unset, .unset, .unset, .unset, .unset] [(.int (((p0.toUInt32 >>> ((3 : Int32) &&& 31).toUInt32).toInt32) &&& (1 : Int32)))])) _
    rw [← e_pp1]
    show Steps p.tables e below (s₁.setTop (mkF m 17 #[.val (.int p0), .val (.long q1), .second, .val (.long q2), .second, .val (.long q3), .second, .val (.int nn), .val (.int pp0), .unset, .unset, .unset, .unset, .unset, .unset, .unset, .unset, .unset, .unset, .unset, .unset] [(.int pp1)])) _
    refine XS.istore X0.here hx rfl (hb hby at_17) rfl (l' := #[.val (.int p0), .val (.long q1), .second, .val (.long q2), .second, .val (.long q3), .second, .val (.int nn), .val (.int pp0), .val (.int pp1), .unset, .unset, .unset, .unset, .unset, .unset, .unset, .unset, .unset, .unset, .unset]) rfl ?_
    show Steps p.tables e below (s₁.setTop (mkF m 19 #[.val (.int p0), .val (.long q1), .second, .val (.long q2), .second, .val (.long q3), .second, .val (.int nn), .val (.int pp0), .val (.int pp1), .unset, .unset, .unset, .unset, .unset, .unset, .unset, .unset, .unset, .unset, .unset] [])) _
    refine XS.iloadN X0.here hx rfl (hb hby at_19) rfl ?_
    show Steps p.tables e below (s₁.setTop (mkF m 20 #[.val (.int p0), .val (.long q1), .second, .val (.long q2), .second, .val (.long q3), .second, .val (.int nn), .val (.int pp0), .val (.int pp1), .unset, .unset, .unset, .unset, .unset, .unset, .unset, .unset, .unset, .unset, .unset] [(.int p0)])) _
    refine XS.iconst X0.here hx rfl (hb hby at_20) ?_
    show Steps p.tables e below (s₁.setTop (mkF m 21 #[.val (.int p0), .val (.long q1), .second, .val (.long q2), .second, .val (.long q3), .second, .val (.int nn), .val (.int pp0), .val (.int pp1), .unset, .unset, .unset, .unset, .unset, .unset, .unset, .unset, .unset, .unset, .unset] [(.int (4 : Int32)), (.int p0)])) _
    refine XS.iushr X0.here hx rfl (hb hby at_21) rfl ?_
    show Steps p.tables e below (s₁.setTop (mkF m 22 #[.val (.int p0), .val (.long q1), .second, .val (.long q2), .second, .val (.long q3), .second, .val (.int nn), .val (.int pp0), .val (.int pp1), .unset, .unset, .unset, .unset, .unset, .unset, .unset, .unset, .unset, .unset, .unset] [(.int ((p0.toUInt32 >>> ((4 : Int32) &&& 31).toUInt32).toInt32))])) _
    refine XS.iconst X0.here hx rfl (hb hby at_22) ?_
    show Steps p.tables e below (s₁.setTop (mkF m 23 #[.val (.int p0), .val (.long q1), .second, .val (.long q2), .second, .val (.long q3), .second, .val (.int nn), .val (.int pp0), .val (.int pp1), .unset, .unset, .unset, .unset, .unset, .unset, .unset, .unset, .unset, .unset, .unset] [(.int (1 : Int32)), (.int ((p0.toUInt32 >>> ((4 : Int32) &&& 31).toUInt32).toInt32))])) _
    refine XS.iand X0.here hx rfl (hb hby at_23) rfl ?_
    show Steps p.tables e below (s₁.setTop (mkF m 24 #[.val (.int p0), .val (.long q1), .second, .val (.long q2), .second, .val (.long q3), .second, .val (.int nn), .val (.int pp0), .val (.int pp1), .unset, .unset, .unset, .unset, .unset, .unset, .unset, .unset, .unset, .unset, .unset] [(.int (((p0.toUInt32 >>> ((4 : Int32) &&& 31).toUInt32).toInt32) &&& (1 : Int32)))])) _
    rw [← e_pp2]
    show Steps p.tables e below (s₁.setTop (mkF m 24 #[.val (.int p0), .val (.long q1), .second, .val (.long q2), .second, .val (.long q3), .second, .val (.int nn), .val (.int pp0), .val (.int pp1), .unset, .unset, .unset, .unset, .unset, .unset, .unset, .unset, .unset, .unset, .unset] [(.int pp2)])) _
    refine XS.istore X0.here hx rfl (hb hby at_24) rfl (l' := #[.val (.int p0), .val (.long q1), .second, .val (.long q2), .second, .val (.long q3), .second, .val (.int nn), .val (.int pp0), .val (.int pp1), .val (.int pp2), .unset, .unset, .unset, .unset, .unset, .unset, .unset, .unset, .unset, .unset]) rfl ?_
    show Steps p.tables e below (s₁.setTop (mkF m 26 #[.val (.int p0), .val (.long q1), .second, .val (.long q2), .second, .val (.long q3), .second, .val (.int nn), .val (.int pp0), .val (.int pp1), .val (.int pp2), .unset, .unset, .unset, .unset, .unset, .unset, .unset, .unset, .unset, .unset] [])) _
    refine XS.lloadN X0.here hx rfl (hb hby at_26) rfl ?_
    show Steps p.tables e below (s₁.setTop (mkF m 27 #[.val (.int p0), .val (.long q1), .second, .val (.long q2), .second, .val (.long q3), .second, .val (.int nn), .val (.int pp0), .val (.int pp1), .val (.int pp2), .unset, .unset, .unset, .unset, .unset, .unset, .unset, .unset, .unset, .unset] [(.long q1)])) _
    refine XS.l2i X0.here hx rfl (hb hby at_27) rfl ?_
    show Steps p.tables e below (s₁.setTop (mkF m 28 #[.val (.int p0), .val (.long q1), .second, .val (.long q2), .second, .val (.long q3), .second, .val (.int nn), .val (.int pp0), .val (.int pp1), .val (.int pp2), .unset, .unset, .unset, .unset, .unset, .unset, .unset, .unset, .unset, .unset] [(.int (q1.toInt32))])) _
    refine XS.i2l X0.here hx rfl (hb hby at_28) rfl ?_
    show Steps p.tables e below (s₁.setTop (mkF m 29 #[.val (.int p0), .val (.long q1), .second, .val (.long q2), .second, .val (.long q3), .second, .val (.int nn), .val (.int pp0), .val (.int pp1), .val (.int pp2), .unset, .unset, .unset, .unset, .unset, .unset, .unset, .unset, .unset, .unset] [(.long ((q1.toInt32).toInt64))])) _
    rw [← e_vv0]
    show Steps p.tables e below (s₁.setTop (mkF m 29 #[.val (.int p0), .val (.long q1), .second, .val (.long q2), .second, .val (.long q3), .second, .val (.int nn), .val (.int pp0), .val (.int pp1), .val (.int pp2), .unset, .unset, .unset, .unset, .unset, .unset, .unset, .unset, .unset, .unset] [(.long vv0)])) _
    refine XS.lstore X0.here hx rfl (hb hby at_29) rfl (l' := #[.val (.int p0), .val (.long q1), .second, .val (.long q2), .second, .val (.long q3), .second, .val (.int nn), .val (.int pp0), .val (.int pp1), .val (.int pp2), .val (.long vv0), .second, .unset, .unset, .unset, .unset, .unset, .unset, .unset, .unset]) rfl ?_
    show Steps p.tables e below (s₁.setTop (mkF m 31 #[.val (.int p0), .val (.long q1), .second, .val (.long q2), .second, .val (.long q3), .second, .val (.int nn), .val (.int pp0), .val (.int pp1), .val (.int pp2), .val (.long vv0), .second, .unset, .unset, .unset, .unset, .unset, .unset, .unset, .unset] [])) _
    refine XS.lloadN X0.here hx rfl (hb hby at_31) rfl ?_
    show Steps p.tables e below (s₁.setTop (mkF m 32 #[.val (.int p0), .val (.long q1), .second, .val (.long q2), .second, .val (.long q3), .second, .val (.int nn), .val (.int pp0), .val (.int pp1), .val (.int pp2), .val (.long vv0), .second, .unset, .unset, .unset, .unset, .unset, .unset, .unset, .unset] [(.long q2)])) _
    refine XS.l2i X0.here hx rfl (hb hby at_32) rfl ?_
    show Steps p.tables e below (s₁.setTop (mkF m 33 #[.val (.int p0), .val (.long q1), .second, .val (.long q2), .second, .val (.long q3), .second, .val (.int nn), .val (.int pp0), .val (.int pp1), .val (.int pp2), .val (.long vv0), .second, .unset, .unset, .unset, .unset, .unset, .unset, .unset, .unset] [(.int (q2.toInt32))])) _
    refine XS.i2l X0.here hx rfl (hb hby at_33) rfl ?_
    show Steps p.tables e below (s₁.setTop (mkF m 34 #[.val (.int p0), .val (.long q1), .second, .val (.long q2), .second, .val (.long q3), .second, .val (.int nn), .val (.int pp0), .val (.int pp1), .val (.int pp2), .val (.long vv0), .second, .unset, .unset, .unset, .unset, .unset, .unset, .unset, .unset] [(.long ((q2.toInt32).toInt64))])) _
    rw [← e_vv1]
    show Steps p.tables e below (s₁.setTop (mkF m 34 #[.val (.int p0), .val (.long q1), .second, .val (.long q2), .second, .val (.long q3), .second, .val (.int nn), .val (.int pp0), .val (.int pp1), .val (.int pp2), .val (.long vv0), .second, .unset, .unset, .unset, .unset, .unset, .unset, .unset, .unset] [(.long vv1)])) _
    refine XS.lstore X0.here hx rfl (hb hby at_34) rfl (l' := #[.val (.int p0), .val (.long q1), .second, .val (.long q2), .second, .val (.long q3), .second, .val (.int nn), .val (.int pp0), .val (.int pp1), .val (.int pp2), .val (.long vv0), .second, .val (.long vv1), .second, .unset, .unset, .unset, .unset, .unset, .unset]) rfl ?_
    show Steps p.tables e below (s₁.setTop (mkF m 36 #[.val (.int p0), .val (.long q1), .second, .val (.long q2), .second, .val (.long q3), .second, .val (.int nn), .val (.int pp0), .val (.int pp1), .val (.int pp2), .val (.long vv0), .second, .val (.long vv1), .second, .unset, .unset, .unset, .unset, .unset, .unset] [])) _
    refine XS.lload X0.here hx rfl (hb hby at_36) rfl ?_
    show Steps p.tables e below (s₁.setTop (mkF m 38 #[.val (.int p0), .val (.long q1), .second, .val (.long q2), .second, .val (.long q3), .second, .val (.int nn), .val (.int pp0), .val (.int pp1), .val (.int pp2), .val (.long vv0), .second, .val (.long vv1), .second, .unset, .unset, .unset, .unset, .unset, .unset] [(.long q3)])) _
    refine XS.l2i X0.here hx rfl (hb hby at_38) rfl ?_
    show Steps p.tables e below (s₁.setTop (mkF m 39 #[.val (.int p0), .val (.long q1), .second, .val (.long q2), .second, .val (.long q3), .second, .val (.int nn), .val (.int pp0), .val (.int pp1), .val (.int pp2), .val (.long vv0), .second, .val (.long vv1), .second, .unset, .unset, .unset, .unset, .unset, .unset] [(.int (q3.toInt32))])) _
    refine XS.i2l X0.here hx rfl (hb hby at_39) rfl ?_
    show Steps p.tables e below (s₁.setTop (mkF m 40 #[.val (.int p0), .val (.long q1), .second, .val (.long q2), .second, .val (.long q3), .second, .val (.int nn), .val (.int pp0), .val (.int pp1), .val (.int pp2), .val (.long vv0), .second, .val (.long vv1), .second, .unset, .unset, .unset, .unset, .unset, .unset] [(.long ((q3.toInt32).toInt64))])) _
    rw [← e_vv2]
    show Steps p.tables e below (s₁.setTop (mkF m 40 #[.val (.int p0), .val (.long q1), .second, .val (.long q2), .second, .val (.long q3), .second, .val (.int nn), .val (.int pp0), .val (.int pp1), .val (.int pp2), .val (.long vv0), .second, .val (.long vv1), .second, .unset, .unset, .unset, .unset, .unset, .unset] [(.long vv2)])) _
    refine XS.lstore X0.here hx rfl (hb hby at_40) rfl (l' := #[.val (.int p0), .val (.long q1), .second, .val (.long q2), .second, .val (.long q3), .second, .val (.int nn), .val (.int pp0), .val (.int pp1), .val (.int pp2), .val (.long vv0), .second, .val (.long vv1), .second, .val (.long vv2), .second, .unset, .unset, .unset, .unset]) rfl ?_
    show Steps p.tables e below (s₁.setTop (mkF m 42 #[.val (.int p0), .val (.long q1), .second, .val (.long q2), .second, .val (.long q3), .second, .val (.int nn), .val (.int pp0), .val (.int pp1), .val (.int pp2), .val (.long vv0), .second, .val (.long vv1), .second, .val (.long vv2), .second, .unset, .unset, .unset, .unset] [])) _
    refine st1 _ ?_
    show Steps p.tables e below (T1.setTop (mkF m 45 #[.val (.int p0), .val (.long q1), .second, .val (.long q2), .second, .val (.long q3), .second, .val (.int nn), .val (.int pp0), .val (.int pp1), .val (.int pp2), .val (.long vv0), .second, .val (.long vv1), .second, .val (.long vv2), .second, .unset, .unset, .unset, .unset] [(.ref b1)])) _
    refine XS.dup X1.here hx rfl (hb hby at_45) rfl rfl ?_
    show Steps p.tables e below (T1.setTop (mkF m 46 #[.val (.int p0), .val (.long q1), .second, .val (.long q2), .second, .val (.long q3), .second, .val (.int nn), .val (.int pp0), .val (.int pp1), .val (.int pp2), .val (.long vv0), .second, .val (.long vv1), .second, .val (.long vv2), .second, .unset, .unset, .unset, .unset] [(.ref b1), (.ref b1)])) _
    refine st3.trans ?_
    show Steps p.tables e below (T3.setTop (mkF m 49 #[.val (.int p0), .val (.long q1), .second, .val (.long q2), .second, .val (.long q3), .second, .val (.int nn), .val (.int pp0), .val (.int pp1), .val (.int pp2), .val (.long vv0), .second, .val (.long vv1), .second, .val (.long vv2), .second, .unset, .unset, .unset, .unset] [(.ref b1)])) _
    refine XS.astore X3.here hx rfl (hb hby at_49) rfl rfl (l' := #[.val (.int p0), .val (.long q1), .second, .val (.long q2), .second, .val (.long q3), .second, .val (.int nn), .val (.int pp0), .val (.int pp1), .val (.int pp2), .val (.long vv0), .second, .val (.long vv1), .second, .val (.long vv2), .second, .val (.ref b1), .unset, .unset, .unset]) rfl ?_
    show Steps p.tables e below (T3.setTop (mkF m 51 #[.val (.int p0), .val (.long q1), .second, .val (.long q2), .second, .val (.long q3), .second, .val (.int nn), .val (.int pp0), .val (.int pp1), .val (.int pp2), .val (.long vv0), .second, .val (.long vv1), .second, .val (.long vv2), .second, .val (.ref b1), .unset, .unset, .unset] [])) _
    refine XS.iconst X3.here hx rfl (hb hby at_51) ?_
    show Steps p.tables e below (T3.setTop (mkF m 52 #[.val (.int p0), .val (.long q1), .second, .val (.long q2), .second, .val (.long q3), .second, .val (.int nn), .val (.int pp0), .val (.int pp1), .val (.int pp2), .val (.long vv0), .second, .val (.long vv1), .second, .val (.long vv2), .second, .val (.ref b1), .unset, .unset, .unset] [(.int (1 : Int32))])) _
    refine XS.istore X3.here hx rfl (hb hby at_52) rfl (l' := #[.val (.int p0), .val (.long q1), .second, .val (.long q2), .second, .val (.long q3), .second, .val (.int nn), .val (.int pp0), .val (.int pp1), .val (.int pp2), .val (.long vv0), .second, .val (.long vv1), .second, .val (.long vv2), .second, .val (.ref b1), .val (.int (1 : Int32)), .unset, .unset]) rfl ?_
    show Steps p.tables e below (T3.setTop (mkF m 54 #[.val (.int p0), .val (.long q1), .second, .val (.long q2), .second, .val (.long q3), .second, .val (.int nn), .val (.int pp0), .val (.int pp1), .val (.int pp2), .val (.long vv0), .second, .val (.long vv1), .second, .val (.long vv2), .second, .val (.ref b1), .val (.int (1 : Int32)), .unset, .unset] [])) _
    refine XS.iconst X3.here hx rfl (hb hby at_54) ?_
    show Steps p.tables e below (T3.setTop (mkF m 55 #[.val (.int p0), .val (.long q1), .second, .val (.long q2), .second, .val (.long q3), .second, .val (.int nn), .val (.int pp0), .val (.int pp1), .val (.int pp2), .val (.long vv0), .second, .val (.long vv1), .second, .val (.long vv2), .second, .val (.ref b1), .val (.int (1 : Int32)), .unset, .unset] [(.int (0 : Int32))])) _
    refine XS.istore X3.here hx rfl (hb hby at_55) rfl (l' := #[.val (.int p0), .val (.long q1), .second, .val (.long q2), .second, .val (.long q3), .second, .val (.int nn), .val (.int pp0), .val (.int pp1), .val (.int pp2), .val (.long vv0), .second, .val (.long vv1), .second, .val (.long vv2), .second, .val (.ref b1), .val (.int (1 : Int32)), .val (.int (0 : Int32)), .unset]) rfl ?_
    show Steps p.tables e below (T3.setTop (mkF m 57 #[.val (.int p0), .val (.long q1), .second, .val (.long q2), .second, .val (.long q3), .second, .val (.int nn), .val (.int pp0), .val (.int pp1), .val (.int pp2), .val (.long vv0), .second, .val (.long vv1), .second, .val (.long vv2), .second, .val (.ref b1), .val (.int (1 : Int32)), .val (.int (0 : Int32)), .unset] [])) _
    refine XS.iconst X3.here hx rfl (hb hby at_57) ?_
    show Steps p.tables e below (T3.setTop (mkF m 58 #[.val (.int p0), .val (.long q1), .second, .val (.long q2), .second, .val (.long q3), .second, .val (.int nn), .val (.int pp0), .val (.int pp1), .val (.int pp2), .val (.long vv0), .second, .val (.long vv1), .second, .val (.long vv2), .second, .val (.ref b1), .val (.int (1 : Int32)), .val (.int (0 : Int32)), .unset] [(.int (0 : Int32))])) _
    refine XS.istore X3.here hx rfl (hb hby at_58) rfl (l' := #[.val (.int p0), .val (.long q1), .second, .val (.long q2), .second, .val (.long q3), .second, .val (.int nn), .val (.int pp0), .val (.int pp1), .val (.int pp2), .val (.long vv0), .second, .val (.long vv1), .second, .val (.long vv2), .second, .val (.ref b1), .val (.int (1 : Int32)), .val (.int (0 : Int32)), .val (.int (0 : Int32))]) rfl ?_
    show Steps p.tables e below (T3.setTop (mkF m 60 #[.val (.int p0), .val (.long q1), .second, .val (.long q2), .second, .val (.long q3), .second, .val (.int nn), .val (.int pp0), .val (.int pp1), .val (.int pp2), .val (.long vv0), .second, .val (.long vv1), .second, .val (.long vv2), .second, .val (.ref b1), .val (.int (1 : Int32)), .val (.int (0 : Int32)), .val (.int (0 : Int32))] [])) _
    refine XS.iload X3.here hx rfl (hb hby at_60) rfl ?_
    show Steps p.tables e below (T3.setTop (mkF m 62 #[.val (.int p0), .val (.long q1), .second, .val (.long q2), .second, .val (.long q3), .second, .val (.int nn), .val (.int pp0), .val (.int pp1), .val (.int pp2), .val (.long vv0), .second, .val (.long vv1), .second, .val (.long vv2), .second, .val (.ref b1), .val (.int (1 : Int32)), .val (.int (0 : Int32)), .val (.int (0 : Int32))] [(.int nn)])) _
    refine XS.iconst X3.here hx rfl (hb hby at_62) ?_
    exact kt
  by_cases hc63_7 : nn < (1 : Int32)
  · skip
    have hc107_8 : nn < (2 : Int32) := own_12 hc63_7
    have hc152_9 : nn < (3 : Int32) := own_23 hc107_8
    have c10 : Exa Z T3.heap b1 "com/example/vestwright/vestwright/ParticipantRows" := (A1.keep K3)
    have z11 : n0 ≤ T3.heap.size := (Nat.le_trans z2 K3.1)
    obtain ⟨cq12, kq12, q12a, q12b, q12c⟩ := isOf hZ rfl c10
    -- pc 287: ParticipantRows.group by rm4
    obtain ⟨_, _, ⟨T12, L12, k12, n12⟩, -, X12, ⟨Lc12, hQ12, l12, y12, z12'⟩, st12⟩ := X3.virtualBack hx (y := (⟨"com/example/vestwright/vestwright/ParticipantRows", "group", "(I)V"⟩ : MethodName)) (z := (⟨"com/example/vestwright/vestwright/ParticipantRows", "group", "(I)V"⟩ : MethodName)) hown (mvT hZ (hw _ (List.mem_of_getElem? (i := 14) rfl))) (mvT hZ (hw _ (List.mem_of_getElem? (i := 15) rfl))) (notFace_of_selects (args := #[]) (mvT hZ (hw _ (List.mem_of_getElem? (i := 17) rfl)))) (mvT hZ (hw _ (List.mem_of_getElem? (i := 17) rfl))) (mvT hZ (hw _ (List.mem_of_getElem? (i := 16) rfl))) (by decide) (backOf (W := 0) (rm4 l Z a0 hw [] b1 0 (own_f ac0 ac1 ac2) pa_3 kp_3 [] T3.heap n0 z11 c10 r7_3 r3_3 r8_3 r9_3 r5_3 g_b1 (by decide) (own_f2 hac0 hac1 hac2) (fun i hi => absurd hi (Nat.not_lt_zero i))) hZ (hw _ (List.mem_of_getElem? (i := 18) rfl)) (hw _ (List.mem_of_getElem? (i := 2) rfl)) (by decide) (by decide)) q12a q12c (g := (mkF m 287 #[.val (.int p0), .val (.long q1), .second, .val (.long q2), .second, .val (.long q3), .second, .val (.int nn), .val (.int pp0), .val (.int pp1), .val (.int pp2), .val (.long vv0), .second, .val (.long vv1), .second, .val (.long vv2), .second, .val (.ref b1), .val (.int (1 : Int32)), .val (.int (0 : Int32)), .val (.int (0 : Int32))] [(.int (2 : Int32)), (.ref b1)])) rfl (by rw [hml]; rfl) (Steps.refl _) (argsL := [(.int (2 : Int32))]) (rest := []) (lenOf pd_5 rfl) rfl (by show 2 * 0 + _ ≤ _; exact Nat.le_of_eq rfl) (hb hby at_287) (fun _ _ => ⟨rfl, rfl, (by decide : 3 + 3 ≤ _), (by decide : 2053 + 8 ≤ _)⟩)
    dsimp only [Pt.U, Pt.locs, Pt.cells, Pt.slots] at X12 l12 y12 z12' st12 hQ12
    subst l12 y12 z12'
    obtain ⟨sa_12, ks_12, rfl, N12q, K12, r0_12, r1_12, r2_12⟩ := hQ12
    have N12 := Fr.app N3 N12q
    have J12 : Keep h0 T12.heap [] := J3.trans K12 (allS (Or.inr sz_b1) all0)
    have g_sa_12 : n0 ≤ sa_12 := Nat.le_trans z11 r0_12
    have sz_sa_12 : h0.size ≤ sa_12 := Nat.le_trans J3.1 r0_12
    have ne13 : b1 ≠ sa_12 := Nat.ne_of_lt (Nat.lt_of_lt_of_le c10.lt r0_12)
    have ne14 : pa_3 ≠ sa_12 := Nat.ne_of_lt (Nat.lt_of_lt_of_le r5_3.lt r0_12)
    have ne15 : la_3 ≠ sa_12 := Nat.ne_of_lt (Nat.lt_of_lt_of_le r6_3.lt r0_12)
    have c16 : Arv Z T12.heap pa_3 kp_3 .int (1024 : Int32) [] (.int (0 : Int32)) := (r5_3.keep K12 (ninS (Ne.symm ne4) nin0))
    have c17 : Arv Z T12.heap la_3 kl_3 .int (1024 : Int32) [] (.int (0 : Int32)) := (r6_3.keep K12 (ninS (Ne.symm ne5) nin0))
    have z18 : n0 ≤ T12.heap.size := (Nat.le_trans z11 K12.1)
    have c20 : Exa Z T12.heap b1 "com/example/vestwright/vestwright/ParticipantRows" := (c10.keep K12)
    obtain ⟨cq19, kq19, q19a, q19b, q19c⟩ := isOf hZ rfl c20
    -- pc 299: ParticipantRows.rowsOf by rm5
    obtain ⟨_, _, ⟨T19, L19, k19, n19⟩, -, X19, ⟨Lc19, hQ19, l19, y19, z19'⟩, st19⟩ := X12.virtualBack hx (y := (⟨"com/example/vestwright/vestwright/ParticipantRows", "rowsOf", "(ILjava/util/function/IntFunction;)Ljava/util/List;"⟩ : MethodName)) (z := (⟨"com/example/vestwright/vestwright/ParticipantRows", "rowsOf", "(ILjava/util/function/IntFunction;)Ljava/util/List;"⟩ : MethodName)) hown (mvT hZ (hw _ (List.mem_of_getElem? (i := 37) rfl))) (mvT hZ (hw _ (List.mem_of_getElem? (i := 38) rfl))) (notFace_of_selects (args := #[]) (mvT hZ (hw _ (List.mem_of_getElem? (i := 40) rfl)))) (mvT hZ (hw _ (List.mem_of_getElem? (i := 40) rfl))) (mvT hZ (hw _ (List.mem_of_getElem? (i := 39) rfl))) (by decide) (backOf (W := 0) (rm5 l Z a0 hw [] b1 (0 : Int32) sa_12 ks_12 (own_l3 ((Int32.ofNat (own_zc (own_f ac0 ac1 ac2) 0)) + (0 : Int32)) ((Int32.ofNat (own_oc (own_f ac0 ac1 ac2) 0)) + ((Int32.ofNat (own_zc (own_f ac0 ac1 ac2) 0)) + (0 : Int32)))) (0 : Int32) ((Int32.ofNat (own_zc (own_f ac0 ac1 ac2) 0)) + (0 : Int32)) T12.heap n0 z18 r1_12 r2_12 (by decide) (by decide) rfl rfl) hZ (hw _ (List.mem_of_getElem? (i := 41) rfl)) (hw _ (List.mem_of_getElem? (i := 2) rfl)) (by decide) (by decide)) q19a q19c (g := (mkF m 299 #[.val (.int p0), .val (.long q1), .second, .val (.long q2), .second, .val (.long q3), .second, .val (.int nn), .val (.int pp0), .val (.int pp1), .val (.int pp2), .val (.long vv0), .second, .val (.long vv1), .second, .val (.long vv2), .second, .val (.ref b1), .val (.int (1 : Int32)), .val (.int (0 : Int32)), .val (.int (0 : Int32))] [.null, (.int (0 : Int32)), (.ref b1)])) rfl (by rw [hml]; rfl) (Steps.refl _) (argsL := [(.int (0 : Int32)), .null]) (rest := []) (lenOf pd_6 rfl) rfl (by show 2 * 0 + _ ≤ _; exact Nat.le_of_eq rfl) (hb hby at_299) (fun _ _ => ⟨rfl, rfl, (by decide : 6 + 1 ≤ _), (by decide : 2061 + 5 ≤ _)⟩)
    dsimp only [Pt.U, Pt.locs, Pt.cells, Pt.slots] at X19 l19 y19 z19' st19 hQ19
    subst l19 y19 z19'
    obtain ⟨b_19, rfl, N19q, K19, r0_19, r1_19, r2_19, r3_19⟩ := hQ19
    have N19 := Fr.app N12 N19q
    have J19 : Keep h0 T19.heap [] := J12.trans K19 all0
    have g_b_19 : n0 ≤ b_19 := Nat.le_trans z18 r0_19
    have sz_b_19 : h0.size ≤ b_19 := Nat.le_trans J12.1 r0_19
    have ne21 : b1 ≠ b_19 := Nat.ne_of_lt (Nat.lt_of_lt_of_le c20.lt r0_19)
    have ne22 : pa_3 ≠ b_19 := Nat.ne_of_lt (Nat.lt_of_lt_of_le c16.lt r0_19)
    have ne23 : la_3 ≠ b_19 := Nat.ne_of_lt (Nat.lt_of_lt_of_le c17.lt r0_19)
    have ne24 : sa_12 ≠ b_19 := Nat.ne_of_lt (Nat.lt_of_lt_of_le r2_12.lt r0_19)
    have z25 : n0 ≤ T19.heap.size := (Nat.le_trans z18 K19.1)
    obtain ⟨cq26, kq26, q26a, q26b, q26c⟩ := isOf hZ rfl r1_19
    -- pc 302: List.size by rm193
    obtain ⟨_, _, ⟨T26, L26, k26, n26⟩, -, X26, ⟨Lc26, hQ26, l26, y26, z26'⟩, st26⟩ := X19.interfaceBack hx (xi := (⟨"java/util/List", "size", "()I"⟩ : MethodName)) (y := (⟨"com/example/vestwright/vestwright/ParticipantRows$Rows", "size", "()I"⟩ : MethodName)) hown (mvT hZ (hw _ (List.mem_of_getElem? (i := 70) rfl))) (mvT hZ (hw _ (List.mem_of_getElem? (i := 71) rfl))) (mvT hZ (hw _ (List.mem_of_getElem? (i := 72) rfl))) (mvT hZ (hw _ (List.mem_of_getElem? (i := 73) rfl))) (mvT hZ (hw _ (List.mem_of_getElem? (i := 74) rfl))) (mvT hZ (hw _ (List.mem_of_getElem? (i := 75) rfl))) (mvT hZ (hw _ (List.mem_of_getElem? (i := 76) rfl))) (mvT hZ (hw _ (List.mem_of_getElem? (i := 77) rfl))) (by decide) (backOf (W := 0) (rm193 l Z a0 hw [] b_19 (0 : Int32) ((Int32.ofNat (own_zc (own_f ac0 ac1 ac2) 0)) + (0 : Int32)) T19.heap n0 z25 r2_19 r3_19) hZ (hw _ (List.mem_of_getElem? (i := 78) rfl)) (hw _ (List.mem_of_getElem? (i := 44) rfl)) (by decide) (by decide)) q26a q26b q26c (g := (mkF m 302 #[.val (.int p0), .val (.long q1), .second, .val (.long q2), .second, .val (.long q3), .second, .val (.int nn), .val (.int pp0), .val (.int pp1), .val (.int pp2), .val (.long vv0), .second, .val (.long vv1), .second, .val (.long vv2), .second, .val (.ref b1), .val (.int (1 : Int32)), .val (.int (0 : Int32)), .val (.int (0 : Int32))] [(.ref b_19)])) rfl (by rw [hml]; rfl) (Steps.refl _) (argsL := []) (rest := []) (lenOf pd_7 rfl) rfl (by show 2 * 0 + _ ≤ _; exact Nat.le_of_eq rfl) (hb hby at_302) (fun _ _ => ⟨rfl, rfl, (by decide : 7 + 0 ≤ _), (by decide : 2066 + 0 ≤ _)⟩)
    dsimp only [Pt.U, Pt.locs, Pt.cells, Pt.slots] at X26 l26 y26 z26' st26 hQ26
    subst l26 y26 z26'
    obtain ⟨rfl, N26q, K26⟩ := hQ26
    have N26 := Fr.app N19 N26q
    have J26 : Keep h0 T26.heap [] := J19.trans K26 all0
    have hc309_27 : (((Int32.ofNat (own_zc (own_f ac0 ac1 ac2) 0)) + (0 : Int32)) - (0 : Int32)) = (0 : Int32) := own_zz0
    have c28 : Fld Z T26.heap b1 "com/example/vestwright/vestwright/ParticipantRows" "starts" "[I" (.ref sa_12) := ((r1_12.keep K19 nin0).keep K26 nin0)
    have c29 : Arv Z T26.heap sa_12 ks_12 .int (3 : Int32) (own_l3 ((Int32.ofNat (own_zc (own_f ac0 ac1 ac2) 0)) + (0 : Int32)) ((Int32.ofNat (own_oc (own_f ac0 ac1 ac2) 0)) + ((Int32.ofNat (own_zc (own_f ac0 ac1 ac2) 0)) + (0 : Int32)))) (.int (0 : Int32)) := ((r2_12.keep K19 nin0).keep K26 nin0)
    have c30 : Exa Z T26.heap b_19 "com/example/vestwright/vestwright/ParticipantRows$Rows" := (r1_19.keep K26)
    have c31 : Arv Z T26.heap pa_3 kp_3 .int (1024 : Int32) [] (.int (0 : Int32)) := ((c16.keep K19 nin0).keep K26 nin0)
    have c32 : Arv Z T26.heap la_3 kl_3 .int (1024 : Int32) [] (.int (0 : Int32)) := ((c17.keep K19 nin0).keep K26 nin0)
    have z33 : n0 ≤ T26.heap.size := (Nat.le_trans z25 K26.1)
    have c35 : Exa Z T26.heap b1 "com/example/vestwright/vestwright/ParticipantRows" := ((c20.keep K19).keep K26)
    obtain ⟨cq34, kq34, q34a, q34b, q34c⟩ := isOf hZ rfl c35
    -- pc 328: ParticipantRows.rowsOf by rm5
    obtain ⟨_, _, ⟨T34, L34, k34, n34⟩, -, X34, ⟨Lc34, hQ34, l34, y34, z34'⟩, st34⟩ := X26.virtualBack hx (y := (⟨"com/example/vestwright/vestwright/ParticipantRows", "rowsOf", "(ILjava/util/function/IntFunction;)Ljava/util/List;"⟩ : MethodName)) (z := (⟨"com/example/vestwright/vestwright/ParticipantRows", "rowsOf", "(ILjava/util/function/IntFunction;)Ljava/util/List;"⟩ : MethodName)) hown (mvT hZ (hw _ (List.mem_of_getElem? (i := 37) rfl))) (mvT hZ (hw _ (List.mem_of_getElem? (i := 38) rfl))) (notFace_of_selects (args := #[]) (mvT hZ (hw _ (List.mem_of_getElem? (i := 40) rfl)))) (mvT hZ (hw _ (List.mem_of_getElem? (i := 40) rfl))) (mvT hZ (hw _ (List.mem_of_getElem? (i := 39) rfl))) (by decide) (backOf (W := 0) (rm5 l Z a0 hw [] b1 (1 : Int32) sa_12 ks_12 (own_l3 ((Int32.ofNat (own_zc (own_f ac0 ac1 ac2) 0)) + (0 : Int32)) ((Int32.ofNat (own_oc (own_f ac0 ac1 ac2) 0)) + ((Int32.ofNat (own_zc (own_f ac0 ac1 ac2) 0)) + (0 : Int32)))) ((Int32.ofNat (own_zc (own_f ac0 ac1 ac2) 0)) + (0 : Int32)) ((Int32.ofNat (own_oc (own_f ac0 ac1 ac2) 0)) + ((Int32.ofNat (own_zc (own_f ac0 ac1 ac2) 0)) + (0 : Int32))) T26.heap n0 z33 c28 c29 (by decide) (by decide) rfl rfl) hZ (hw _ (List.mem_of_getElem? (i := 41) rfl)) (hw _ (List.mem_of_getElem? (i := 2) rfl)) (by decide) (by decide)) q34a q34c (g := (mkF m 328 #[.val (.int p0), .val (.long q1), .second, .val (.long q2), .second, .val (.long q3), .second, .val (.int nn), .val (.int pp0), .val (.int pp1), .val (.int pp2), .val (.long vv0), .second, .val (.long vv1), .second, .val (.long vv2), .second, .val (.ref b1), .val (.int (1 : Int32)), .val (.int (0 : Int32)), .val (.int (0 : Int32))] [.null, (.int (1 : Int32)), (.ref b1)])) rfl (by rw [hml]; rfl) (Steps.refl _) (argsL := [(.int (1 : Int32)), .null]) (rest := []) (lenOf pd_6 rfl) rfl (by show 2 * 0 + _ ≤ _; exact Nat.le_of_eq rfl) (hb hby at_328) (fun _ _ => ⟨rfl, rfl, (by decide : 7 + 1 ≤ _), (by decide : 2066 + 5 ≤ _)⟩)
    dsimp only [Pt.U, Pt.locs, Pt.cells, Pt.slots] at X34 l34 y34 z34' st34 hQ34
    subst l34 y34 z34'
    obtain ⟨b_34, rfl, N34q, K34, r0_34, r1_34, r2_34, r3_34⟩ := hQ34
    have N34 := Fr.app N26 N34q
    have J34 : Keep h0 T34.heap [] := J26.trans K34 all0
    have g_b_34 : n0 ≤ b_34 := Nat.le_trans z33 r0_34
    have sz_b_34 : h0.size ≤ b_34 := Nat.le_trans J26.1 r0_34
    have ne36 : b1 ≠ b_34 := Nat.ne_of_lt (Nat.lt_of_lt_of_le c35.lt r0_34)
    have ne37 : pa_3 ≠ b_34 := Nat.ne_of_lt (Nat.lt_of_lt_of_le c31.lt r0_34)
    have ne38 : la_3 ≠ b_34 := Nat.ne_of_lt (Nat.lt_of_lt_of_le c32.lt r0_34)
    have ne39 : sa_12 ≠ b_34 := Nat.ne_of_lt (Nat.lt_of_lt_of_le c29.lt r0_34)
    have ne40 : b_19 ≠ b_34 := Nat.ne_of_lt (Nat.lt_of_lt_of_le c30.lt r0_34)
    have z41 : n0 ≤ T34.heap.size := (Nat.le_trans z33 K34.1)
    obtain ⟨cq42, kq42, q42a, q42b, q42c⟩ := isOf hZ rfl r1_34
    -- pc 331: List.size by rm193
    obtain ⟨_, _, ⟨T42, L42, k42, n42⟩, -, X42, ⟨Lc42, hQ42, l42, y42, z42'⟩, st42⟩ := X34.interfaceBack hx (xi := (⟨"java/util/List", "size", "()I"⟩ : MethodName)) (y := (⟨"com/example/vestwright/vestwright/ParticipantRows$Rows", "size", "()I"⟩ : MethodName)) hown (mvT hZ (hw _ (List.mem_of_getElem? (i := 70) rfl))) (mvT hZ (hw _ (List.mem_of_getElem? (i := 71) rfl))) (mvT hZ (hw _ (List.mem_of_getElem? (i := 72) rfl))) (mvT hZ (hw _ (List.mem_of_getElem? (i := 73) rfl))) (mvT hZ (hw _ (List.mem_of_getElem? (i := 74) rfl))) (mvT hZ (hw _ (List.mem_of_getElem? (i := 75) rfl))) (mvT hZ (hw _ (List.mem_of_getElem? (i := 76) rfl))) (mvT hZ (hw _ (List.mem_of_getElem? (i := 77) rfl))) (by decide) (backOf (W := 0) (rm193 l Z a0 hw [] b_34 ((Int32.ofNat (own_zc (own_f ac0 ac1 ac2) 0)) + (0 : Int32)) ((Int32.ofNat (own_oc (own_f ac0 ac1 ac2) 0)) + ((Int32.ofNat (own_zc (own_f ac0 ac1 ac2) 0)) + (0 : Int32))) T34.heap n0 z41 r2_34 r3_34) hZ (hw _ (List.mem_of_getElem? (i := 78) rfl)) (hw _ (List.mem_of_getElem? (i := 44) rfl)) (by decide) (by decide)) q42a q42b q42c (g := (mkF m 331 #[.val (.int p0), .val (.long q1), .second, .val (.long q2), .second, .val (.long q3), .second, .val (.int nn), .val (.int pp0), .val (.int pp1), .val (.int pp2), .val (.long vv0), .second, .val (.long vv1), .second, .val (.long vv2), .second, .val (.ref b1), .val (.int (1 : Int32)), .val (.int (0 : Int32)), .val (.int (0 : Int32))] [(.ref b_34)])) rfl (by rw [hml]; rfl) (Steps.refl _) (argsL := []) (rest := []) (lenOf pd_7 rfl) rfl (by show 2 * 0 + _ ≤ _; exact Nat.le_of_eq rfl) (hb hby at_331) (fun _ _ => ⟨rfl, rfl, (by decide : 8 + 0 ≤ _), (by decide : 2071 + 0 ≤ _)⟩)
    dsimp only [Pt.U, Pt.locs, Pt.cells, Pt.slots] at X42 l42 y42 z42' st42 hQ42
    subst l42 y42 z42'
    obtain ⟨rfl, N42q, K42⟩ := hQ42
    have N42 := Fr.app N34 N42q
    have J42 : Keep h0 T42.heap [] := J34.trans K42 all0
    have hc338_43 : (((Int32.ofNat (own_oc (own_f ac0 ac1 ac2) 0)) + ((Int32.ofNat (own_zc (own_f ac0 ac1 ac2) 0)) + (0 : Int32))) - ((Int32.ofNat (own_zc (own_f ac0 ac1 ac2) 0)) + (0 : Int32))) = (0 : Int32) := own_oo0
    obtain ⟨fs, hr, hrun, hended, hW, hsame⟩ := X42.leave (v := some (.int (1 : Int32))) (fun h => by rw [Bd.returns] at h; cases h)
    refine ⟨_, _, pre6 _ ?_, hrun, hended, _, _, rfl, ?_, ⟨_, rfl⟩, hW, hsame.mono (by decide) (by decide)⟩
    · show Steps p.tables e below (T3.setTop (mkF m 63 #[.val (.int p0), .val (.long q1), .second, .val (.long q2), .second, .val (.long q3), .second, .val (.int nn), .val (.int pp0), .val (.int pp1), .val (.int pp2), .val (.long vv0), .second, .val (.long vv1), .second, .val (.long vv2), .second, .val (.ref b1), .val (.int (1 : Int32)), .val (.int (0 : Int32)), .val (.int (0 : Int32))] [(.int (1 : Int32)), (.int nn)])) _
      refine XS.icmpYes X3.here hx rfl (pc0 := 63) (pc' := 104) rfl (hb hby at_63) rfl (tlt hc63_7).1 (by decide) (by decide) ?_
      show Steps p.tables e below (T3.setTop (mkF m 104 #[.val (.int p0), .val (.long q1), .second, .val (.long q2), .second, .val (.long q3), .second, .val (.int nn), .val (.int pp0), .val (.int pp1), .val (.int pp2), .val (.long vv0), .second, .val (.long vv1), .second, .val (.long vv2), .second, .val (.ref b1), .val (.int (1 : Int32)), .val (.int (0 : Int32)), .val (.int (0 : Int32))] [])) _
      refine XS.iload X3.here hx rfl (hb hby at_104) rfl ?_
      show Steps p.tables e below (T3.setTop (mkF m 106 #[.val (.int p0), .val (.long q1), .second, .val (.long q2), .second, .val (.long q3), .second, .val (.int nn), .val (.int pp0), .val (.int pp1), .val (.int pp2), .val (.long vv0), .second, .val (.long vv1), .second, .val (.long vv2), .second, .val (.ref b1), .val (.int (1 : Int32)), .val (.int (0 : Int32)), .val (.int (0 : Int32))] [(.int nn)])) _
      refine XS.iconst X3.here hx rfl (hb hby at_106) ?_
      show Steps p.tables e below (T3.setTop (mkF m 107 #[.val (.int p0), .val (.long q1), .second, .val (.long q2), .second, .val (.long q3), .second, .val (.int nn), .val (.int pp0), .val (.int pp1), .val (.int pp2), .val (.long vv0), .second, .val (.long vv1), .second, .val (.long vv2), .second, .val (.ref b1), .val (.int (1 : Int32)), .val (.int (0 : Int32)), .val (.int (0 : Int32))] [(.int (2 : Int32)), (.int nn)])) _
      refine XS.icmpYes X3.here hx rfl (pc0 := 107) (pc' := 149) rfl (hb hby at_107) rfl (tlt hc107_8).1 (by decide) (by decide) ?_
      show Steps p.tables e below (T3.setTop (mkF m 149 #[.val (.int p0), .val (.long q1), .second, .val (.long q2), .second, .val (.long q3), .second, .val (.int nn), .val (.int pp0), .val (.int pp1), .val (.int pp2), .val (.long vv0), .second, .val (.long vv1), .second, .val (.long vv2), .second, .val (.ref b1), .val (.int (1 : Int32)), .val (.int (0 : Int32)), .val (.int (0 : Int32))] [])) _
      refine XS.iload X3.here hx rfl (hb hby at_149) rfl ?_
      show Steps p.tables e below (T3.setTop (mkF m 151 #[.val (.int p0), .val (.long q1), .second, .val (.long q2), .second, .val (.long q3), .second, .val (.int nn), .val (.int pp0), .val (.int pp1), .val (.int pp2), .val (.long vv0), .second, .val (.long vv1), .second, .val (.long vv2), .second, .val (.ref b1), .val (.int (1 : Int32)), .val (.int (0 : Int32)), .val (.int (0 : Int32))] [(.int nn)])) _
      refine XS.iconst X3.here hx rfl (hb hby at_151) ?_
      show Steps p.tables e below (T3.setTop (mkF m 152 #[.val (.int p0), .val (.long q1), .second, .val (.long q2), .second, .val (.long q3), .second, .val (.int nn), .val (.int pp0), .val (.int pp1), .val (.int pp2), .val (.long vv0), .second, .val (.long vv1), .second, .val (.long vv2), .second, .val (.ref b1), .val (.int (1 : Int32)), .val (.int (0 : Int32)), .val (.int (0 : Int32))] [(.int (3 : Int32)), (.int nn)])) _
      refine XS.icmpYes X3.here hx rfl (pc0 := 152) (pc' := 194) rfl (hb hby at_152) rfl (tlt hc152_9).1 (by decide) (by decide) ?_
      show Steps p.tables e below (T3.setTop (mkF m 194 #[.val (.int p0), .val (.long q1), .second, .val (.long q2), .second, .val (.long q3), .second, .val (.int nn), .val (.int pp0), .val (.int pp1), .val (.int pp2), .val (.long vv0), .second, .val (.long vv1), .second, .val (.long vv2), .second, .val (.ref b1), .val (.int (1 : Int32)), .val (.int (0 : Int32)), .val (.int (0 : Int32))] [])) _
      refine XS.iload X3.here hx rfl (hb hby at_194) rfl ?_
      show Steps p.tables e below (T3.setTop (mkF m 196 #[.val (.int p0), .val (.long q1), .second, .val (.long q2), .second, .val (.long q3), .second, .val (.int nn), .val (.int pp0), .val (.int pp1), .val (.int pp2), .val (.long vv0), .second, .val (.long vv1), .second, .val (.long vv2), .second, .val (.ref b1), .val (.int (1 : Int32)), .val (.int (0 : Int32)), .val (.int (0 : Int32))] [(.int nn)])) _
      refine XS.iconst X3.here hx rfl (hb hby at_196) ?_
      show Steps p.tables e below (T3.setTop (mkF m 197 #[.val (.int p0), .val (.long q1), .second, .val (.long q2), .second, .val (.long q3), .second, .val (.int nn), .val (.int pp0), .val (.int pp1), .val (.int pp2), .val (.long vv0), .second, .val (.long vv1), .second, .val (.long vv2), .second, .val (.ref b1), .val (.int (1 : Int32)), .val (.int (0 : Int32)), .val (.int (0 : Int32))] [(.int (1 : Int32)), (.int nn)])) _
      refine XS.icmpYes X3.here hx rfl (pc0 := 197) (pc' := 224) rfl (hb hby at_197) rfl (tlt hc63_7).1 (by decide) (by decide) ?_
      show Steps p.tables e below (T3.setTop (mkF m 224 #[.val (.int p0), .val (.long q1), .second, .val (.long q2), .second, .val (.long q3), .second, .val (.int nn), .val (.int pp0), .val (.int pp1), .val (.int pp2), .val (.long vv0), .second, .val (.long vv1), .second, .val (.long vv2), .second, .val (.ref b1), .val (.int (1 : Int32)), .val (.int (0 : Int32)), .val (.int (0 : Int32))] [])) _
      refine XS.iload X3.here hx rfl (hb hby at_224) rfl ?_
      show Steps p.tables e below (T3.setTop (mkF m 226 #[.val (.int p0), .val (.long q1), .second, .val (.long q2), .second, .val (.long q3), .second, .val (.int nn), .val (.int pp0), .val (.int pp1), .val (.int pp2), .val (.long vv0), .second, .val (.long vv1), .second, .val (.long vv2), .second, .val (.ref b1), .val (.int (1 : Int32)), .val (.int (0 : Int32)), .val (.int (0 : Int32))] [(.int nn)])) _
      refine XS.iconst X3.here hx rfl (hb hby at_226) ?_
      show Steps p.tables e below (T3.setTop (mkF m 227 #[.val (.int p0), .val (.long q1), .second, .val (.long q2), .second, .val (.long q3), .second, .val (.int nn), .val (.int pp0), .val (.int pp1), .val (.int pp2), .val (.long vv0), .second, .val (.long vv1), .second, .val (.long vv2), .second, .val (.ref b1), .val (.int (1 : Int32)), .val (.int (0 : Int32)), .val (.int (0 : Int32))] [(.int (2 : Int32)), (.int nn)])) _
      refine XS.icmpYes X3.here hx rfl (pc0 := 227) (pc' := 254) rfl (hb hby at_227) rfl (tlt hc107_8).1 (by decide) (by decide) ?_
      show Steps p.tables e below (T3.setTop (mkF m 254 #[.val (.int p0), .val (.long q1), .second, .val (.long q2), .second, .val (.long q3), .second, .val (.int nn), .val (.int pp0), .val (.int pp1), .val (.int pp2), .val (.long vv0), .second, .val (.long vv1), .second, .val (.long vv2), .second, .val (.ref b1), .val (.int (1 : Int32)), .val (.int (0 : Int32)), .val (.int (0 : Int32))] [])) _
      refine XS.iload X3.here hx rfl (hb hby at_254) rfl ?_
      show Steps p.tables e below (T3.setTop (mkF m 256 #[.val (.int p0), .val (.long q1), .second, .val (.long q2), .second, .val (.long q3), .second, .val (.int nn), .val (.int pp0), .val (.int pp1), .val (.int pp2), .val (.long vv0), .second, .val (.long vv1), .second, .val (.long vv2), .second, .val (.ref b1), .val (.int (1 : Int32)), .val (.int (0 : Int32)), .val (.int (0 : Int32))] [(.int nn)])) _
      refine XS.iconst X3.here hx rfl (hb hby at_256) ?_
      show Steps p.tables e below (T3.setTop (mkF m 257 #[.val (.int p0), .val (.long q1), .second, .val (.long q2), .second, .val (.long q3), .second, .val (.int nn), .val (.int pp0), .val (.int pp1), .val (.int pp2), .val (.long vv0), .second, .val (.long vv1), .second, .val (.long vv2), .second, .val (.ref b1), .val (.int (1 : Int32)), .val (.int (0 : Int32)), .val (.int (0 : Int32))] [(.int (3 : Int32)), (.int nn)])) _
      refine XS.icmpYes X3.here hx rfl (pc0 := 257) (pc' := 284) rfl (hb hby at_257) rfl (tlt hc152_9).1 (by decide) (by decide) ?_
      show Steps p.tables e below (T3.setTop (mkF m 284 #[.val (.int p0), .val (.long q1), .second, .val (.long q2), .second, .val (.long q3), .second, .val (.int nn), .val (.int pp0), .val (.int pp1), .val (.int pp2), .val (.long vv0), .second, .val (.long vv1), .second, .val (.long vv2), .second, .val (.ref b1), .val (.int (1 : Int32)), .val (.int (0 : Int32)), .val (.int (0 : Int32))] [])) _
      refine XS.aload X3.here hx rfl (hb hby at_284) rfl rfl ?_
      show Steps p.tables e below (T3.setTop (mkF m 286 #[.val (.int p0), .val (.long q1), .second, .val (.long q2), .second, .val (.long q3), .second, .val (.int nn), .val (.int pp0), .val (.int pp1), .val (.int pp2), .val (.long vv0), .second, .val (.long vv1), .second, .val (.long vv2), .second, .val (.ref b1), .val (.int (1 : Int32)), .val (.int (0 : Int32)), .val (.int (0 : Int32))] [(.ref b1)])) _
      refine XS.iconst X3.here hx rfl (hb hby at_286) ?_
      show Steps p.tables e below (T3.setTop (mkF m 287 #[.val (.int p0), .val (.long q1), .second, .val (.long q2), .second, .val (.long q3), .second, .val (.int nn), .val (.int pp0), .val (.int pp1), .val (.int pp2), .val (.long vv0), .second, .val (.long vv1), .second, .val (.long vv2), .second, .val (.ref b1), .val (.int (1 : Int32)), .val (.int (0 : Int32)), .val (.int (0 : Int32))] [(.int (2 : Int32)), (.ref b1)])) _
      refine st12.trans ?_
      show Steps p.tables e below (T12.setTop (mkF m 290 #[.val (.int p0), .val (.long q1), .second, .val (.long q2), .second, .val (.long q3), .second, .val (.int nn), .val (.int pp0), .val (.int pp1), .val (.int pp2), .val (.long vv0), .second, .val (.long vv1), .second, .val (.long vv2), .second, .val (.ref b1), .val (.int (1 : Int32)), .val (.int (0 : Int32)), .val (.int (0 : Int32))] [])) _
      refine XS.iload X12.here hx rfl (hb hby at_290) rfl ?_
      show Steps p.tables e below (T12.setTop (mkF m 292 #[.val (.int p0), .val (.long q1), .second, .val (.long q2), .second, .val (.long q3), .second, .val (.int nn), .val (.int pp0), .val (.int pp1), .val (.int pp2), .val (.long vv0), .second, .val (.long vv1), .second, .val (.long vv2), .second, .val (.ref b1), .val (.int (1 : Int32)), .val (.int (0 : Int32)), .val (.int (0 : Int32))] [(.int (1 : Int32))])) _
      refine XS.ifNo X12.here hx rfl (hb hby at_292) rfl ((if0 _ _).trans (feq (by decide)).1) ?_
      show Steps p.tables e below (T12.setTop (mkF m 295 #[.val (.int p0), .val (.long q1), .second, .val (.long q2), .second, .val (.long q3), .second, .val (.int nn), .val (.int pp0), .val (.int pp1), .val (.int pp2), .val (.long vv0), .second, .val (.long vv1), .second, .val (.long vv2), .second, .val (.ref b1), .val (.int (1 : Int32)), .val (.int (0 : Int32)), .val (.int (0 : Int32))] [])) _
      refine XS.aload X12.here hx rfl (hb hby at_295) rfl rfl ?_
      show Steps p.tables e below (T12.setTop (mkF m 297 #[.val (.int p0), .val (.long q1), .second, .val (.long q2), .second, .val (.long q3), .second, .val (.int nn), .val (.int pp0), .val (.int pp1), .val (.int pp2), .val (.long vv0), .second, .val (.long vv1), .second, .val (.long vv2), .second, .val (.ref b1), .val (.int (1 : Int32)), .val (.int (0 : Int32)), .val (.int (0 : Int32))] [(.ref b1)])) _
      refine XS.iconst X12.here hx rfl (hb hby at_297) ?_
      show Steps p.tables e below (T12.setTop (mkF m 298 #[.val (.int p0), .val (.long q1), .second, .val (.long q2), .second, .val (.long q3), .second, .val (.int nn), .val (.int pp0), .val (.int pp1), .val (.int pp2), .val (.long vv0), .second, .val (.long vv1), .second, .val (.long vv2), .second, .val (.ref b1), .val (.int (1 : Int32)), .val (.int (0 : Int32)), .val (.int (0 : Int32))] [(.int (0 : Int32)), (.ref b1)])) _
      refine XS.aconstNull X12.here hx rfl (hb hby at_298) ?_
      show Steps p.tables e below (T12.setTop (mkF m 299 #[.val (.int p0), .val (.long q1), .second, .val (.long q2), .second, .val (.long q3), .second, .val (.int nn), .val (.int pp0), .val (.int pp1), .val (.int pp2), .val (.long vv0), .second, .val (.long vv1), .second, .val (.long vv2), .second, .val (.ref b1), .val (.int (1 : Int32)), .val (.int (0 : Int32)), .val (.int (0 : Int32))] [.null, (.int (0 : Int32)), (.ref b1)])) _
      refine st19.trans ?_
      show Steps p.tables e below (T19.setTop (mkF m 302 #[.val (.int p0), .val (.long q1), .second, .val (.long q2), .second, .val (.long q3), .second, .val (.int nn), .val (.int pp0), .val (.int pp1), .val (.int pp2), .val (.long vv0), .second, .val (.long vv1), .second, .val (.long vv2), .second, .val (.ref b1), .val (.int (1 : Int32)), .val (.int (0 : Int32)), .val (.int (0 : Int32))] [(.ref b_19)])) _
      refine st26.trans ?_
      show Steps p.tables e below (T26.setTop (mkF m 307 #[.val (.int p0), .val (.long q1), .second, .val (.long q2), .second, .val (.long q3), .second, .val (.int nn), .val (.int pp0), .val (.int pp1), .val (.int pp2), .val (.long vv0), .second, .val (.long vv1), .second, .val (.long vv2), .second, .val (.ref b1), .val (.int (1 : Int32)), .val (.int (0 : Int32)), .val (.int (0 : Int32))] [(.int (((Int32.ofNat (own_zc (own_f ac0 ac1 ac2) 0)) + (0 : Int32)) - (0 : Int32)))])) _
      refine XS.iload X26.here hx rfl (hb hby at_307) rfl ?_
      show Steps p.tables e below (T26.setTop (mkF m 309 #[.val (.int p0), .val (.long q1), .second, .val (.long q2), .second, .val (.long q3), .second, .val (.int nn), .val (.int pp0), .val (.int pp1), .val (.int pp2), .val (.long vv0), .second, .val (.long vv1), .second, .val (.long vv2), .second, .val (.ref b1), .val (.int (1 : Int32)), .val (.int (0 : Int32)), .val (.int (0 : Int32))] [(.int (0 : Int32)), (.int (((Int32.ofNat (own_zc (own_f ac0 ac1 ac2) 0)) + (0 : Int32)) - (0 : Int32)))])) _
      refine XS.icmpNo X26.here hx rfl (hb hby at_309) rfl (teq hc309_27).2 ?_
      show Steps p.tables e below (T26.setTop (mkF m 312 #[.val (.int p0), .val (.long q1), .second, .val (.long q2), .second, .val (.long q3), .second, .val (.int nn), .val (.int pp0), .val (.int pp1), .val (.int pp2), .val (.long vv0), .second, .val (.long vv1), .second, .val (.long vv2), .second, .val (.ref b1), .val (.int (1 : Int32)), .val (.int (0 : Int32)), .val (.int (0 : Int32))] [])) _
      refine XS.iconst X26.here hx rfl (hb hby at_312) ?_
      show Steps p.tables e below (T26.setTop (mkF m 313 #[.val (.int p0), .val (.long q1), .second, .val (.long q2), .second, .val (.long q3), .second, .val (.int nn), .val (.int pp0), .val (.int pp1), .val (.int pp2), .val (.long vv0), .second, .val (.long vv1), .second, .val (.long vv2), .second, .val (.ref b1), .val (.int (1 : Int32)), .val (.int (0 : Int32)), .val (.int (0 : Int32))] [(.int (1 : Int32))])) _
      refine XS.goto X26.here hx rfl (pc0 := 313) (pc' := 317) rfl (hb hby at_313) (by decide) (by decide) ?_
      show Steps p.tables e below (T26.setTop (mkF m 317 #[.val (.int p0), .val (.long q1), .second, .val (.long q2), .second, .val (.long q3), .second, .val (.int nn), .val (.int pp0), .val (.int pp1), .val (.int pp2), .val (.long vv0), .second, .val (.long vv1), .second, .val (.long vv2), .second, .val (.ref b1), .val (.int (1 : Int32)), .val (.int (0 : Int32)), .val (.int (0 : Int32))] [(.int (1 : Int32))])) _
      refine XS.istore X26.here hx rfl (hb hby at_317) rfl (l' := #[.val (.int p0), .val (.long q1), .second, .val (.long q2), .second, .val (.long q3), .second, .val (.int nn), .val (.int pp0), .val (.int pp1), .val (.int pp2), .val (.long vv0), .second, .val (.long vv1), .second, .val (.long vv2), .second, .val (.ref b1), .val (.int (1 : Int32)), .val (.int (0 : Int32)), .val (.int (0 : Int32))]) rfl ?_
      show Steps p.tables e below (T26.setTop (mkF m 319 #[.val (.int p0), .val (.long q1), .second, .val (.long q2), .second, .val (.long q3), .second, .val (.int nn), .val (.int pp0), .val (.int pp1), .val (.int pp2), .val (.long vv0), .second, .val (.long vv1), .second, .val (.long vv2), .second, .val (.ref b1), .val (.int (1 : Int32)), .val (.int (0 : Int32)), .val (.int (0 : Int32))] [])) _
      refine XS.iload X26.here hx rfl (hb hby at_319) rfl ?_
      show Steps p.tables e below (T26.setTop (mkF m 321 #[.val (.int p0), .val (.long q1), .second, .val (.long q2), .second, .val (.long q3), .second, .val (.int nn), .val (.int pp0), .val (.int pp1), .val (.int pp2), .val (.long vv0), .second, .val (.long vv1), .second, .val (.long vv2), .second, .val (.ref b1), .val (.int (1 : Int32)), .val (.int (0 : Int32)), .val (.int (0 : Int32))] [(.int (1 : Int32))])) _
      refine XS.ifNo X26.here hx rfl (hb hby at_321) rfl ((if0 _ _).trans (feq (by decide)).1) ?_
      show Steps p.tables e below (T26.setTop (mkF m 324 #[.val (.int p0), .val (.long q1), .second, .val (.long q2), .second, .val (.long q3), .second, .val (.int nn), .val (.int pp0), .val (.int pp1), .val (.int pp2), .val (.long vv0), .second, .val (.long vv1), .second, .val (.long vv2), .second, .val (.ref b1), .val (.int (1 : Int32)), .val (.int (0 : Int32)), .val (.int (0 : Int32))] [])) _
      refine XS.aload X26.here hx rfl (hb hby at_324) rfl rfl ?_
      show Steps p.tables e below (T26.setTop (mkF m 326 #[.val (.int p0), .val (.long q1), .second, .val (.long q2), .second, .val (.long q3), .second, .val (.int nn), .val (.int pp0), .val (.int pp1), .val (.int pp2), .val (.long vv0), .second, .val (.long vv1), .second, .val (.long vv2), .second, .val (.ref b1), .val (.int (1 : Int32)), .val (.int (0 : Int32)), .val (.int (0 : Int32))] [(.ref b1)])) _
      refine XS.iconst X26.here hx rfl (hb hby at_326) ?_
      show Steps p.tables e below (T26.setTop (mkF m 327 #[.val (.int p0), .val (.long q1), .second, .val (.long q2), .second, .val (.long q3), .second, .val (.int nn), .val (.int pp0), .val (.int pp1), .val (.int pp2), .val (.long vv0), .second, .val (.long vv1), .second, .val (.long vv2), .second, .val (.ref b1), .val (.int (1 : Int32)), .val (.int (0 : Int32)), .val (.int (0 : Int32))] [(.int (1 : Int32)), (.ref b1)])) _
      refine XS.aconstNull X26.here hx rfl (hb hby at_327) ?_
      show Steps p.tables e below (T26.setTop (mkF m 328 #[.val (.int p0), .val (.long q1), .second, .val (.long q2), .second, .val (.long q3), .second, .val (.int nn), .val (.int pp0), .val (.int pp1), .val (.int pp2), .val (.long vv0), .second, .val (.long vv1), .second, .val (.long vv2), .second, .val (.ref b1), .val (.int (1 : Int32)), .val (.int (0 : Int32)), .val (.int (0 : Int32))] [.null, (.int (1 : Int32)), (.ref b1)])) _
      refine st34.trans ?_
      show Steps p.tables e below (T34.setTop (mkF m 331 #[.val (.int p0), .val (.long q1), .second, .val (.long q2), .second, .val (.long q3), .second, .val (.int nn), .val (.int pp0), .val (.int pp1), .val (.int pp2), .val (.long vv0), .second, .val (.long vv1), .second, .val (.long vv2), .second, .val (.ref b1), .val (.int (1 : Int32)), .val (.int (0 : Int32)), .val (.int (0 : Int32))] [(.ref b_34)])) _
      refine st42.trans ?_
      show Steps p.tables e below (T42.setTop (mkF m 336 #[.val (.int p0), .val (.long q1), .second, .val (.long q2), .second, .val (.long q3), .second, .val (.int nn), .val (.int pp0), .val (.int pp1), .val (.int pp2), .val (.long vv0), .second, .val (.long vv1), .second, .val (.long vv2), .second, .val (.ref b1), .val (.int (1 : Int32)), .val (.int (0 : Int32)), .val (.int (0 : Int32))] [(.int (((Int32.ofNat (own_oc (own_f ac0 ac1 ac2) 0)) + ((Int32.ofNat (own_zc (own_f ac0 ac1 ac2) 0)) + (0 : Int32))) - ((Int32.ofNat (own_zc (own_f ac0 ac1 ac2) 0)) + (0 : Int32))))])) _
      refine XS.iload X42.here hx rfl (hb hby at_336) rfl ?_
      show Steps p.tables e below (T42.setTop (mkF m 338 #[.val (.int p0), .val (.long q1), .second, .val (.long q2), .second, .val (.long q3), .second, .val (.int nn), .val (.int pp0), .val (.int pp1), .val (.int pp2), .val (.long vv0), .second, .val (.long vv1), .second, .val (.long vv2), .second, .val (.ref b1), .val (.int (1 : Int32)), .val (.int (0 : Int32)), .val (.int (0 : Int32))] [(.int (0 : Int32)), (.int (((Int32.ofNat (own_oc (own_f ac0 ac1 ac2) 0)) + ((Int32.ofNat (own_zc (own_f ac0 ac1 ac2) 0)) + (0 : Int32))) - ((Int32.ofNat (own_zc (own_f ac0 ac1 ac2) 0)) + (0 : Int32))))])) _
      refine XS.icmpNo X42.here hx rfl (hb hby at_338) rfl (teq hc338_43).2 ?_
      show Steps p.tables e below (T42.setTop (mkF m 341 #[.val (.int p0), .val (.long q1), .second, .val (.long q2), .second, .val (.long q3), .second, .val (.int nn), .val (.int pp0), .val (.int pp1), .val (.int pp2), .val (.long vv0), .second, .val (.long vv1), .second, .val (.long vv2), .second, .val (.ref b1), .val (.int (1 : Int32)), .val (.int (0 : Int32)), .val (.int (0 : Int32))] [])) _
      refine XS.iconst X42.here hx rfl (hb hby at_341) ?_
      show Steps p.tables e below (T42.setTop (mkF m 342 #[.val (.int p0), .val (.long q1), .second, .val (.long q2), .second, .val (.long q3), .second, .val (.int nn), .val (.int pp0), .val (.int pp1), .val (.int pp2), .val (.long vv0), .second, .val (.long vv1), .second, .val (.long vv2), .second, .val (.ref b1), .val (.int (1 : Int32)), .val (.int (0 : Int32)), .val (.int (0 : Int32))] [(.int (1 : Int32))])) _
      refine XS.goto X42.here hx rfl (pc0 := 342) (pc' := 346) rfl (hb hby at_342) (by decide) (by decide) ?_
      show Steps p.tables e below (T42.setTop (mkF m 346 #[.val (.int p0), .val (.long q1), .second, .val (.long q2), .second, .val (.long q3), .second, .val (.int nn), .val (.int pp0), .val (.int pp1), .val (.int pp2), .val (.long vv0), .second, .val (.long vv1), .second, .val (.long vv2), .second, .val (.ref b1), .val (.int (1 : Int32)), .val (.int (0 : Int32)), .val (.int (0 : Int32))] [(.int (1 : Int32))])) _
      refine XS.istore X42.here hx rfl (hb hby at_346) rfl (l' := #[.val (.int p0), .val (.long q1), .second, .val (.long q2), .second, .val (.long q3), .second, .val (.int nn), .val (.int pp0), .val (.int pp1), .val (.int pp2), .val (.long vv0), .second, .val (.long vv1), .second, .val (.long vv2), .second, .val (.ref b1), .val (.int (1 : Int32)), .val (.int (0 : Int32)), .val (.int (0 : Int32))]) rfl ?_
      show Steps p.tables e below (T42.setTop (mkF m 348 #[.val (.int p0), .val (.long q1), .second, .val (.long q2), .second, .val (.long q3), .second, .val (.int nn), .val (.int pp0), .val (.int pp1), .val (.int pp2), .val (.long vv0), .second, .val (.long vv1), .second, .val (.long vv2), .second, .val (.ref b1), .val (.int (1 : Int32)), .val (.int (0 : Int32)), .val (.int (0 : Int32))] [])) _
      refine XS.iload X42.here hx rfl (hb hby at_348) rfl ?_
      show Steps p.tables e below (T42.setTop (mkF m 350 #[.val (.int p0), .val (.long q1), .second, .val (.long q2), .second, .val (.long q3), .second, .val (.int nn), .val (.int pp0), .val (.int pp1), .val (.int pp2), .val (.long vv0), .second, .val (.long vv1), .second, .val (.long vv2), .second, .val (.ref b1), .val (.int (1 : Int32)), .val (.int (0 : Int32)), .val (.int (0 : Int32))] [(.int (1 : Int32))])) _
      exact retN X42 hx (t := .boolean) Bd.returns (by simp) (hb hby at_350) hr
    · show Q0 Z p0 q1 q2 q3 h0 n0 _ T42.heap _
      exact ⟨rfl, N42⟩
  · skip
    have c44 : Exa Z T3.heap b1 "com/example/vestwright/vestwright/ParticipantRows" := (A1.keep K3)
    have z45 : n0 ≤ T3.heap.size := (Nat.le_trans z2 K3.1)
    obtain ⟨cq46, kq46, q46a, q46b, q46c⟩ := isOf hZ rfl c44
    -- pc 77: ParticipantRows.add by rm2
    obtain ⟨_, _, ⟨T46, L46, k46, n46⟩, -, X46, ⟨Lc46, hQ46, l46, y46, z46'⟩, st46⟩ := X3.virtualBack hx (y := (⟨"com/example/vestwright/vestwright/ParticipantRows", "add", "(IJ)I"⟩ : MethodName)) (z := (⟨"com/example/vestwright/vestwright/ParticipantRows", "add", "(IJ)I"⟩ : MethodName)) hown (mvT hZ (hw _ (List.mem_of_getElem? (i := 79) rfl))) (mvT hZ (hw _ (List.mem_of_getElem? (i := 80) rfl))) (notFace_of_selects (args := #[]) (mvT hZ (hw _ (List.mem_of_getElem? (i := 82) rfl)))) (mvT hZ (hw _ (List.mem_of_getElem? (i := 82) rfl))) (mvT hZ (hw _ (List.mem_of_getElem? (i := 81) rfl))) (by decide) (backOf (W := 0) (rm2 l Z a0 hw [] b1 pp0 vv0 0 (0 : Int32) pa_3 la_3 kp_3 kl_3 [] [] T3.heap n0 z45 c44 r7_3 r3_3 r4_3 r8_3 r9_3 r5_3 r6_3 ne4 ne5 r2_3 g_b1 g_pa_3 g_la_3 (by decide) (by decide) rfl rfl h_vv0) hZ (hw _ (List.mem_of_getElem? (i := 83) rfl)) (hw _ (List.mem_of_getElem? (i := 2) rfl)) (by decide) (by decide)) q46a q46c (g := (mkF m 77 #[.val (.int p0), .val (.long q1), .second, .val (.long q2), .second, .val (.long q3), .second, .val (.int nn), .val (.int pp0), .val (.int pp1), .val (.int pp2), .val (.long vv0), .second, .val (.long vv1), .second, .val (.long vv2), .second, .val (.ref b1), .val (.int (1 : Int32)), .val (.int (0 : Int32)), .val (.int (0 : Int32))] [(.long vv0), (.int pp0), (.ref b1)])) rfl (by rw [hml]; rfl) (Steps.refl _) (argsL := [(.int pp0), (.long vv0)]) (rest := []) (lenOf pd_8 rfl) rfl (by show 2 * 0 + _ ≤ _; exact Nat.le_of_eq rfl) (hb hby at_77) (fun _ _ => ⟨rfl, rfl, (by decide : 3 + 0 ≤ _), (by decide : 2053 + 0 ≤ _)⟩)
    dsimp only [Pt.U, Pt.locs, Pt.cells, Pt.slots] at X46 l46 y46 z46' st46 hQ46
    subst l46 y46 z46'
    obtain ⟨rfl, N46q, K46, r0_46, r1_46, r2_46, r3_46, r4_46, r5_46, r6_46⟩ := hQ46
    have N46 := Fr.app N3 N46q
    have J46 : Keep h0 T46.heap [] := J3.trans K46 (allS (Or.inr sz_b1) (allS (Or.inr sz_pa_3) (allS (Or.inr sz_la_3) all0)))
    obtain ⟨zer0, e_zer0⟩ : ∃ z : Int32, z = (if pp0 = (0 : Int32) then (1 : Int32) else (0 : Int32)) := ⟨_, rfl⟩
    obtain ⟨one0, e_one0⟩ : ∃ z : Int32, z = (if pp0 = (0 : Int32) then (0 : Int32) else (1 : Int32)) := ⟨_, rfl⟩
    have pre48 : ∀ t, Steps p.tables e below (T46.setTop (mkF m 104 #[.val (.int p0), .val (.long q1), .second, .val (.long q2), .second, .val (.long q3), .second, .val (.int nn), .val (.int pp0), .val (.int pp1), .val (.int pp2), .val (.long vv0), .second, .val (.long vv1), .second, .val (.long vv2), .second, .val (.ref b1), .val (.int (1 : Int32)), .val (.int zer0), .val (.int one0)] [])) t → Steps p.tables e below (s₁.setTop (entryFrame m #[(.int p0), (.long q1), (.long q2), (.long q3)] maxLocals)) t := by
      intro t kt
      refine pre6 _ ?_
      show Steps p.tables e below (T3.setTop (mkF m 63 #[.val (.int p0), .val (.long q1), .second, .val (.long q2), .second, .val (.long q3), .second, .val (.int nn), .val (.int pp0), .val (.int pp1), .val (.int pp2), .val (.long vv0), .second, .val (.long vv1), .second, .val (.long vv2), .second, .val (.ref b1), .val (.int (1 : Int32)), .val (.int (0 : Int32)), .val (.int (0 : Int32))] [(.int (1 : Int32)), (.int nn)])) _
      refine XS.icmpNo X3.here hx rfl (hb hby at_63) rfl (flt hc63_7).1 ?_
      show Steps p.tables e below (T3.setTop (mkF m 66 #[.val (.int p0), .val (.long q1), .second, .val (.long q2), .second, .val (.long q3), .second, .val (.int nn), .val (.int pp0), .val (.int pp1), .val (.int pp2), .val (.long vv0), .second, .val (.long vv1), .second, .val (.long vv2), .second, .val (.ref b1), .val (.int (1 : Int32)), .val (.int (0 : Int32)), .val (.int (0 : Int32))] [])) _
      refine XS.iload X3.here hx rfl (hb hby at_66) rfl ?_
      show Steps p.tables e below (T3.setTop (mkF m 68 #[.val (.int p0), .val (.long q1), .second, .val (.long q2), .second, .val (.long q3), .second, .val (.int nn), .val (.int pp0), .val (.int pp1), .val (.int pp2), .val (.long vv0), .second, .val (.long vv1), .second, .val (.long vv2), .second, .val (.ref b1), .val (.int (1 : Int32)), .val (.int (0 : Int32)), .val (.int (0 : Int32))] [(.int (1 : Int32))])) _
      refine XS.ifNo X3.here hx rfl (hb hby at_68) rfl ((if0 _ _).trans (feq (by decide)).1) ?_
      show Steps p.tables e below (T3.setTop (mkF m 71 #[.val (.int p0), .val (.long q1), .second, .val (.long q2), .second, .val (.long q3), .second, .val (.int nn), .val (.int pp0), .val (.int pp1), .val (.int pp2), .val (.long vv0), .second, .val (.long vv1), .second, .val (.long vv2), .second, .val (.ref b1), .val (.int (1 : Int32)), .val (.int (0 : Int32)), .val (.int (0 : Int32))] [])) _
      refine XS.aload X3.here hx rfl (hb hby at_71) rfl rfl ?_
      show Steps p.tables e below (T3.setTop (mkF m 73 #[.val (.int p0), .val (.long q1), .second, .val (.long q2), .second, .val (.long q3), .second, .val (.int nn), .val (.int pp0), .val (.int pp1), .val (.int pp2), .val (.long vv0), .second, .val (.long vv1), .second, .val (.long vv2), .second, .val (.ref b1), .val (.int (1 : Int32)), .val (.int (0 : Int32)), .val (.int (0 : Int32))] [(.ref b1)])) _
      refine XS.iload X3.here hx rfl (hb hby at_73) rfl ?_
      show Steps p.tables e below (T3.setTop (mkF m 75 #[.val (.int p0), .val (.long q1), .second, .val (.long q2), .second, .val (.long q3), .second, .val (.int nn), .val (.int pp0), .val (.int pp1), .val (.int pp2), .val (.long vv0), .second, .val (.long vv1), .second, .val (.long vv2), .second, .val (.ref b1), .val (.int (1 : Int32)), .val (.int (0 : Int32)), .val (.int (0 : Int32))] [(.int pp0), (.ref b1)])) _
      refine XS.lload X3.here hx rfl (hb hby at_75) rfl ?_
      show Steps p.tables e below (T3.setTop (mkF m 77 #[.val (.int p0), .val (.long q1), .second, .val (.long q2), .second, .val (.long q3), .second, .val (.int nn), .val (.int pp0), .val (.int pp1), .val (.int pp2), .val (.long vv0), .second, .val (.long vv1), .second, .val (.long vv2), .second, .val (.ref b1), .val (.int (1 : Int32)), .val (.int (0 : Int32)), .val (.int (0 : Int32))] [(.long vv0), (.int pp0), (.ref b1)])) _
      refine st46.trans ?_
      show Steps p.tables e below (T46.setTop (mkF m 80 #[.val (.int p0), .val (.long q1), .second, .val (.long q2), .second, .val (.long q3), .second, .val (.int nn), .val (.int pp0), .val (.int pp1), .val (.int pp2), .val (.long vv0), .second, .val (.long vv1), .second, .val (.long vv2), .second, .val (.ref b1), .val (.int (1 : Int32)), .val (.int (0 : Int32)), .val (.int (0 : Int32))] [(.int (0 : Int32))])) _
      refine XS.ifNo X46.here hx rfl (hb hby at_80) rfl ((if0 _ _).trans (teq (by decide)).2) ?_
      show Steps p.tables e below (T46.setTop (mkF m 83 #[.val (.int p0), .val (.long q1), .second, .val (.long q2), .second, .val (.long q3), .second, .val (.int nn), .val (.int pp0), .val (.int pp1), .val (.int pp2), .val (.long vv0), .second, .val (.long vv1), .second, .val (.long vv2), .second, .val (.ref b1), .val (.int (1 : Int32)), .val (.int (0 : Int32)), .val (.int (0 : Int32))] [])) _
      refine XS.iconst X46.here hx rfl (hb hby at_83) ?_
      show Steps p.tables e below (T46.setTop (mkF m 84 #[.val (.int p0), .val (.long q1), .second, .val (.long q2), .second, .val (.long q3), .second, .val (.int nn), .val (.int pp0), .val (.int pp1), .val (.int pp2), .val (.long vv0), .second, .val (.long vv1), .second, .val (.long vv2), .second, .val (.ref b1), .val (.int (1 : Int32)), .val (.int (0 : Int32)), .val (.int (0 : Int32))] [(.int (1 : Int32))])) _
      refine XS.goto X46.here hx rfl (pc0 := 84) (pc' := 88) rfl (hb hby at_84) (by decide) (by decide) ?_
      show Steps p.tables e below (T46.setTop (mkF m 88 #[.val (.int p0), .val (.long q1), .second, .val (.long q2), .second, .val (.long q3), .second, .val (.int nn), .val (.int pp0), .val (.int pp1), .val (.int pp2), .val (.long vv0), .second, .val (.long vv1), .second, .val (.long vv2), .second, .val (.ref b1), .val (.int (1 : Int32)), .val (.int (0 : Int32)), .val (.int (0 : Int32))] [(.int (1 : Int32))])) _
      refine XS.istore X46.here hx rfl (hb hby at_88) rfl (l' := #[.val (.int p0), .val (.long q1), .second, .val (.long q2), .second, .val (.long q3), .second, .val (.int nn), .val (.int pp0), .val (.int pp1), .val (.int pp2), .val (.long vv0), .second, .val (.long vv1), .second, .val (.long vv2), .second, .val (.ref b1), .val (.int (1 : Int32)), .val (.int (0 : Int32)), .val (.int (0 : Int32))]) rfl ?_
      show Steps p.tables e below (T46.setTop (mkF m 90 #[.val (.int p0), .val (.long q1), .second, .val (.long q2), .second, .val (.long q3), .second, .val (.int nn), .val (.int pp0), .val (.int pp1), .val (.int pp2), .val (.long vv0), .second, .val (.long vv1), .second, .val (.long vv2), .second, .val (.ref b1), .val (.int (1 : Int32)), .val (.int (0 : Int32)), .val (.int (0 : Int32))] [])) _
      refine XS.iload X46.here hx rfl (hb hby at_90) rfl ?_
      by_cases hc92_47 : pp0 = (0 : Int32)
      · rw [if_pos hc92_47] at e_zer0; rw [if_pos hc92_47] at e_one0
        show Steps p.tables e below (T46.setTop (mkF m 92 #[.val (.int p0), .val (.long q1), .second, .val (.long q2), .second, .val (.long q3), .second, .val (.int nn), .val (.int pp0), .val (.int pp1), .val (.int pp2), .val (.long vv0), .second, .val (.long vv1), .second, .val (.long vv2), .second, .val (.ref b1), .val (.int (1 : Int32)), .val (.int (0 : Int32)), .val (.int (0 : Int32))] [(.int pp0)])) _
        refine XS.ifNo X46.here hx rfl (hb hby at_92) rfl ((if0 _ _).trans (teq hc92_47).2) ?_
        show Steps p.tables e below (T46.setTop (mkF m 95 #[.val (.int p0), .val (.long q1), .second, .val (.long q2), .second, .val (.long q3), .second, .val (.int nn), .val (.int pp0), .val (.int pp1), .val (.int pp2), .val (.long vv0), .second, .val (.long vv1), .second, .val (.long vv2), .second, .val (.ref b1), .val (.int (1 : Int32)), .val (.int (0 : Int32)), .val (.int (0 : Int32))] [])) _
        refine XS.iinc X46.here hx rfl (hb hby at_95) rfl (l' := #[.val (.int p0), .val (.long q1), .second, .val (.long q2), .second, .val (.long q3), .second, .val (.int nn), .val (.int pp0), .val (.int pp1), .val (.int pp2), .val (.long vv0), .second, .val (.long vv1), .second, .val (.long vv2), .second, .val (.ref b1), .val (.int (1 : Int32)), .val (.int (1 : Int32)), .val (.int (0 : Int32))]) rfl ?_
        show Steps p.tables e below (T46.setTop (mkF m 98 #[.val (.int p0), .val (.long q1), .second, .val (.long q2), .second, .val (.long q3), .second, .val (.int nn), .val (.int pp0), .val (.int pp1), .val (.int pp2), .val (.long vv0), .second, .val (.long vv1), .second, .val (.long vv2), .second, .val (.ref b1), .val (.int (1 : Int32)), .val (.int (1 : Int32)), .val (.int (0 : Int32))] [])) _
        refine XS.goto X46.here hx rfl (pc0 := 98) (pc' := 104) rfl (hb hby at_98) (by decide) (by decide) ?_
        subst e_zer0
        subst e_one0
        exact kt
      · rw [if_neg hc92_47] at e_zer0; rw [if_neg hc92_47] at e_one0
        show Steps p.tables e below (T46.setTop (mkF m 92 #[.val (.int p0), .val (.long q1), .second, .val (.long q2), .second, .val (.long q3), .second, .val (.int nn), .val (.int pp0), .val (.int pp1), .val (.int pp2), .val (.long vv0), .second, .val (.long vv1), .second, .val (.long vv2), .second, .val (.ref b1), .val (.int (1 : Int32)), .val (.int (0 : Int32)), .val (.int (0 : Int32))] [(.int pp0)])) _
        refine XS.ifYes X46.here hx rfl (pc0 := 92) (pc' := 101) rfl (hb hby at_92) rfl ((if0 _ _).trans (feq hc92_47).2) (by decide) (by decide) ?_
        show Steps p.tables e below (T46.setTop (mkF m 101 #[.val (.int p0), .val (.long q1), .second, .val (.long q2), .second, .val (.long q3), .second, .val (.int nn), .val (.int pp0), .val (.int pp1), .val (.int pp2), .val (.long vv0), .second, .val (.long vv1), .second, .val (.long vv2), .second, .val (.ref b1), .val (.int (1 : Int32)), .val (.int (0 : Int32)), .val (.int (0 : Int32))] [])) _
        refine XS.iinc X46.here hx rfl (hb hby at_101) rfl (l' := #[.val (.int p0), .val (.long q1), .second, .val (.long q2), .second, .val (.long q3), .second, .val (.int nn), .val (.int pp0), .val (.int pp1), .val (.int pp2), .val (.long vv0), .second, .val (.long vv1), .second, .val (.long vv2), .second, .val (.ref b1), .val (.int (1 : Int32)), .val (.int (0 : Int32)), .val (.int (1 : Int32))]) rfl ?_
        subst e_zer0
        subst e_one0
        exact kt
    have pre49 : ∀ t, Steps p.tables e below (T46.setTop (mkF m 107 #[.val (.int p0), .val (.long q1), .second, .val (.long q2), .second, .val (.long q3), .second, .val (.int nn), .val (.int pp0), .val (.int pp1), .val (.int pp2), .val (.long vv0), .second, .val (.long vv1), .second, .val (.long vv2), .second, .val (.ref b1), .val (.int (1 : Int32)), .val (.int zer0), .val (.int one0)] [(.int (2 : Int32)), (.int nn)])) t → Steps p.tables e below (s₁.setTop (entryFrame m #[(.int p0), (.long q1), (.long q2), (.long q3)] maxLocals)) t := by
      intro t kt
      refine pre48 _ ?_
      show Steps p.tables e below (T46.setTop (mkF m 104 #[.val (.int p0), .val (.long q1), .second, .val (.long q2), .second, .val (.long q3), .second, .val (.int nn), .val (.int pp0), .val (.int pp1), .val (.int pp2), .val (.long vv0), .second, .val (.long vv1), .second, .val (.long vv2), .second, .val (.ref b1), .val (.int (1 : Int32)), .val (.int zer0), .val (.int one0)] [])) _
      refine XS.iload X46.here hx rfl (hb hby at_104) rfl ?_
      show Steps p.tables e below (T46.setTop (mkF m 106 #[.val (.int p0), .val (.long q1), .second, .val (.long q2), .second, .val (.long q3), .second, .val (.int nn), .val (.int pp0), .val (.int pp1), .val (.int pp2), .val (.long vv0), .second, .val (.long vv1), .second, .val (.long vv2), .second, .val (.ref b1), .val (.int (1 : Int32)), .val (.int zer0), .val (.int one0)] [(.int nn)])) _
      refine XS.iconst X46.here hx rfl (hb hby at_106) ?_
      exact kt
    by_cases hc107_50 : nn < (2 : Int32)
    · skip
      have hc152_51 : nn < (3 : Int32) := own_23 hc107_50
      have z52 : n0 ≤ T46.heap.size := (Nat.le_trans z45 K46.1)
      have c54 : Exa Z T46.heap b1 "com/example/vestwright/vestwright/ParticipantRows" := (c44.keep K46)
      obtain ⟨cq53, kq53, q53a, q53b, q53c⟩ := isOf hZ rfl c54
      -- pc 208: ParticipantRows.line by rm3
      obtain ⟨_, _, ⟨T53, L53, k53, n53⟩, -, X53, ⟨Lc53, hQ53, l53, y53, z53'⟩, st53⟩ := X46.virtualBack hx (y := (⟨"com/example/vestwright/vestwright/ParticipantRows", "line", "(I)J"⟩ : MethodName)) (z := (⟨"com/example/vestwright/vestwright/ParticipantRows", "line", "(I)J"⟩ : MethodName)) hown (mvT hZ (hw _ (List.mem_of_getElem? (i := 87) rfl))) (mvT hZ (hw _ (List.mem_of_getElem? (i := 88) rfl))) (notFace_of_selects (args := #[]) (mvT hZ (hw _ (List.mem_of_getElem? (i := 90) rfl)))) (mvT hZ (hw _ (List.mem_of_getElem? (i := 90) rfl))) (mvT hZ (hw _ (List.mem_of_getElem? (i := 89) rfl))) (by decide) (backOf (W := 0) (rm3 l Z a0 hw [] b1 (0 : Int32) (vv0.toInt32) la_3 kl_3 ([] ++ [(.int (vv0.toInt32))]) T46.heap n0 z52 r2_46 r6_46 (by decide) rfl) hZ (hw _ (List.mem_of_getElem? (i := 91) rfl)) (hw _ (List.mem_of_getElem? (i := 2) rfl)) (by decide) (by decide)) q53a q53c (g := (mkF m 208 #[.val (.int p0), .val (.long q1), .second, .val (.long q2), .second, .val (.long q3), .second, .val (.int nn), .val (.int pp0), .val (.int pp1), .val (.int pp2), .val (.long vv0), .second, .val (.long vv1), .second, .val (.long vv2), .second, .val (.ref b1), .val (.int (1 : Int32)), .val (.int zer0), .val (.int one0)] [(.int (0 : Int32)), (.ref b1)])) rfl (by rw [hml]; rfl) (Steps.refl _) (argsL := [(.int (0 : Int32))]) (rest := []) (lenOf pd_9 rfl) rfl (by show 2 * 0 + _ ≤ _; exact Nat.le_of_eq rfl) (hb hby at_208) (fun _ _ => ⟨rfl, rfl, (by decide : 3 + 0 ≤ _), (by decide : 2053 + 0 ≤ _)⟩)
      dsimp only [Pt.U, Pt.locs, Pt.cells, Pt.slots] at X53 l53 y53 z53' st53 hQ53
      subst l53 y53 z53'
      obtain ⟨rfl, N53q, K53⟩ := hQ53
      have N53 := Fr.app N46 N53q
      have J53 : Keep h0 T53.heap [] := J46.trans K53 all0
      have hc214_55 : ((vv0.toInt32).toInt64) = vv0 := h_vv0
      have c56 : Exa Z T53.heap b1 "com/example/vestwright/vestwright/ParticipantRows" := (c54.keep K53)
      have c57 : Fld Z T53.heap b1 "com/example/vestwright/vestwright/ParticipantRows" "size" "I" (.int ((0 : Int32) + (1 : Int32))) := (r0_46.keep K53 nin0)
      have c58 : Fld Z T53.heap b1 "com/example/vestwright/vestwright/ParticipantRows" "participants" "[I" (.ref pa_3) := (r1_46.keep K53 nin0)
      have c59 : Fld Z T53.heap b1 "com/example/vestwright/vestwright/ParticipantRows" "starts" "[I" .null := (r3_46.keep K53 nin0)
      have c60 : Fld Z T53.heap b1 "com/example/vestwright/vestwright/ParticipantRows" "order" "[I" .null := (r4_46.keep K53 nin0)
      have c61 : Arv Z T53.heap pa_3 kp_3 .int (1024 : Int32) ([] ++ [(.int pp0)]) (.int (0 : Int32)) := (r5_46.keep K53 nin0)
      have c62 : Arv Z T53.heap la_3 kl_3 .int (1024 : Int32) ([] ++ [(.int (vv0.toInt32))]) (.int (0 : Int32)) := (r6_46.keep K53 nin0)
      have z63 : n0 ≤ T53.heap.size := (Nat.le_trans z52 K53.1)
      obtain ⟨cq64, kq64, q64a, q64b, q64c⟩ := isOf hZ rfl c56
      -- pc 287: ParticipantRows.group by rm4
      obtain ⟨_, _, ⟨T64, L64, k64, n64⟩, -, X64, ⟨Lc64, hQ64, l64, y64, z64'⟩, st64⟩ := X53.virtualBack hx (y := (⟨"com/example/vestwright/vestwright/ParticipantRows", "group", "(I)V"⟩ : MethodName)) (z := (⟨"com/example/vestwright/vestwright/ParticipantRows", "group", "(I)V"⟩ : MethodName)) hown (mvT hZ (hw _ (List.mem_of_getElem? (i := 14) rfl))) (mvT hZ (hw _ (List.mem_of_getElem? (i := 15) rfl))) (notFace_of_selects (args := #[]) (mvT hZ (hw _ (List.mem_of_getElem? (i := 17) rfl)))) (mvT hZ (hw _ (List.mem_of_getElem? (i := 17) rfl))) (mvT hZ (hw _ (List.mem_of_getElem? (i := 16) rfl))) (by decide) (backOf (W := 0) (rm4 l Z a0 hw [] b1 1 (own_f ac0 ac1 ac2) pa_3 kp_3 ([] ++ [(.int pp0)]) T53.heap n0 z63 c56 c57 c58 c59 c60 c61 g_b1 (by decide) (own_f2 hac0 hac1 hac2) (own_ps1 hpp0)) hZ (hw _ (List.mem_of_getElem? (i := 18) rfl)) (hw _ (List.mem_of_getElem? (i := 2) rfl)) (by decide) (by decide)) q64a q64c (g := (mkF m 287 #[.val (.int p0), .val (.long q1), .second, .val (.long q2), .second, .val (.long q3), .second, .val (.int nn), .val (.int pp0), .val (.int pp1), .val (.int pp2), .val (.long vv0), .second, .val (.long vv1), .second, .val (.long vv2), .second, .val (.ref b1), .val (.int (1 : Int32)), .val (.int zer0), .val (.int one0)] [(.int (2 : Int32)), (.ref b1)])) rfl (by rw [hml]; rfl) (Steps.refl _) (argsL := [(.int (2 : Int32))]) (rest := []) (lenOf pd_5 rfl) rfl (by show 2 * 0 + _ ≤ _; exact Nat.le_of_eq rfl) (hb hby at_287) (fun _ _ => ⟨rfl, rfl, (by decide : 3 + 3 ≤ _), (by decide : 2053 + 8 ≤ _)⟩)
      dsimp only [Pt.U, Pt.locs, Pt.cells, Pt.slots] at X64 l64 y64 z64' st64 hQ64
      subst l64 y64 z64'
      obtain ⟨sa_64, ks_64, rfl, N64q, K64, r0_64, r1_64, r2_64⟩ := hQ64
      have N64 := Fr.app N53 N64q
      have J64 : Keep h0 T64.heap [] := J53.trans K64 (allS (Or.inr sz_b1) all0)
      have g_sa_64 : n0 ≤ sa_64 := Nat.le_trans z63 r0_64
      have sz_sa_64 : h0.size ≤ sa_64 := Nat.le_trans J53.1 r0_64
      have ne65 : b1 ≠ sa_64 := Nat.ne_of_lt (Nat.lt_of_lt_of_le c56.lt r0_64)
      have ne66 : pa_3 ≠ sa_64 := Nat.ne_of_lt (Nat.lt_of_lt_of_le c61.lt r0_64)
      have ne67 : la_3 ≠ sa_64 := Nat.ne_of_lt (Nat.lt_of_lt_of_le c62.lt r0_64)
      have c68 : Arv Z T64.heap pa_3 kp_3 .int (1024 : Int32) ([] ++ [(.int pp0)]) (.int (0 : Int32)) := (c61.keep K64 (ninS (Ne.symm ne4) nin0))
      have c69 : Arv Z T64.heap la_3 kl_3 .int (1024 : Int32) ([] ++ [(.int (vv0.toInt32))]) (.int (0 : Int32)) := (c62.keep K64 (ninS (Ne.symm ne5) nin0))
      have z70 : n0 ≤ T64.heap.size := (Nat.le_trans z63 K64.1)
      have c72 : Exa Z T64.heap b1 "com/example/vestwright/vestwright/ParticipantRows" := (c56.keep K64)
      obtain ⟨cq71, kq71, q71a, q71b, q71c⟩ := isOf hZ rfl c72
      -- pc 299: ParticipantRows.rowsOf by rm5
      obtain ⟨_, _, ⟨T71, L71, k71, n71⟩, -, X71, ⟨Lc71, hQ71, l71, y71, z71'⟩, st71⟩ := X64.virtualBack hx (y := (⟨"com/example/vestwright/vestwright/ParticipantRows", "rowsOf", "(ILjava/util/function/IntFunction;)Ljava/util/List;"⟩ : MethodName)) (z := (⟨"com/example/vestwright/vestwright/ParticipantRows", "rowsOf", "(ILjava/util/function/IntFunction;)Ljava/util/List;"⟩ : MethodName)) hown (mvT hZ (hw _ (List.mem_of_getElem? (i := 37) rfl))) (mvT hZ (hw _ (List.mem_of_getElem? (i := 38) rfl))) (notFace_of_selects (args := #[]) (mvT hZ (hw _ (List.mem_of_getElem? (i := 40) rfl)))) (mvT hZ (hw _ (List.mem_of_getElem? (i := 40) rfl))) (mvT hZ (hw _ (List.mem_of_getElem? (i := 39) rfl))) (by decide) (backOf (W := 0) (rm5 l Z a0 hw [] b1 (0 : Int32) sa_64 ks_64 (own_l3 ((Int32.ofNat (own_zc (own_f ac0 ac1 ac2) 1)) + (0 : Int32)) ((Int32.ofNat (own_oc (own_f ac0 ac1 ac2) 1)) + ((Int32.ofNat (own_zc (own_f ac0 ac1 ac2) 1)) + (0 : Int32)))) (0 : Int32) ((Int32.ofNat (own_zc (own_f ac0 ac1 ac2) 1)) + (0 : Int32)) T64.heap n0 z70 r1_64 r2_64 (by decide) (by decide) rfl rfl) hZ (hw _ (List.mem_of_getElem? (i := 41) rfl)) (hw _ (List.mem_of_getElem? (i := 2) rfl)) (by decide) (by decide)) q71a q71c (g := (mkF m 299 #[.val (.int p0), .val (.long q1), .second, .val (.long q2), .second, .val (.long q3), .second, .val (.int nn), .val (.int pp0), .val (.int pp1), .val (.int pp2), .val (.long vv0), .second, .val (.long vv1), .second, .val (.long vv2), .second, .val (.ref b1), .val (.int (1 : Int32)), .val (.int zer0), .val (.int one0)] [.null, (.int (0 : Int32)), (.ref b1)])) rfl (by rw [hml]; rfl) (Steps.refl _) (argsL := [(.int (0 : Int32)), .null]) (rest := []) (lenOf pd_6 rfl) rfl (by show 2 * 0 + _ ≤ _; exact Nat.le_of_eq rfl) (hb hby at_299) (fun _ _ => ⟨rfl, rfl, (by decide : 6 + 1 ≤ _), (by decide : 2061 + 5 ≤ _)⟩)
      dsimp only [Pt.U, Pt.locs, Pt.cells, Pt.slots] at X71 l71 y71 z71' st71 hQ71
      subst l71 y71 z71'
      obtain ⟨b_71, rfl, N71q, K71, r0_71, r1_71, r2_71, r3_71⟩ := hQ71
      have N71 := Fr.app N64 N71q
      have J71 : Keep h0 T71.heap [] := J64.trans K71 all0
      have g_b_71 : n0 ≤ b_71 := Nat.le_trans z70 r0_71
      have sz_b_71 : h0.size ≤ b_71 := Nat.le_trans J64.1 r0_71
      have ne73 : b1 ≠ b_71 := Nat.ne_of_lt (Nat.lt_of_lt_of_le c72.lt r0_71)
      have ne74 : pa_3 ≠ b_71 := Nat.ne_of_lt (Nat.lt_of_lt_of_le c68.lt r0_71)
      have ne75 : la_3 ≠ b_71 := Nat.ne_of_lt (Nat.lt_of_lt_of_le c69.lt r0_71)
      have ne76 : sa_64 ≠ b_71 := Nat.ne_of_lt (Nat.lt_of_lt_of_le r2_64.lt r0_71)
      have z77 : n0 ≤ T71.heap.size := (Nat.le_trans z70 K71.1)
      obtain ⟨cq78, kq78, q78a, q78b, q78c⟩ := isOf hZ rfl r1_71
      -- pc 302: List.size by rm193
      obtain ⟨_, _, ⟨T78, L78, k78, n78⟩, -, X78, ⟨Lc78, hQ78, l78, y78, z78'⟩, st78⟩ := X71.interfaceBack hx (xi := (⟨"java/util/List", "size", "()I"⟩ : MethodName)) (y := (⟨"com/example/vestwright/vestwright/ParticipantRows$Rows", "size", "()I"⟩ : MethodName)) hown (mvT hZ (hw _ (List.mem_of_getElem? (i := 70) rfl))) (mvT hZ (hw _ (List.mem_of_getElem? (i := 71) rfl))) (mvT hZ (hw _ (List.mem_of_getElem? (i := 72) rfl))) (mvT hZ (hw _ (List.mem_of_getElem? (i := 73) rfl))) (mvT hZ (hw _ (List.mem_of_getElem? (i := 74) rfl))) (mvT hZ (hw _ (List.mem_of_getElem? (i := 75) rfl))) (mvT hZ (hw _ (List.mem_of_getElem? (i := 76) rfl))) (mvT hZ (hw _ (List.mem_of_getElem? (i := 77) rfl))) (by decide) (backOf (W := 0) (rm193 l Z a0 hw [] b_71 (0 : Int32) ((Int32.ofNat (own_zc (own_f ac0 ac1 ac2) 1)) + (0 : Int32)) T71.heap n0 z77 r2_71 r3_71) hZ (hw _ (List.mem_of_getElem? (i := 78) rfl)) (hw _ (List.mem_of_getElem? (i := 44) rfl)) (by decide) (by decide)) q78a q78b q78c (g := (mkF m 302 #[.val (.int p0), .val (.long q1), .second, .val (.long q2), .second, .val (.long q3), .second, .val (.int nn), .val (.int pp0), .val (.int pp1), .val (.int pp2), .val (.long vv0), .second, .val (.long vv1), .second, .val (.long vv2), .second, .val (.ref b1), .val (.int (1 : Int32)), .val (.int zer0), .val (.int one0)] [(.ref b_71)])) rfl (by rw [hml]; rfl) (Steps.refl _) (argsL := []) (rest := []) (lenOf pd_7 rfl) rfl (by show 2 * 0 + _ ≤ _; exact Nat.le_of_eq rfl) (hb hby at_302) (fun _ _ => ⟨rfl, rfl, (by decide : 7 + 0 ≤ _), (by decide : 2066 + 0 ≤ _)⟩)
      dsimp only [Pt.U, Pt.locs, Pt.cells, Pt.slots] at X78 l78 y78 z78' st78 hQ78
      subst l78 y78 z78'
      obtain ⟨rfl, N78q, K78⟩ := hQ78
      have N78 := Fr.app N71 N78q
      have J78 : Keep h0 T78.heap [] := J71.trans K78 all0
      have hc309_79 : (((Int32.ofNat (own_zc (own_f ac0 ac1 ac2) 1)) + (0 : Int32)) - (0 : Int32)) = zer0 := own_zz1 hac0 hpp0 e_zer0 e_one0
      have c80 : Fld Z T78.heap b1 "com/example/vestwright/vestwright/ParticipantRows" "starts" "[I" (.ref sa_64) := ((r1_64.keep K71 nin0).keep K78 nin0)
      have c81 : Arv Z T78.heap sa_64 ks_64 .int (3 : Int32) (own_l3 ((Int32.ofNat (own_zc (own_f ac0 ac1 ac2) 1)) + (0 : Int32)) ((Int32.ofNat (own_oc (own_f ac0 ac1 ac2) 1)) + ((Int32.ofNat (own_zc (own_f ac0 ac1 ac2) 1)) + (0 : Int32)))) (.int (0 : Int32)) := ((r2_64.keep K71 nin0).keep K78 nin0)
      have c82 : Exa Z T78.heap b_71 "com/example/vestwright/vestwright/ParticipantRows$Rows" := (r1_71.keep K78)
      have c83 : Arv Z T78.heap pa_3 kp_3 .int (1024 : Int32) ([] ++ [(.int pp0)]) (.int (0 : Int32)) := ((c68.keep K71 nin0).keep K78 nin0)
      have c84 : Arv Z T78.heap la_3 kl_3 .int (1024 : Int32) ([] ++ [(.int (vv0.toInt32))]) (.int (0 : Int32)) := ((c69.keep K71 nin0).keep K78 nin0)
      have z85 : n0 ≤ T78.heap.size := (Nat.le_trans z77 K78.1)
      have c87 : Exa Z T78.heap b1 "com/example/vestwright/vestwright/ParticipantRows" := ((c72.keep K71).keep K78)
      obtain ⟨cq86, kq86, q86a, q86b, q86c⟩ := isOf hZ rfl c87
      -- pc 328: ParticipantRows.rowsOf by rm5
      obtain ⟨_, _, ⟨T86, L86, k86, n86⟩, -, X86, ⟨Lc86, hQ86, l86, y86, z86'⟩, st86⟩ := X78.virtualBack hx (y := (⟨"com/example/vestwright/vestwright/ParticipantRows", "rowsOf", "(ILjava/util/function/IntFunction;)Ljava/util/List;"⟩ : MethodName)) (z := (⟨"com/example/vestwright/vestwright/ParticipantRows", "rowsOf", "(ILjava/util/function/IntFunction;)Ljava/util/List;"⟩ : MethodName)) hown (mvT hZ (hw _ (List.mem_of_getElem? (i := 37) rfl))) (mvT hZ (hw _ (List.mem_of_getElem? (i := 38) rfl))) (notFace_of_selects (args := #[]) (mvT hZ (hw _ (List.mem_of_getElem? (i := 40) rfl)))) (mvT hZ (hw _ (List.mem_of_getElem? (i := 40) rfl))) (mvT hZ (hw _ (List.mem_of_getElem? (i := 39) rfl))) (by decide) (backOf (W := 0) (rm5 l Z a0 hw [] b1 (1 : Int32) sa_64 ks_64 (own_l3 ((Int32.ofNat (own_zc (own_f ac0 ac1 ac2) 1)) + (0 : Int32)) ((Int32.ofNat (own_oc (own_f ac0 ac1 ac2) 1)) + ((Int32.ofNat (own_zc (own_f ac0 ac1 ac2) 1)) + (0 : Int32)))) ((Int32.ofNat (own_zc (own_f ac0 ac1 ac2) 1)) + (0 : Int32)) ((Int32.ofNat (own_oc (own_f ac0 ac1 ac2) 1)) + ((Int32.ofNat (own_zc (own_f ac0 ac1 ac2) 1)) + (0 : Int32))) T78.heap n0 z85 c80 c81 (by decide) (by decide) rfl rfl) hZ (hw _ (List.mem_of_getElem? (i := 41) rfl)) (hw _ (List.mem_of_getElem? (i := 2) rfl)) (by decide) (by decide)) q86a q86c (g := (mkF m 328 #[.val (.int p0), .val (.long q1), .second, .val (.long q2), .second, .val (.long q3), .second, .val (.int nn), .val (.int pp0), .val (.int pp1), .val (.int pp2), .val (.long vv0), .second, .val (.long vv1), .second, .val (.long vv2), .second, .val (.ref b1), .val (.int (1 : Int32)), .val (.int zer0), .val (.int one0)] [.null, (.int (1 : Int32)), (.ref b1)])) rfl (by rw [hml]; rfl) (Steps.refl _) (argsL := [(.int (1 : Int32)), .null]) (rest := []) (lenOf pd_6 rfl) rfl (by show 2 * 0 + _ ≤ _; exact Nat.le_of_eq rfl) (hb hby at_328) (fun _ _ => ⟨rfl, rfl, (by decide : 7 + 1 ≤ _), (by decide : 2066 + 5 ≤ _)⟩)
      dsimp only [Pt.U, Pt.locs, Pt.cells, Pt.slots] at X86 l86 y86 z86' st86 hQ86
      subst l86 y86 z86'
      obtain ⟨b_86, rfl, N86q, K86, r0_86, r1_86, r2_86, r3_86⟩ := hQ86
      have N86 := Fr.app N78 N86q
      have J86 : Keep h0 T86.heap [] := J78.trans K86 all0
      have g_b_86 : n0 ≤ b_86 := Nat.le_trans z85 r0_86
      have sz_b_86 : h0.size ≤ b_86 := Nat.le_trans J78.1 r0_86
      have ne88 : b1 ≠ b_86 := Nat.ne_of_lt (Nat.lt_of_lt_of_le c87.lt r0_86)
      have ne89 : pa_3 ≠ b_86 := Nat.ne_of_lt (Nat.lt_of_lt_of_le c83.lt r0_86)
      have ne90 : la_3 ≠ b_86 := Nat.ne_of_lt (Nat.lt_of_lt_of_le c84.lt r0_86)
      have ne91 : sa_64 ≠ b_86 := Nat.ne_of_lt (Nat.lt_of_lt_of_le c81.lt r0_86)
      have ne92 : b_71 ≠ b_86 := Nat.ne_of_lt (Nat.lt_of_lt_of_le c82.lt r0_86)
      have z93 : n0 ≤ T86.heap.size := (Nat.le_trans z85 K86.1)
      obtain ⟨cq94, kq94, q94a, q94b, q94c⟩ := isOf hZ rfl r1_86
      -- pc 331: List.size by rm193
      obtain ⟨_, _, ⟨T94, L94, k94, n94⟩, -, X94, ⟨Lc94, hQ94, l94, y94, z94'⟩, st94⟩ := X86.interfaceBack hx (xi := (⟨"java/util/List", "size", "()I"⟩ : MethodName)) (y := (⟨"com/example/vestwright/vestwright/ParticipantRows$Rows", "size", "()I"⟩ : MethodName)) hown (mvT hZ (hw _ (List.mem_of_getElem? (i := 70) rfl))) (mvT hZ (hw _ (List.mem_of_getElem? (i := 71) rfl))) (mvT hZ (hw _ (List.mem_of_getElem? (i := 72) rfl))) (mvT hZ (hw _ (List.mem_of_getElem? (i := 73) rfl))) (mvT hZ (hw _ (List.mem_of_getElem? (i := 74) rfl))) (mvT hZ (hw _ (List.mem_of_getElem? (i := 75) rfl))) (mvT hZ (hw _ (List.mem_of_getElem? (i := 76) rfl))) (mvT hZ (hw _ (List.mem_of_getElem? (i := 77) rfl))) (by decide) (backOf (W := 0) (rm193 l Z a0 hw [] b_86 ((Int32.ofNat (own_zc (own_f ac0 ac1 ac2) 1)) + (0 : Int32)) ((Int32.ofNat (own_oc (own_f ac0 ac1 ac2) 1)) + ((Int32.ofNat (own_zc (own_f ac0 ac1 ac2) 1)) + (0 : Int32))) T86.heap n0 z93 r2_86 r3_86) hZ (hw _ (List.mem_of_getElem? (i := 78) rfl)) (hw _ (List.mem_of_getElem? (i := 44) rfl)) (by decide) (by decide)) q94a q94b q94c (g := (mkF m 331 #[.val (.int p0), .val (.long q1), .second, .val (.long q2), .second, .val (.long q3), .second, .val (.int nn), .val (.int pp0), .val (.int pp1), .val (.int pp2), .val (.long vv0), .second, .val (.long vv1), .second, .val (.long vv2), .second, .val (.ref b1), .val (.int (1 : Int32)), .val (.int zer0), .val (.int one0)] [(.ref b_86)])) rfl (by rw [hml]; rfl) (Steps.refl _) (argsL := []) (rest := []) (lenOf pd_7 rfl) rfl (by show 2 * 0 + _ ≤ _; exact Nat.le_of_eq rfl) (hb hby at_331) (fun _ _ => ⟨rfl, rfl, (by decide : 8 + 0 ≤ _), (by decide : 2071 + 0 ≤ _)⟩)
      dsimp only [Pt.U, Pt.locs, Pt.cells, Pt.slots] at X94 l94 y94 z94' st94 hQ94
      subst l94 y94 z94'
      obtain ⟨rfl, N94q, K94⟩ := hQ94
      have N94 := Fr.app N86 N94q
      have J94 : Keep h0 T94.heap [] := J86.trans K94 all0
      have hc338_95 : (((Int32.ofNat (own_oc (own_f ac0 ac1 ac2) 1)) + ((Int32.ofNat (own_zc (own_f ac0 ac1 ac2) 1)) + (0 : Int32))) - ((Int32.ofNat (own_zc (own_f ac0 ac1 ac2) 1)) + (0 : Int32))) = one0 := own_oo1 hac0 hpp0 e_zer0 e_one0
      obtain ⟨fs, hr, hrun, hended, hW, hsame⟩ := X94.leave (v := some (.int (1 : Int32))) (fun h => by rw [Bd.returns] at h; cases h)
      refine ⟨_, _, pre49 _ ?_, hrun, hended, _, _, rfl, ?_, ⟨_, rfl⟩, hW, hsame.mono (by decide) (by decide)⟩
      · show Steps p.tables e below (T46.setTop (mkF m 107 #[.val (.int p0), .val (.long q1), .second, .val (.long q2), .second, .val (.long q3), .second, .val (.int nn), .val (.int pp0), .val (.int pp1), .val (.int pp2), .val (.long vv0), .second, .val (.long vv1), .second, .val (.long vv2), .second, .val (.ref b1), .val (.int (1 : Int32)), .val (.int zer0), .val (.int one0)] [(.int (2 : Int32)), (.int nn)])) _
        refine XS.icmpYes X46.here hx rfl (pc0 := 107) (pc' := 149) rfl (hb hby at_107) rfl (tlt hc107_50).1 (by decide) (by decide) ?_
        show Steps p.tables e below (T46.setTop (mkF m 149 #[.val (.int p0), .val (.long q1), .second, .val (.long q2), .second, .val (.long q3), .second, .val (.int nn), .val (.int pp0), .val (.int pp1), .val (.int pp2), .val (.long vv0), .second, .val (.long vv1), .second, .val (.long vv2), .second, .val (.ref b1), .val (.int (1 : Int32)), .val (.int zer0), .val (.int one0)] [])) _
        refine XS.iload X46.here hx rfl (hb hby at_149) rfl ?_
        show Steps p.tables e below (T46.setTop (mkF m 151 #[.val (.int p0), .val (.long q1), .second, .val (.long q2), .second, .val (.long q3), .second, .val (.int nn), .val (.int pp0), .val (.int pp1), .val (.int pp2), .val (.long vv0), .second, .val (.long vv1), .second, .val (.long vv2), .second, .val (.ref b1), .val (.int (1 : Int32)), .val (.int zer0), .val (.int one0)] [(.int nn)])) _
        refine XS.iconst X46.here hx rfl (hb hby at_151) ?_
        show Steps p.tables e below (T46.setTop (mkF m 152 #[.val (.int p0), .val (.long q1), .second, .val (.long q2), .second, .val (.long q3), .second, .val (.int nn), .val (.int pp0), .val (.int pp1), .val (.int pp2), .val (.long vv0), .second, .val (.long vv1), .second, .val (.long vv2), .second, .val (.ref b1), .val (.int (1 : Int32)), .val (.int zer0), .val (.int one0)] [(.int (3 : Int32)), (.int nn)])) _
        refine XS.icmpYes X46.here hx rfl (pc0 := 152) (pc' := 194) rfl (hb hby at_152) rfl (tlt hc152_51).1 (by decide) (by decide) ?_
        show Steps p.tables e below (T46.setTop (mkF m 194 #[.val (.int p0), .val (.long q1), .second, .val (.long q2), .second, .val (.long q3), .second, .val (.int nn), .val (.int pp0), .val (.int pp1), .val (.int pp2), .val (.long vv0), .second, .val (.long vv1), .second, .val (.long vv2), .second, .val (.ref b1), .val (.int (1 : Int32)), .val (.int zer0), .val (.int one0)] [])) _
        refine XS.iload X46.here hx rfl (hb hby at_194) rfl ?_
        show Steps p.tables e below (T46.setTop (mkF m 196 #[.val (.int p0), .val (.long q1), .second, .val (.long q2), .second, .val (.long q3), .second, .val (.int nn), .val (.int pp0), .val (.int pp1), .val (.int pp2), .val (.long vv0), .second, .val (.long vv1), .second, .val (.long vv2), .second, .val (.ref b1), .val (.int (1 : Int32)), .val (.int zer0), .val (.int one0)] [(.int nn)])) _
        refine XS.iconst X46.here hx rfl (hb hby at_196) ?_
        show Steps p.tables e below (T46.setTop (mkF m 197 #[.val (.int p0), .val (.long q1), .second, .val (.long q2), .second, .val (.long q3), .second, .val (.int nn), .val (.int pp0), .val (.int pp1), .val (.int pp2), .val (.long vv0), .second, .val (.long vv1), .second, .val (.long vv2), .second, .val (.ref b1), .val (.int (1 : Int32)), .val (.int zer0), .val (.int one0)] [(.int (1 : Int32)), (.int nn)])) _
        refine XS.icmpNo X46.here hx rfl (hb hby at_197) rfl (flt hc63_7).1 ?_
        show Steps p.tables e below (T46.setTop (mkF m 200 #[.val (.int p0), .val (.long q1), .second, .val (.long q2), .second, .val (.long q3), .second, .val (.int nn), .val (.int pp0), .val (.int pp1), .val (.int pp2), .val (.long vv0), .second, .val (.long vv1), .second, .val (.long vv2), .second, .val (.ref b1), .val (.int (1 : Int32)), .val (.int zer0), .val (.int one0)] [])) _
        refine XS.iload X46.here hx rfl (hb hby at_200) rfl ?_
        show Steps p.tables e below (T46.setTop (mkF m 202 #[.val (.int p0), .val (.long q1), .second, .val (.long q2), .second, .val (.long q3), .second, .val (.int nn), .val (.int pp0), .val (.int pp1), .val (.int pp2), .val (.long vv0), .second, .val (.long vv1), .second, .val (.long vv2), .second, .val (.ref b1), .val (.int (1 : Int32)), .val (.int zer0), .val (.int one0)] [(.int (1 : Int32))])) _
        refine XS.ifNo X46.here hx rfl (hb hby at_202) rfl ((if0 _ _).trans (feq (by decide)).1) ?_
        show Steps p.tables e below (T46.setTop (mkF m 205 #[.val (.int p0), .val (.long q1), .second, .val (.long q2), .second, .val (.long q3), .second, .val (.int nn), .val (.int pp0), .val (.int pp1), .val (.int pp2), .val (.long vv0), .second, .val (.long vv1), .second, .val (.long vv2), .second, .val (.ref b1), .val (.int (1 : Int32)), .val (.int zer0), .val (.int one0)] [])) _
        refine XS.aload X46.here hx rfl (hb hby at_205) rfl rfl ?_
        show Steps p.tables e below (T46.setTop (mkF m 207 #[.val (.int p0), .val (.long q1), .second, .val (.long q2), .second, .val (.long q3), .second, .val (.int nn), .val (.int pp0), .val (.int pp1), .val (.int pp2), .val (.long vv0), .second, .val (.long vv1), .second, .val (.long vv2), .second, .val (.ref b1), .val (.int (1 : Int32)), .val (.int zer0), .val (.int one0)] [(.ref b1)])) _
        refine XS.iconst X46.here hx rfl (hb hby at_207) ?_
        show Steps p.tables e below (T46.setTop (mkF m 208 #[.val (.int p0), .val (.long q1), .second, .val (.long q2), .second, .val (.long q3), .second, .val (.int nn), .val (.int pp0), .val (.int pp1), .val (.int pp2), .val (.long vv0), .second, .val (.long vv1), .second, .val (.long vv2), .second, .val (.ref b1), .val (.int (1 : Int32)), .val (.int zer0), .val (.int one0)] [(.int (0 : Int32)), (.ref b1)])) _
        refine st53.trans ?_
        show Steps p.tables e below (T53.setTop (mkF m 211 #[.val (.int p0), .val (.long q1), .second, .val (.long q2), .second, .val (.long q3), .second, .val (.int nn), .val (.int pp0), .val (.int pp1), .val (.int pp2), .val (.long vv0), .second, .val (.long vv1), .second, .val (.long vv2), .second, .val (.ref b1), .val (.int (1 : Int32)), .val (.int zer0), .val (.int one0)] [(.long ((vv0.toInt32).toInt64))])) _
        refine XS.lload X53.here hx rfl (hb hby at_211) rfl ?_
        show Steps p.tables e below (T53.setTop (mkF m 213 #[.val (.int p0), .val (.long q1), .second, .val (.long q2), .second, .val (.long q3), .second, .val (.int nn), .val (.int pp0), .val (.int pp1), .val (.int pp2), .val (.long vv0), .second, .val (.long vv1), .second, .val (.long vv2), .second, .val (.ref b1), .val (.int (1 : Int32)), .val (.int zer0), .val (.int one0)] [(.long vv0), (.long ((vv0.toInt32).toInt64))])) _
        refine XS.lcmp X53.here hx rfl (hb hby at_213) rfl ?_
        show Steps p.tables e below (T53.setTop (mkF m 214 #[.val (.int p0), .val (.long q1), .second, .val (.long q2), .second, .val (.long q3), .second, .val (.int nn), .val (.int pp0), .val (.int pp1), .val (.int pp2), .val (.long vv0), .second, .val (.long vv1), .second, .val (.long vv2), .second, .val (.ref b1), .val (.int (1 : Int32)), .val (.int zer0), .val (.int one0)] [(.int (lcmpW ((vv0.toInt32).toInt64) vv0))])) _
        refine XS.ifNo X53.here hx rfl (hb hby at_214) rfl ((if0 _ _).trans (teq ((lw_eq _ _).mpr hc214_55)).2) ?_
        show Steps p.tables e below (T53.setTop (mkF m 217 #[.val (.int p0), .val (.long q1), .second, .val (.long q2), .second, .val (.long q3), .second, .val (.int nn), .val (.int pp0), .val (.int pp1), .val (.int pp2), .val (.long vv0), .second, .val (.long vv1), .second, .val (.long vv2), .second, .val (.ref b1), .val (.int (1 : Int32)), .val (.int zer0), .val (.int one0)] [])) _
        refine XS.iconst X53.here hx rfl (hb hby at_217) ?_
        show Steps p.tables e below (T53.setTop (mkF m 218 #[.val (.int p0), .val (.long q1), .second, .val (.long q2), .second, .val (.long q3), .second, .val (.int nn), .val (.int pp0), .val (.int pp1), .val (.int pp2), .val (.long vv0), .second, .val (.long vv1), .second, .val (.long vv2), .second, .val (.ref b1), .val (.int (1 : Int32)), .val (.int zer0), .val (.int one0)] [(.int (1 : Int32))])) _
        refine XS.goto X53.here hx rfl (pc0 := 218) (pc' := 222) rfl (hb hby at_218) (by decide) (by decide) ?_
        show Steps p.tables e below (T53.setTop (mkF m 222 #[.val (.int p0), .val (.long q1), .second, .val (.long q2), .second, .val (.long q3), .second, .val (.int nn), .val (.int pp0), .val (.int pp1), .val (.int pp2), .val (.long vv0), .second, .val (.long vv1), .second, .val (.long vv2), .second, .val (.ref b1), .val (.int (1 : Int32)), .val (.int zer0), .val (.int one0)] [(.int (1 : Int32))])) _
        refine XS.istore X53.here hx rfl (hb hby at_222) rfl (l' := #[.val (.int p0), .val (.long q1), .second, .val (.long q2), .second, .val (.long q3), .second, .val (.int nn), .val (.int pp0), .val (.int pp1), .val (.int pp2), .val (.long vv0), .second, .val (.long vv1), .second, .val (.long vv2), .second, .val (.ref b1), .val (.int (1 : Int32)), .val (.int zer0), .val (.int one0)]) rfl ?_
        show Steps p.tables e below (T53.setTop (mkF m 224 #[.val (.int p0), .val (.long q1), .second, .val (.long q2), .second, .val (.long q3), .second, .val (.int nn), .val (.int pp0), .val (.int pp1), .val (.int pp2), .val (.long vv0), .second, .val (.long vv1), .second, .val (.long vv2), .second, .val (.ref b1), .val (.int (1 : Int32)), .val (.int zer0), .val (.int one0)] [])) _
        refine XS.iload X53.here hx rfl (hb hby at_224) rfl ?_
        show Steps p.tables e below (T53.setTop (mkF m 226 #[.val (.int p0), .val (.long q1), .second, .val (.long q2), .second, .val (.long q3), .second, .val (.int nn), .val (.int pp0), .val (.int pp1), .val (.int pp2), .val (.long vv0), .second, .val (.long vv1), .second, .val (.long vv2), .second, .val (.ref b1), .val (.int (1 : Int32)), .val (.int zer0), .val (.int one0)] [(.int nn)])) _
        refine XS.iconst X53.here hx rfl (hb hby at_226) ?_
        show Steps p.tables e below (T53.setTop (mkF m 227 #[.val (.int p0), .val (.long q1), .second, .val (.long q2), .second, .val (.long q3), .second, .val (.int nn), .val (.int pp0), .val (.int pp1), .val (.int pp2), .val (.long vv0), .second, .val (.long vv1), .second, .val (.long vv2), .second, .val (.ref b1), .val (.int (1 : Int32)), .val (.int zer0), .val (.int one0)] [(.int (2 : Int32)), (.int nn)])) _
        refine XS.icmpYes X53.here hx rfl (pc0 := 227) (pc' := 254) rfl (hb hby at_227) rfl (tlt hc107_50).1 (by decide) (by decide) ?_
        show Steps p.tables e below (T53.setTop (mkF m 254 #[.val (.int p0), .val (.long q1), .second, .val (.long q2), .second, .val (.long q3), .second, .val (.int nn), .val (.int pp0), .val (.int pp1), .val (.int pp2), .val (.long vv0), .second, .val (.long vv1), .second, .val (.long vv2), .second, .val (.ref b1), .val (.int (1 : Int32)), .val (.int zer0), .val (.int one0)] [])) _
        refine XS.iload X53.here hx rfl (hb hby at_254) rfl ?_
        show Steps p.tables e below (T53.setTop (mkF m 256 #[.val (.int p0), .val (.long q1), .second, .val (.long q2), .second, .val (.long q3), .second, .val (.int nn), .val (.int pp0), .val (.int pp1), .val (.int pp2), .val (.long vv0), .second, .val (.long vv1), .second, .val (.long vv2), .second, .val (.ref b1), .val (.int (1 : Int32)), .val (.int zer0), .val (.int one0)] [(.int nn)])) _
        refine XS.iconst X53.here hx rfl (hb hby at_256) ?_
        show Steps p.tables e below (T53.setTop (mkF m 257 #[.val (.int p0), .val (.long q1), .second, .val (.long q2), .second, .val (.long q3), .second, .val (.int nn), .val (.int pp0), .val (.int pp1), .val (.int pp2), .val (.long vv0), .second, .val (.long vv1), .second, .val (.long vv2), .second, .val (.ref b1), .val (.int (1 : Int32)), .val (.int zer0), .val (.int one0)] [(.int (3 : Int32)), (.int nn)])) _
        refine XS.icmpYes X53.here hx rfl (pc0 := 257) (pc' := 284) rfl (hb hby at_257) rfl (tlt hc152_51).1 (by decide) (by decide) ?_
        show Steps p.tables e below (T53.setTop (mkF m 284 #[.val (.int p0), .val (.long q1), .second, .val (.long q2), .second, .val (.long q3), .second, .val (.int nn), .val (.int pp0), .val (.int pp1), .val (.int pp2), .val (.long vv0), .second, .val (.long vv1), .second, .val (.long vv2), .second, .val (.ref b1), .val (.int (1 : Int32)), .val (.int zer0), .val (.int one0)] [])) _
        refine XS.aload X53.here hx rfl (hb hby at_284) rfl rfl ?_
        show Steps p.tables e below (T53.setTop (mkF m 286 #[.val (.int p0), .val (.long q1), .second, .val (.long q2), .second, .val (.long q3), .second, .val (.int nn), .val (.int pp0), .val (.int pp1), .val (.int pp2), .val (.long vv0), .second, .val (.long vv1), .second, .val (.long vv2), .second, .val (.ref b1), .val (.int (1 : Int32)), .val (.int zer0), .val (.int one0)] [(.ref b1)])) _
        refine XS.iconst X53.here hx rfl (hb hby at_286) ?_
        show Steps p.tables e below (T53.setTop (mkF m 287 #[.val (.int p0), .val (.long q1), .second, .val (.long q2), .second, .val (.long q3), .second, .val (.int nn), .val (.int pp0), .val (.int pp1), .val (.int pp2), .val (.long vv0), .second, .val (.long vv1), .second, .val (.long vv2), .second, .val (.ref b1), .val (.int (1 : Int32)), .val (.int zer0), .val (.int one0)] [(.int (2 : Int32)), (.ref b1)])) _
        refine st64.trans ?_
        show Steps p.tables e below (T64.setTop (mkF m 290 #[.val (.int p0), .val (.long q1), .second, .val (.long q2), .second, .val (.long q3), .second, .val (.int nn), .val (.int pp0), .val (.int pp1), .val (.int pp2), .val (.long vv0), .second, .val (.long vv1), .second, .val (.long vv2), .second, .val (.ref b1), .val (.int (1 : Int32)), .val (.int zer0), .val (.int one0)] [])) _
        refine XS.iload X64.here hx rfl (hb hby at_290) rfl ?_
        show Steps p.tables e below (T64.setTop (mkF m 292 #[.val (.int p0), .val (.long q1), .second, .val (.long q2), .second, .val (.long q3), .second, .val (.int nn), .val (.int pp0), .val (.int pp1), .val (.int pp2), .val (.long vv0), .second, .val (.long vv1), .second, .val (.long vv2), .second, .val (.ref b1), .val (.int (1 : Int32)), .val (.int zer0), .val (.int one0)] [(.int (1 : Int32))])) _
        refine XS.ifNo X64.here hx rfl (hb hby at_292) rfl ((if0 _ _).trans (feq (by decide)).1) ?_
        show Steps p.tables e below (T64.setTop (mkF m 295 #[.val (.int p0), .val (.long q1), .second, .val (.long q2), .second, .val (.long q3), .second, .val (.int nn), .val (.int pp0), .val (.int pp1), .val (.int pp2), .val (.long vv0), .second, .val (.long vv1), .second, .val (.long vv2), .second, .val (.ref b1), .val (.int (1 : Int32)), .val (.int zer0), .val (.int one0)] [])) _
        refine XS.aload X64.here hx rfl (hb hby at_295) rfl rfl ?_
        show Steps p.tables e below (T64.setTop (mkF m 297 #[.val (.int p0), .val (.long q1), .second, .val (.long q2), .second, .val (.long q3), .second, .val (.int nn), .val (.int pp0), .val (.int pp1), .val (.int pp2), .val (.long vv0), .second, .val (.long vv1), .second, .val (.long vv2), .second, .val (.ref b1), .val (.int (1 : Int32)), .val (.int zer0), .val (.int one0)] [(.ref b1)])) _
        refine XS.iconst X64.here hx rfl (hb hby at_297) ?_
        show Steps p.tables e below (T64.setTop (mkF m 298 #[.val (.int p0), .val (.long q1), .second, .val (.long q2), .second, .val (.long q3), .second, .val (.int nn), .val (.int pp0), .val (.int pp1), .val (.int pp2), .val (.long vv0), .second, .val (.long vv1), .second, .val (.long vv2), .second, .val (.ref b1), .val (.int (1 : Int32)), .val (.int zer0), .val (.int one0)] [(.int (0 : Int32)), (.ref b1)])) _
        refine XS.aconstNull X64.here hx rfl (hb hby at_298) ?_
        show Steps p.tables e below (T64.setTop (mkF m 299 #[.val (.int p0), .val (.long q1), .second, .val (.long q2), .second, .val (.long q3), .second, .val (.int nn), .val (.int pp0), .val (.int pp1), .val (.int pp2), .val (.long vv0), .second, .val (.long vv1), .second, .val (.long vv2), .second, .val (.ref b1), .val (.int (1 : Int32)), .val (.int zer0), .val (.int one0)] [.null, (.int (0 : Int32)), (.ref b1)])) _
        refine st71.trans ?_
        show Steps p.tables e below (T71.setTop (mkF m 302 #[.val (.int p0), .val (.long q1), .second, .val (.long q2), .second, .val (.long q3), .second, .val (.int nn), .val (.int pp0), .val (.int pp1), .val (.int pp2), .val (.long vv0), .second, .val (.long vv1), .second, .val (.long vv2), .second, .val (.ref b1), .val (.int (1 : Int32)), .val (.int zer0), .val (.int one0)] [(.ref b_71)])) _
        refine st78.trans ?_
        show Steps p.tables e below (T78.setTop (mkF m 307 #[.val (.int p0), .val (.long q1), .second, .val (.long q2), .second, .val (.long q3), .second, .val (.int nn), .val (.int pp0), .val (.int pp1), .val (.int pp2), .val (.long vv0), .second, .val (.long vv1), .second, .val (.long vv2), .second, .val (.ref b1), .val (.int (1 : Int32)), .val (.int zer0), .val (.int one0)] [(.int (((Int32.ofNat (own_zc (own_f ac0 ac1 ac2) 1)) + (0 : Int32)) - (0 : Int32)))])) _
        refine XS.iload X78.here hx rfl (hb hby at_307) rfl ?_
        show Steps p.tables e below (T78.setTop (mkF m 309 #[.val (.int p0), .val (.long q1), .second, .val (.long q2), .second, .val (.long q3), .second, .val (.int nn), .val (.int pp0), .val (.int pp1), .val (.int pp2), .val (.long vv0), .second, .val (.long vv1), .second, .val (.long vv2), .second, .val (.ref b1), .val (.int (1 : Int32)), .val (.int zer0), .val (.int one0)] [(.int zer0), (.int (((Int32.ofNat (own_zc (own_f ac0 ac1 ac2) 1)) + (0 : Int32)) - (0 : Int32)))])) _
        refine XS.icmpNo X78.here hx rfl (hb hby at_309) rfl (teq hc309_79).2 ?_
        show Steps p.tables e below (T78.setTop (mkF m 312 #[.val (.int p0), .val (.long q1), .second, .val (.long q2), .second, .val (.long q3), .second, .val (.int nn), .val (.int pp0), .val (.int pp1), .val (.int pp2), .val (.long vv0), .second, .val (.long vv1), .second, .val (.long vv2), .second, .val (.ref b1), .val (.int (1 : Int32)), .val (.int zer0), .val (.int one0)] [])) _
        refine XS.iconst X78.here hx rfl (hb hby at_312) ?_
        show Steps p.tables e below (T78.setTop (mkF m 313 #[.val (.int p0), .val (.long q1), .second, .val (.long q2), .second, .val (.long q3), .second, .val (.int nn), .val (.int pp0), .val (.int pp1), .val (.int pp2), .val (.long vv0), .second, .val (.long vv1), .second, .val (.long vv2), .second, .val (.ref b1), .val (.int (1 : Int32)), .val (.int zer0), .val (.int one0)] [(.int (1 : Int32))])) _
        refine XS.goto X78.here hx rfl (pc0 := 313) (pc' := 317) rfl (hb hby at_313) (by decide) (by decide) ?_
        show Steps p.tables e below (T78.setTop (mkF m 317 #[.val (.int p0), .val (.long q1), .second, .val (.long q2), .second, .val (.long q3), .second, .val (.int nn), .val (.int pp0), .val (.int pp1), .val (.int pp2), .val (.long vv0), .second, .val (.long vv1), .second, .val (.long vv2), .second, .val (.ref b1), .val (.int (1 : Int32)), .val (.int zer0), .val (.int one0)] [(.int (1 : Int32))])) _
        refine XS.istore X78.here hx rfl (hb hby at_317) rfl (l' := #[.val (.int p0), .val (.long q1), .second, .val (.long q2), .second, .val (.long q3), .second, .val (.int nn), .val (.int pp0), .val (.int pp1), .val (.int pp2), .val (.long vv0), .second, .val (.long vv1), .second, .val (.long vv2), .second, .val (.ref b1), .val (.int (1 : Int32)), .val (.int zer0), .val (.int one0)]) rfl ?_
        show Steps p.tables e below (T78.setTop (mkF m 319 #[.val (.int p0), .val (.long q1), .second, .val (.long q2), .second, .val (.long q3), .second, .val (.int nn), .val (.int pp0), .val (.int pp1), .val (.int pp2), .val (.long vv0), .second, .val (.long vv1), .second, .val (.long vv2), .second, .val (.ref b1), .val (.int (1 : Int32)), .val (.int zer0), .val (.int one0)] [])) _
        refine XS.iload X78.here hx rfl (hb hby at_319) rfl ?_
        show Steps p.tables e below (T78.setTop (mkF m 321 #[.val (.int p0), .val (.long q1), .second, .val (.long q2), .second, .val (.long q3), .second, .val (.int nn), .val (.int pp0), .val (.int pp1), .val (.int pp2), .val (.long vv0), .second, .val (.long vv1), .second, .val (.long vv2), .second, .val (.ref b1), .val (.int (1 : Int32)), .val (.int zer0), .val (.int one0)] [(.int (1 : Int32))])) _
        refine XS.ifNo X78.here hx rfl (hb hby at_321) rfl ((if0 _ _).trans (feq (by decide)).1) ?_
        show Steps p.tables e below (T78.setTop (mkF m 324 #[.val (.int p0), .val (.long q1), .second, .val (.long q2), .second, .val (.long q3), .second, .val (.int nn), .val (.int pp0), .val (.int pp1), .val (.int pp2), .val (.long vv0), .second, .val (.long vv1), .second, .val (.long vv2), .second, .val (.ref b1), .val (.int (1 : Int32)), .val (.int zer0), .val (.int one0)] [])) _
        refine XS.aload X78.here hx rfl (hb hby at_324) rfl rfl ?_
        show Steps p.tables e below (T78.setTop (mkF m 326 #[.val (.int p0), .val (.long q1), .second, .val (.long q2), .second, .val (.long q3), .second, .val (.int nn), .val (.int pp0), .val (.int pp1), .val (.int pp2), .val (.long vv0), .second, .val (.long vv1), .second, .val (.long vv2), .second, .val (.ref b1), .val (.int (1 : Int32)), .val (.int zer0), .val (.int one0)] [(.ref b1)])) _
        refine XS.iconst X78.here hx rfl (hb hby at_326) ?_
        show Steps p.tables e below (T78.setTop (mkF m 327 #[.val (.int p0), .val (.long q1), .second, .val (.long q2), .second, .val (.long q3), .second, .val (.int nn), .val (.int pp0), .val (.int pp1), .val (.int pp2), .val (.long vv0), .second, .val (.long vv1), .second, .val (.long vv2), .second, .val (.ref b1), .val (.int (1 : Int32)), .val (.int zer0), .val (.int one0)] [(.int (1 : Int32)), (.ref b1)])) _
        refine XS.aconstNull X78.here hx rfl (hb hby at_327) ?_
        show Steps p.tables e below (T78.setTop (mkF m 328 #[.val (.int p0), .val (.long q1), .second, .val (.long q2), .second, .val (.long q3), .second, .val (.int nn), .val (.int pp0), .val (.int pp1), .val (.int pp2), .val (.long vv0), .second, .val (.long vv1), .second, .val (.long vv2), .second, .val (.ref b1), .val (.int (1 : Int32)), .val (.int zer0), .val (.int one0)] [.null, (.int (1 : Int32)), (.ref b1)])) _
        refine st86.trans ?_
        show Steps p.tables e below (T86.setTop (mkF m 331 #[.val (.int p0), .val (.long q1), .second, .val (.long q2), .second, .val (.long q3), .second, .val (.int nn), .val (.int pp0), .val (.int pp1), .val (.int pp2), .val (.long vv0), .second, .val (.long vv1), .second, .val (.long vv2), .second, .val (.ref b1), .val (.int (1 : Int32)), .val (.int zer0), .val (.int one0)] [(.ref b_86)])) _
        refine st94.trans ?_
        show Steps p.tables e below (T94.setTop (mkF m 336 #[.val (.int p0), .val (.long q1), .second, .val (.long q2), .second, .val (.long q3), .second, .val (.int nn), .val (.int pp0), .val (.int pp1), .val (.int pp2), .val (.long vv0), .second, .val (.long vv1), .second, .val (.long vv2), .second, .val (.ref b1), .val (.int (1 : Int32)), .val (.int zer0), .val (.int one0)] [(.int (((Int32.ofNat (own_oc (own_f ac0 ac1 ac2) 1)) + ((Int32.ofNat (own_zc (own_f ac0 ac1 ac2) 1)) + (0 : Int32))) - ((Int32.ofNat (own_zc (own_f ac0 ac1 ac2) 1)) + (0 : Int32))))])) _
        refine XS.iload X94.here hx rfl (hb hby at_336) rfl ?_
        show Steps p.tables e below (T94.setTop (mkF m 338 #[.val (.int p0), .val (.long q1), .second, .val (.long q2), .second, .val (.long q3), .second, .val (.int nn), .val (.int pp0), .val (.int pp1), .val (.int pp2), .val (.long vv0), .second, .val (.long vv1), .second, .val (.long vv2), .second, .val (.ref b1), .val (.int (1 : Int32)), .val (.int zer0), .val (.int one0)] [(.int one0), (.int (((Int32.ofNat (own_oc (own_f ac0 ac1 ac2) 1)) + ((Int32.ofNat (own_zc (own_f ac0 ac1 ac2) 1)) + (0 : Int32))) - ((Int32.ofNat (own_zc (own_f ac0 ac1 ac2) 1)) + (0 : Int32))))])) _
        refine XS.icmpNo X94.here hx rfl (hb hby at_338) rfl (teq hc338_95).2 ?_
        show Steps p.tables e below (T94.setTop (mkF m 341 #[.val (.int p0), .val (.long q1), .second, .val (.long q2), .second, .val (.long q3), .second, .val (.int nn), .val (.int pp0), .val (.int pp1), .val (.int pp2), .val (.long vv0), .second, .val (.long vv1), .second, .val (.long vv2), .second, .val (.ref b1), .val (.int (1 : Int32)), .val (.int zer0), .val (.int one0)] [])) _
        refine XS.iconst X94.here hx rfl (hb hby at_341) ?_
        show Steps p.tables e below (T94.setTop (mkF m 342 #[.val (.int p0), .val (.long q1), .second, .val (.long q2), .second, .val (.long q3), .second, .val (.int nn), .val (.int pp0), .val (.int pp1), .val (.int pp2), .val (.long vv0), .second, .val (.long vv1), .second, .val (.long vv2), .second, .val (.ref b1), .val (.int (1 : Int32)), .val (.int zer0), .val (.int one0)] [(.int (1 : Int32))])) _
        refine XS.goto X94.here hx rfl (pc0 := 342) (pc' := 346) rfl (hb hby at_342) (by decide) (by decide) ?_
        show Steps p.tables e below (T94.setTop (mkF m 346 #[.val (.int p0), .val (.long q1), .second, .val (.long q2), .second, .val (.long q3), .second, .val (.int nn), .val (.int pp0), .val (.int pp1), .val (.int pp2), .val (.long vv0), .second, .val (.long vv1), .second, .val (.long vv2), .second, .val (.ref b1), .val (.int (1 : Int32)), .val (.int zer0), .val (.int one0)] [(.int (1 : Int32))])) _
        refine XS.istore X94.here hx rfl (hb hby at_346) rfl (l' := #[.val (.int p0), .val (.long q1), .second, .val (.long q2), .second, .val (.long q3), .second, .val (.int nn), .val (.int pp0), .val (.int pp1), .val (.int pp2), .val (.long vv0), .second, .val (.long vv1), .second, .val (.long vv2), .second, .val (.ref b1), .val (.int (1 : Int32)), .val (.int zer0), .val (.int one0)]) rfl ?_
        show Steps p.tables e below (T94.setTop (mkF m 348 #[.val (.int p0), .val (.long q1), .second, .val (.long q2), .second, .val (.long q3), .second, .val (.int nn), .val (.int pp0), .val (.int pp1), .val (.int pp2), .val (.long vv0), .second, .val (.long vv1), .second, .val (.long vv2), .second, .val (.ref b1), .val (.int (1 : Int32)), .val (.int zer0), .val (.int one0)] [])) _
        refine XS.iload X94.here hx rfl (hb hby at_348) rfl ?_
        show Steps p.tables e below (T94.setTop (mkF m 350 #[.val (.int p0), .val (.long q1), .second, .val (.long q2), .second, .val (.long q3), .second, .val (.int nn), .val (.int pp0), .val (.int pp1), .val (.int pp2), .val (.long vv0), .second, .val (.long vv1), .second, .val (.long vv2), .second, .val (.ref b1), .val (.int (1 : Int32)), .val (.int zer0), .val (.int one0)] [(.int (1 : Int32))])) _
        exact retN X94 hx (t := .boolean) Bd.returns (by simp) (hb hby at_350) hr
      · show Q0 Z p0 q1 q2 q3 h0 n0 _ T94.heap _
        exact ⟨rfl, N94⟩
    · skip
      have c96 : Exa Z T46.heap b1 "com/example/vestwright/vestwright/ParticipantRows" := (c44.keep K46)
      have z97 : n0 ≤ T46.heap.size := (Nat.le_trans z45 K46.1)
      obtain ⟨cq98, kq98, q98a, q98b, q98c⟩ := isOf hZ rfl c96
      -- pc 121: ParticipantRows.add by rm2
      obtain ⟨_, _, ⟨T98, L98, k98, n98⟩, -, X98, ⟨Lc98, hQ98, l98, y98, z98'⟩, st98⟩ := X46.virtualBack hx (y := (⟨"com/example/vestwright/vestwright/ParticipantRows", "add", "(IJ)I"⟩ : MethodName)) (z := (⟨"com/example/vestwright/vestwright/ParticipantRows", "add", "(IJ)I"⟩ : MethodName)) hown (mvT hZ (hw _ (List.mem_of_getElem? (i := 79) rfl))) (mvT hZ (hw _ (List.mem_of_getElem? (i := 80) rfl))) (notFace_of_selects (args := #[]) (mvT hZ (hw _ (List.mem_of_getElem? (i := 82) rfl)))) (mvT hZ (hw _ (List.mem_of_getElem? (i := 82) rfl))) (mvT hZ (hw _ (List.mem_of_getElem? (i := 81) rfl))) (by decide) (backOf (W := 0) (rm2 l Z a0 hw [] b1 pp1 vv1 1 ((0 : Int32) + (1 : Int32)) pa_3 la_3 kp_3 kl_3 ([] ++ [(.int pp0)]) ([] ++ [(.int (vv0.toInt32))]) T46.heap n0 z97 c96 r0_46 r1_46 r2_46 r3_46 r4_46 r5_46 r6_46 ne4 ne5 r2_3 g_b1 g_pa_3 g_la_3 (by decide) (by decide) rfl rfl h_vv1) hZ (hw _ (List.mem_of_getElem? (i := 83) rfl)) (hw _ (List.mem_of_getElem? (i := 2) rfl)) (by decide) (by decide)) q98a q98c (g := (mkF m 121 #[.val (.int p0), .val (.long q1), .second, .val (.long q2), .second, .val (.long q3), .second, .val (.int nn), .val (.int pp0), .val (.int pp1), .val (.int pp2), .val (.long vv0), .second, .val (.long vv1), .second, .val (.long vv2), .second, .val (.ref b1), .val (.int (1 : Int32)), .val (.int zer0), .val (.int one0)] [(.long vv1), (.int pp1), (.ref b1)])) rfl (by rw [hml]; rfl) (Steps.refl _) (argsL := [(.int pp1), (.long vv1)]) (rest := []) (lenOf pd_8 rfl) rfl (by show 2 * 0 + _ ≤ _; exact Nat.le_of_eq rfl) (hb hby at_121) (fun _ _ => ⟨rfl, rfl, (by decide : 3 + 0 ≤ _), (by decide : 2053 + 0 ≤ _)⟩)
      dsimp only [Pt.U, Pt.locs, Pt.cells, Pt.slots] at X98 l98 y98 z98' st98 hQ98
      subst l98 y98 z98'
      obtain ⟨rfl, N98q, K98, r0_98, r1_98, r2_98, r3_98, r4_98, r5_98, r6_98⟩ := hQ98
      have N98 := Fr.app N46 N98q
      have J98 : Keep h0 T98.heap [] := J46.trans K98 (allS (Or.inr sz_b1) (allS (Or.inr sz_pa_3) (allS (Or.inr sz_la_3) all0)))
      have hc125_99 : ((0 : Int32) + (1 : Int32)) = (1 : Int32) := by decide
      obtain ⟨zer1, e_zer1⟩ : ∃ z : Int32, z = (if pp1 = (0 : Int32) then (zer0 + (1 : Int32)) else zer0) := ⟨_, rfl⟩
      obtain ⟨one1, e_one1⟩ : ∃ z : Int32, z = (if pp1 = (0 : Int32) then one0 else (one0 + (1 : Int32))) := ⟨_, rfl⟩
      have pre101 : ∀ t, Steps p.tables e below (T98.setTop (mkF m 149 #[.val (.int p0), .val (.long q1), .second, .val (.long q2), .second, .val (.long q3), .second, .val (.int nn), .val (.int pp0), .val (.int pp1), .val (.int pp2), .val (.long vv0), .second, .val (.long vv1), .second, .val (.long vv2), .second, .val (.ref b1), .val (.int (1 : Int32)), .val (.int zer1), .val (.int one1)] [])) t → Steps p.tables e below (s₁.setTop (entryFrame m #[(.int p0), (.long q1), (.long q2), (.long q3)] maxLocals)) t := by
        intro t kt
        refine pre49 _ ?_
        show Steps p.tables e below (T46.setTop (mkF m 107 #[.val (.int p0), .val (.long q1), .second, .val (.long q2), .second, .val (.long q3), .second, .val (.int nn), .val (.int pp0), .val (.int pp1), .val (.int pp2), .val (.long vv0), .second, .val (.long vv1), .second, .val (.long vv2), .second, .val (.ref b1), .val (.int (1 : Int32)), .val (.int zer0), .val (.int one0)] [(.int (2 : Int32)), (.int nn)])) _
        refine XS.icmpNo X46.here hx rfl (hb hby at_107) rfl (flt hc107_50).1 ?_
        show Steps p.tables e below (T46.setTop (mkF m 110 #[.val (.int p0), .val (.long q1), .second, .val (.long q2), .second, .val (.long q3), .second, .val (.int nn), .val (.int pp0), .val (.int pp1), .val (.int pp2), .val (.long vv0), .second, .val (.long vv1), .second, .val (.long vv2), .second, .val (.ref b1), .val (.int (1 : Int32)), .val (.int zer0), .val (.int one0)] [])) _
        refine XS.iload X46.here hx rfl (hb hby at_110) rfl ?_
        show Steps p.tables e below (T46.setTop (mkF m 112 #[.val (.int p0), .val (.long q1), .second, .val (.long q2), .second, .val (.long q3), .second, .val (.int nn), .val (.int pp0), .val (.int pp1), .val (.int pp2), .val (.long vv0), .second, .val (.long vv1), .second, .val (.long vv2), .second, .val (.ref b1), .val (.int (1 : Int32)), .val (.int zer0), .val (.int one0)] [(.int (1 : Int32))])) _
        refine XS.ifNo X46.here hx rfl (hb hby at_112) rfl ((if0 _ _).trans (feq (by decide)).1) ?_
        show Steps p.tables e below (T46.setTop (mkF m 115 #[.val (.int p0), .val (.long q1), .second, .val (.long q2), .second, .val (.long q3), .second, .val (.int nn), .val (.int pp0), .val (.int pp1), .val (.int pp2), .val (.long vv0), .second, .val (.long vv1), .second, .val (.long vv2), .second, .val (.ref b1), .val (.int (1 : Int32)), .val (.int zer0), .val (.int one0)] [])) _
        refine XS.aload X46.here hx rfl (hb hby at_115) rfl rfl ?_
        show Steps p.tables e below (T46.setTop (mkF m 117 #[.val (.int p0), .val (.long q1), .second, .val (.long q2), .second, .val (.long q3), .second, .val (.int nn), .val (.int pp0), .val (.int pp1), .val (.int pp2), .val (.long vv0), .second, .val (.long vv1), .second, .val (.long vv2), .second, .val (.ref b1), .val (.int (1 : Int32)), .val (.int zer0), .val (.int one0)] [(.ref b1)])) _
        refine XS.iload X46.here hx rfl (hb hby at_117) rfl ?_
        show Steps p.tables e below (T46.setTop (mkF m 119 #[.val (.int p0), .val (.long q1), .second, .val (.long q2), .second, .val (.long q3), .second, .val (.int nn), .val (.int pp0), .val (.int pp1), .val (.int pp2), .val (.long vv0), .second, .val (.long vv1), .second, .val (.long vv2), .second, .val (.ref b1), .val (.int (1 : Int32)), .val (.int zer0), .val (.int one0)] [(.int pp1), (.ref b1)])) _
        refine XS.lload X46.here hx rfl (hb hby at_119) rfl ?_
        show Steps p.tables e below (T46.setTop (mkF m 121 #[.val (.int p0), .val (.long q1), .second, .val (.long q2), .second, .val (.long q3), .second, .val (.int nn), .val (.int pp0), .val (.int pp1), .val (.int pp2), .val (.long vv0), .second, .val (.long vv1), .second, .val (.long vv2), .second, .val (.ref b1), .val (.int (1 : Int32)), .val (.int zer0), .val (.int one0)] [(.long vv1), (.int pp1), (.ref b1)])) _
        refine st98.trans ?_
        show Steps p.tables e below (T98.setTop (mkF m 124 #[.val (.int p0), .val (.long q1), .second, .val (.long q2), .second, .val (.long q3), .second, .val (.int nn), .val (.int pp0), .val (.int pp1), .val (.int pp2), .val (.long vv0), .second, .val (.long vv1), .second, .val (.long vv2), .second, .val (.ref b1), .val (.int (1 : Int32)), .val (.int zer0), .val (.int one0)] [(.int ((0 : Int32) + (1 : Int32)))])) _
        refine XS.iconst X98.here hx rfl (hb hby at_124) ?_
        show Steps p.tables e below (T98.setTop (mkF m 125 #[.val (.int p0), .val (.long q1), .second, .val (.long q2), .second, .val (.long q3), .second, .val (.int nn), .val (.int pp0), .val (.int pp1), .val (.int pp2), .val (.long vv0), .second, .val (.long vv1), .second, .val (.long vv2), .second, .val (.ref b1), .val (.int (1 : Int32)), .val (.int zer0), .val (.int one0)] [(.int (1 : Int32)), (.int ((0 : Int32) + (1 : Int32)))])) _
        refine XS.icmpNo X98.here hx rfl (hb hby at_125) rfl (teq hc125_99).2 ?_
        show Steps p.tables e below (T98.setTop (mkF m 128 #[.val (.int p0), .val (.long q1), .second, .val (.long q2), .second, .val (.long q3), .second, .val (.int nn), .val (.int pp0), .val (.int pp1), .val (.int pp2), .val (.long vv0), .second, .val (.long vv1), .second, .val (.long vv2), .second, .val (.ref b1), .val (.int (1 : Int32)), .val (.int zer0), .val (.int one0)] [])) _
        refine XS.iconst X98.here hx rfl (hb hby at_128) ?_
        show Steps p.tables e below (T98.setTop (mkF m 129 #[.val (.int p0), .val (.long q1), .second, .val (.long q2), .second, .val (.long q3), .second, .val (.int nn), .val (.int pp0), .val (.int pp1), .val (.int pp2), .val (.long vv0), .second, .val (.long vv1), .second, .val (.long vv2), .second, .val (.ref b1), .val (.int (1 : Int32)), .val (.int zer0), .val (.int one0)] [(.int (1 : Int32))])) _
        refine XS.goto X98.here hx rfl (pc0 := 129) (pc' := 133) rfl (hb hby at_129) (by decide) (by decide) ?_
        show Steps p.tables e below (T98.setTop (mkF m 133 #[.val (.int p0), .val (.long q1), .second, .val (.long q2), .second, .val (.long q3), .second, .val (.int nn), .val (.int pp0), .val (.int pp1), .val (.int pp2), .val (.long vv0), .second, .val (.long vv1), .second, .val (.long vv2), .second, .val (.ref b1), .val (.int (1 : Int32)), .val (.int zer0), .val (.int one0)] [(.int (1 : Int32))])) _
        refine XS.istore X98.here hx rfl (hb hby at_133) rfl (l' := #[.val (.int p0), .val (.long q1), .second, .val (.long q2), .second, .val (.long q3), .second, .val (.int nn), .val (.int pp0), .val (.int pp1), .val (.int pp2), .val (.long vv0), .second, .val (.long vv1), .second, .val (.long vv2), .second, .val (.ref b1), .val (.int (1 : Int32)), .val (.int zer0), .val (.int one0)]) rfl ?_
        show Steps p.tables e below (T98.setTop (mkF m 135 #[.val (.int p0), .val (.long q1), .second, .val (.long q2), .second, .val (.long q3), .second, .val (.int nn), .val (.int pp0), .val (.int pp1), .val (.int pp2), .val (.long vv0), .second, .val (.long vv1), .second, .val (.long vv2), .second, .val (.ref b1), .val (.int (1 : Int32)), .val (.int zer0), .val (.int one0)] [])) _
        refine XS.iload X98.here hx rfl (hb hby at_135) rfl ?_
        by_cases hc137_100 : pp1 = (0 : Int32)
        · rw [if_pos hc137_100] at e_zer1; rw [if_pos hc137_100] at e_one1
          show Steps p.tables e below (T98.setTop (mkF m 137 #[.val (.int p0), .val (.long q1), .second, .val (.long q2), .second, .val (.long q3), .second, .val (.int nn), .val (.int pp0), .val (.int pp1), .val (.int pp2), .val (.long vv0), .second, .val (.long vv1), .second, .val (.long vv2), .second, .val (.ref b1), .val (.int (1 : Int32)), .val (.int zer0), .val (.int one0)] [(.int pp1)])) _
          refine XS.ifNo X98.here hx rfl (hb hby at_137) rfl ((if0 _ _).trans (teq hc137_100).2) ?_
          show Steps p.tables e below (T98.setTop (mkF m 140 #[.val (.int p0), .val (.long q1), .second, .val (.long q2), .second, .val (.long q3), .second, .val (.int nn), .val (.int pp0), .val (.int pp1), .val (.int pp2), .val (.long vv0), .second, .val (.long vv1), .second, .val (.long vv2), .second, .val (.ref b1), .val (.int (1 : Int32)), .val (.int zer0), .val (.int one0)] [])) _
          refine XS.iinc X98.here hx rfl (hb hby at_140) rfl (l' := #[.val (.int p0), .val (.long q1), .second, .val (.long q2), .second, .val (.long q3), .second, .val (.int nn), .val (.int pp0), .val (.int pp1), .val (.int pp2), .val (.long vv0), .second, .val (.long vv1), .second, .val (.long vv2), .second, .val (.ref b1), .val (.int (1 : Int32)), .val (.int (zer0 + (1 : Int32))), .val (.int one0)]) rfl ?_
          show Steps p.tables e below (T98.setTop (mkF m 143 #[.val (.int p0), .val (.long q1), .second, .val (.long q2), .second, .val (.long q3), .second, .val (.int nn), .val (.int pp0), .val (.int pp1), .val (.int pp2), .val (.long vv0), .second, .val (.long vv1), .second, .val (.long vv2), .second, .val (.ref b1), .val (.int (1 : Int32)), .val (.int (zer0 + (1 : Int32))), .val (.int one0)] [])) _
          refine XS.goto X98.here hx rfl (pc0 := 143) (pc' := 149) rfl (hb hby at_143) (by decide) (by decide) ?_
          subst e_zer1
          subst e_one1
          exact kt
        · rw [if_neg hc137_100] at e_zer1; rw [if_neg hc137_100] at e_one1
          show Steps p.tables e below (T98.setTop (mkF m 137 #[.val (.int p0), .val (.long q1), .second, .val (.long q2), .second, .val (.long q3), .second, .val (.int nn), .val (.int pp0), .val (.int pp1), .val (.int pp2), .val (.long vv0), .second, .val (.long vv1), .second, .val (.long vv2), .second, .val (.ref b1), .val (.int (1 : Int32)), .val (.int zer0), .val (.int one0)] [(.int pp1)])) _
          refine XS.ifYes X98.here hx rfl (pc0 := 137) (pc' := 146) rfl (hb hby at_137) rfl ((if0 _ _).trans (feq hc137_100).2) (by decide) (by decide) ?_
          show Steps p.tables e below (T98.setTop (mkF m 146 #[.val (.int p0), .val (.long q1), .second, .val (.long q2), .second, .val (.long q3), .second, .val (.int nn), .val (.int pp0), .val (.int pp1), .val (.int pp2), .val (.long vv0), .second, .val (.long vv1), .second, .val (.long vv2), .second, .val (.ref b1), .val (.int (1 : Int32)), .val (.int zer0), .val (.int one0)] [])) _
          refine XS.iinc X98.here hx rfl (hb hby at_146) rfl (l' := #[.val (.int p0), .val (.long q1), .second, .val (.long q2), .second, .val (.long q3), .second, .val (.int nn), .val (.int pp0), .val (.int pp1), .val (.int pp2), .val (.long vv0), .second, .val (.long vv1), .second, .val (.long vv2), .second, .val (.ref b1), .val (.int (1 : Int32)), .val (.int zer0), .val (.int (one0 + (1 : Int32)))]) rfl ?_
          subst e_zer1
          subst e_one1
          exact kt
      have pre102 : ∀ t, Steps p.tables e below (T98.setTop (mkF m 152 #[.val (.int p0), .val (.long q1), .second, .val (.long q2), .second, .val (.long q3), .second, .val (.int nn), .val (.int pp0), .val (.int pp1), .val (.int pp2), .val (.long vv0), .second, .val (.long vv1), .second, .val (.long vv2), .second, .val (.ref b1), .val (.int (1 : Int32)), .val (.int zer1), .val (.int one1)] [(.int (3 : Int32)), (.int nn)])) t → Steps p.tables e below (s₁.setTop (entryFrame m #[(.int p0), (.long q1), (.long q2), (.long q3)] maxLocals)) t := by
        intro t kt
        refine pre101 _ ?_
        show Steps p.tables e below (T98.setTop (mkF m 149 #[.val (.int p0), .val (.long q1), .second, .val (.long q2), .second, .val (.long q3), .second, .val (.int nn), .val (.int pp0), .val (.int pp1), .val (.int pp2), .val (.long vv0), .second, .val (.long vv1), .second, .val (.long vv2), .second, .val (.ref b1), .val (.int (1 : Int32)), .val (.int zer1), .val (.int one1)] [])) _
        refine XS.iload X98.here hx rfl (hb hby at_149) rfl ?_
        show Steps p.tables e below (T98.setTop (mkF m 151 #[.val (.int p0), .val (.long q1), .second, .val (.long q2), .second, .val (.long q3), .second, .val (.int nn), .val (.int pp0), .val (.int pp1), .val (.int pp2), .val (.long vv0), .second, .val (.long vv1), .second, .val (.long vv2), .second, .val (.ref b1), .val (.int (1 : Int32)), .val (.int zer1), .val (.int one1)] [(.int nn)])) _
        refine XS.iconst X98.here hx rfl (hb hby at_151) ?_
        exact kt
      by_cases hc152_103 : nn < (3 : Int32)
      · skip
        have z104 : n0 ≤ T98.heap.size := (Nat.le_trans z97 K98.1)
        have c106 : Exa Z T98.heap b1 "com/example/vestwright/vestwright/ParticipantRows" := (c96.keep K98)
        obtain ⟨cq105, kq105, q105a, q105b, q105c⟩ := isOf hZ rfl c106
        -- pc 208: ParticipantRows.line by rm3
        obtain ⟨_, _, ⟨T105, L105, k105, n105⟩, -, X105, ⟨Lc105, hQ105, l105, y105, z105'⟩, st105⟩ := X98.virtualBack hx (y := (⟨"com/example/vestwright/vestwright/ParticipantRows", "line", "(I)J"⟩ : MethodName)) (z := (⟨"com/example/vestwright/vestwright/ParticipantRows", "line", "(I)J"⟩ : MethodName)) hown (mvT hZ (hw _ (List.mem_of_getElem? (i := 87) rfl))) (mvT hZ (hw _ (List.mem_of_getElem? (i := 88) rfl))) (notFace_of_selects (args := #[]) (mvT hZ (hw _ (List.mem_of_getElem? (i := 90) rfl)))) (mvT hZ (hw _ (List.mem_of_getElem? (i := 90) rfl))) (mvT hZ (hw _ (List.mem_of_getElem? (i := 89) rfl))) (by decide) (backOf (W := 0) (rm3 l Z a0 hw [] b1 (0 : Int32) (vv0.toInt32) la_3 kl_3 (([] ++ [(.int (vv0.toInt32))]) ++ [(.int (vv1.toInt32))]) T98.heap n0 z104 r2_98 r6_98 (by decide) rfl) hZ (hw _ (List.mem_of_getElem? (i := 91) rfl)) (hw _ (List.mem_of_getElem? (i := 2) rfl)) (by decide) (by decide)) q105a q105c (g := (mkF m 208 #[.val (.int p0), .val (.long q1), .second, .val (.long q2), .second, .val (.long q3), .second, .val (.int nn), .val (.int pp0), .val (.int pp1), .val (.int pp2), .val (.long vv0), .second, .val (.long vv1), .second, .val (.long vv2), .second, .val (.ref b1), .val (.int (1 : Int32)), .val (.int zer1), .val (.int one1)] [(.int (0 : Int32)), (.ref b1)])) rfl (by rw [hml]; rfl) (Steps.refl _) (argsL := [(.int (0 : Int32))]) (rest := []) (lenOf pd_9 rfl) rfl (by show 2 * 0 + _ ≤ _; exact Nat.le_of_eq rfl) (hb hby at_208) (fun _ _ => ⟨rfl, rfl, (by decide : 3 + 0 ≤ _), (by decide : 2053 + 0 ≤ _)⟩)
        dsimp only [Pt.U, Pt.locs, Pt.cells, Pt.slots] at X105 l105 y105 z105' st105 hQ105
        subst l105 y105 z105'
        obtain ⟨rfl, N105q, K105⟩ := hQ105
        have N105 := Fr.app N98 N105q
        have J105 : Keep h0 T105.heap [] := J98.trans K105 all0
        have hc214_107 : ((vv0.toInt32).toInt64) = vv0 := h_vv0
        have c108 : Fld Z T105.heap b1 "com/example/vestwright/vestwright/ParticipantRows" "lines" "[I" (.ref la_3) := (r2_98.keep K105 nin0)
        have c109 : Arv Z T105.heap la_3 kl_3 .int (1024 : Int32) (([] ++ [(.int (vv0.toInt32))]) ++ [(.int (vv1.toInt32))]) (.int (0 : Int32)) := (r6_98.keep K105 nin0)
        have z110 : n0 ≤ T105.heap.size := (Nat.le_trans z104 K105.1)
        have c112 : Exa Z T105.heap b1 "com/example/vestwright/vestwright/ParticipantRows" := (c106.keep K105)
        obtain ⟨cq111, kq111, q111a, q111b, q111c⟩ := isOf hZ rfl c112
        -- pc 238: ParticipantRows.line by rm3
        obtain ⟨_, _, ⟨T111, L111, k111, n111⟩, -, X111, ⟨Lc111, hQ111, l111, y111, z111'⟩, st111⟩ := X105.virtualBack hx (y := (⟨"com/example/vestwright/vestwright/ParticipantRows", "line", "(I)J"⟩ : MethodName)) (z := (⟨"com/example/vestwright/vestwright/ParticipantRows", "line", "(I)J"⟩ : MethodName)) hown (mvT hZ (hw _ (List.mem_of_getElem? (i := 87) rfl))) (mvT hZ (hw _ (List.mem_of_getElem? (i := 88) rfl))) (notFace_of_selects (args := #[]) (mvT hZ (hw _ (List.mem_of_getElem? (i := 90) rfl)))) (mvT hZ (hw _ (List.mem_of_getElem? (i := 90) rfl))) (mvT hZ (hw _ (List.mem_of_getElem? (i := 89) rfl))) (by decide) (backOf (W := 0) (rm3 l Z a0 hw [] b1 (1 : Int32) (vv1.toInt32) la_3 kl_3 (([] ++ [(.int (vv0.toInt32))]) ++ [(.int (vv1.toInt32))]) T105.heap n0 z110 c108 c109 (by decide) rfl) hZ (hw _ (List.mem_of_getElem? (i := 91) rfl)) (hw _ (List.mem_of_getElem? (i := 2) rfl)) (by decide) (by decide)) q111a q111c (g := (mkF m 238 #[.val (.int p0), .val (.long q1), .second, .val (.long q2), .second, .val (.long q3), .second, .val (.int nn), .val (.int pp0), .val (.int pp1), .val (.int pp2), .val (.long vv0), .second, .val (.long vv1), .second, .val (.long vv2), .second, .val (.ref b1), .val (.int (1 : Int32)), .val (.int zer1), .val (.int one1)] [(.int (1 : Int32)), (.ref b1)])) rfl (by rw [hml]; rfl) (Steps.refl _) (argsL := [(.int (1 : Int32))]) (rest := []) (lenOf pd_9 rfl) rfl (by show 2 * 0 + _ ≤ _; exact Nat.le_of_eq rfl) (hb hby at_238) (fun _ _ => ⟨rfl, rfl, (by decide : 3 + 0 ≤ _), (by decide : 2053 + 0 ≤ _)⟩)
        dsimp only [Pt.U, Pt.locs, Pt.cells, Pt.slots] at X111 l111 y111 z111' st111 hQ111
        subst l111 y111 z111'
        obtain ⟨rfl, N111q, K111⟩ := hQ111
        have N111 := Fr.app N105 N111q
        have J111 : Keep h0 T111.heap [] := J105.trans K111 all0
        have hc244_113 : ((vv1.toInt32).toInt64) = vv1 := h_vv1
        have c114 : Exa Z T111.heap b1 "com/example/vestwright/vestwright/ParticipantRows" := (c112.keep K111)
        have c115 : Fld Z T111.heap b1 "com/example/vestwright/vestwright/ParticipantRows" "size" "I" (.int (((0 : Int32) + (1 : Int32)) + (1 : Int32))) := ((r0_98.keep K105 nin0).keep K111 nin0)
        have c116 : Fld Z T111.heap b1 "com/example/vestwright/vestwright/ParticipantRows" "participants" "[I" (.ref pa_3) := ((r1_98.keep K105 nin0).keep K111 nin0)
        have c117 : Fld Z T111.heap b1 "com/example/vestwright/vestwright/ParticipantRows" "starts" "[I" .null := ((r3_98.keep K105 nin0).keep K111 nin0)
        have c118 : Fld Z T111.heap b1 "com/example/vestwright/vestwright/ParticipantRows" "order" "[I" .null := ((r4_98.keep K105 nin0).keep K111 nin0)
        have c119 : Arv Z T111.heap pa_3 kp_3 .int (1024 : Int32) (([] ++ [(.int pp0)]) ++ [(.int pp1)]) (.int (0 : Int32)) := ((r5_98.keep K105 nin0).keep K111 nin0)
        have c120 : Arv Z T111.heap la_3 kl_3 .int (1024 : Int32) (([] ++ [(.int (vv0.toInt32))]) ++ [(.int (vv1.toInt32))]) (.int (0 : Int32)) := (c109.keep K111 nin0)
        have z121 : n0 ≤ T111.heap.size := (Nat.le_trans z110 K111.1)
        obtain ⟨cq122, kq122, q122a, q122b, q122c⟩ := isOf hZ rfl c114
        -- pc 287: ParticipantRows.group by rm4
        obtain ⟨_, _, ⟨T122, L122, k122, n122⟩, -, X122, ⟨Lc122, hQ122, l122, y122, z122'⟩, st122⟩ := X111.virtualBack hx (y := (⟨"com/example/vestwright/vestwright/ParticipantRows", "group", "(I)V"⟩ : MethodName)) (z := (⟨"com/example/vestwright/vestwright/ParticipantRows", "group", "(I)V"⟩ : MethodName)) hown (mvT hZ (hw _ (List.mem_of_getElem? (i := 14) rfl))) (mvT hZ (hw _ (List.mem_of_getElem? (i := 15) rfl))) (notFace_of_selects (args := #[]) (mvT hZ (hw _ (List.mem_of_getElem? (i := 17) rfl)))) (mvT hZ (hw _ (List.mem_of_getElem? (i := 17) rfl))) (mvT hZ (hw _ (List.mem_of_getElem? (i := 16) rfl))) (by decide) (backOf (W := 0) (rm4 l Z a0 hw [] b1 2 (own_f ac0 ac1 ac2) pa_3 kp_3 (([] ++ [(.int pp0)]) ++ [(.int pp1)]) T111.heap n0 z121 c114 c115 c116 c117 c118 c119 g_b1 (by decide) (own_f2 hac0 hac1 hac2) (own_ps2 hpp0 hpp1)) hZ (hw _ (List.mem_of_getElem? (i := 18) rfl)) (hw _ (List.mem_of_getElem? (i := 2) rfl)) (by decide) (by decide)) q122a q122c (g := (mkF m 287 #[.val (.int p0), .val (.long q1), .second, .val (.long q2), .second, .val (.long q3), .second, .val (.int nn), .val (.int pp0), .val (.int pp1), .val (.int pp2), .val (.long vv0), .second, .val (.long vv1), .second, .val (.long vv2), .second, .val (.ref b1), .val (.int (1 : Int32)), .val (.int zer1), .val (.int one1)] [(.int (2 : Int32)), (.ref b1)])) rfl (by rw [hml]; rfl) (Steps.refl _) (argsL := [(.int (2 : Int32))]) (rest := []) (lenOf pd_5 rfl) rfl (by show 2 * 0 + _ ≤ _; exact Nat.le_of_eq rfl) (hb hby at_287) (fun _ _ => ⟨rfl, rfl, (by decide : 3 + 3 ≤ _), (by decide : 2053 + 8 ≤ _)⟩)
        dsimp only [Pt.U, Pt.locs, Pt.cells, Pt.slots] at X122 l122 y122 z122' st122 hQ122
        subst l122 y122 z122'
        obtain ⟨sa_122, ks_122, rfl, N122q, K122, r0_122, r1_122, r2_122⟩ := hQ122
        have N122 := Fr.app N111 N122q
        have J122 : Keep h0 T122.heap [] := J111.trans K122 (allS (Or.inr sz_b1) all0)
        have g_sa_122 : n0 ≤ sa_122 := Nat.le_trans z121 r0_122
        have sz_sa_122 : h0.size ≤ sa_122 := Nat.le_trans J111.1 r0_122
        have ne123 : b1 ≠ sa_122 := Nat.ne_of_lt (Nat.lt_of_lt_of_le c114.lt r0_122)
        have ne124 : pa_3 ≠ sa_122 := Nat.ne_of_lt (Nat.lt_of_lt_of_le c119.lt r0_122)
        have ne125 : la_3 ≠ sa_122 := Nat.ne_of_lt (Nat.lt_of_lt_of_le c120.lt r0_122)
        have c126 : Arv Z T122.heap pa_3 kp_3 .int (1024 : Int32) (([] ++ [(.int pp0)]) ++ [(.int pp1)]) (.int (0 : Int32)) := (c119.keep K122 (ninS (Ne.symm ne4) nin0))
        have c127 : Arv Z T122.heap la_3 kl_3 .int (1024 : Int32) (([] ++ [(.int (vv0.toInt32))]) ++ [(.int (vv1.toInt32))]) (.int (0 : Int32)) := (c120.keep K122 (ninS (Ne.symm ne5) nin0))
        have z128 : n0 ≤ T122.heap.size := (Nat.le_trans z121 K122.1)
        have c130 : Exa Z T122.heap b1 "com/example/vestwright/vestwright/ParticipantRows" := (c114.keep K122)
        obtain ⟨cq129, kq129, q129a, q129b, q129c⟩ := isOf hZ rfl c130
        -- pc 299: ParticipantRows.rowsOf by rm5
        obtain ⟨_, _, ⟨T129, L129, k129, n129⟩, -, X129, ⟨Lc129, hQ129, l129, y129, z129'⟩, st129⟩ := X122.virtualBack hx (y := (⟨"com/example/vestwright/vestwright/ParticipantRows", "rowsOf", "(ILjava/util/function/IntFunction;)Ljava/util/List;"⟩ : MethodName)) (z := (⟨"com/example/vestwright/vestwright/ParticipantRows", "rowsOf", "(ILjava/util/function/IntFunction;)Ljava/util/List;"⟩ : MethodName)) hown (mvT hZ (hw _ (List.mem_of_getElem? (i := 37) rfl))) (mvT hZ (hw _ (List.mem_of_getElem? (i := 38) rfl))) (notFace_of_selects (args := #[]) (mvT hZ (hw _ (List.mem_of_getElem? (i := 40) rfl)))) (mvT hZ (hw _ (List.mem_of_getElem? (i := 40) rfl))) (mvT hZ (hw _ (List.mem_of_getElem? (i := 39) rfl))) (by decide) (backOf (W := 0) (rm5 l Z a0 hw [] b1 (0 : Int32) sa_122 ks_122 (own_l3 ((Int32.ofNat (own_zc (own_f ac0 ac1 ac2) 2)) + (0 : Int32)) ((Int32.ofNat (own_oc (own_f ac0 ac1 ac2) 2)) + ((Int32.ofNat (own_zc (own_f ac0 ac1 ac2) 2)) + (0 : Int32)))) (0 : Int32) ((Int32.ofNat (own_zc (own_f ac0 ac1 ac2) 2)) + (0 : Int32)) T122.heap n0 z128 r1_122 r2_122 (by decide) (by decide) rfl rfl) hZ (hw _ (List.mem_of_getElem? (i := 41) rfl)) (hw _ (List.mem_of_getElem? (i := 2) rfl)) (by decide) (by decide)) q129a q129c (g := (mkF m 299 #[.val (.int p0), .val (.long q1), .second, .val (.long q2), .second, .val (.long q3), .second, .val (.int nn), .val (.int pp0), .val (.int pp1), .val (.int pp2), .val (.long vv0), .second, .val (.long vv1), .second, .val (.long vv2), .second, .val (.ref b1), .val (.int (1 : Int32)), .val (.int zer1), .val (.int one1)] [.null, (.int (0 : Int32)), (.ref b1)])) rfl (by rw [hml]; rfl) (Steps.refl _) (argsL := [(.int (0 : Int32)), .null]) (rest := []) (lenOf pd_6 rfl) rfl (by show 2 * 0 + _ ≤ _; exact Nat.le_of_eq rfl) (hb hby at_299) (fun _ _ => ⟨rfl, rfl, (by decide : 6 + 1 ≤ _), (by decide : 2061 + 5 ≤ _)⟩)
        dsimp only [Pt.U, Pt.locs, Pt.cells, Pt.slots] at X129 l129 y129 z129' st129 hQ129
        subst l129 y129 z129'
        obtain ⟨b_129, rfl, N129q, K129, r0_129, r1_129, r2_129, r3_129⟩ := hQ129
        have N129 := Fr.app N122 N129q
        have J129 : Keep h0 T129.heap [] := J122.trans K129 all0
        have g_b_129 : n0 ≤ b_129 := Nat.le_trans z128 r0_129
        have sz_b_129 : h0.size ≤ b_129 := Nat.le_trans J122.1 r0_129
        have ne131 : b1 ≠ b_129 := Nat.ne_of_lt (Nat.lt_of_lt_of_le c130.lt r0_129)
        have ne132 : pa_3 ≠ b_129 := Nat.ne_of_lt (Nat.lt_of_lt_of_le c126.lt r0_129)
        have ne133 : la_3 ≠ b_129 := Nat.ne_of_lt (Nat.lt_of_lt_of_le c127.lt r0_129)
        have ne134 : sa_122 ≠ b_129 := Nat.ne_of_lt (Nat.lt_of_lt_of_le r2_122.lt r0_129)
        have z135 : n0 ≤ T129.heap.size := (Nat.le_trans z128 K129.1)
        obtain ⟨cq136, kq136, q136a, q136b, q136c⟩ := isOf hZ rfl r1_129
        -- pc 302: List.size by rm193
        obtain ⟨_, _, ⟨T136, L136, k136, n136⟩, -, X136, ⟨Lc136, hQ136, l136, y136, z136'⟩, st136⟩ := X129.interfaceBack hx (xi := (⟨"java/util/List", "size", "()I"⟩ : MethodName)) (y := (⟨"com/example/vestwright/vestwright/ParticipantRows$Rows", "size", "()I"⟩ : MethodName)) hown (mvT hZ (hw _ (List.mem_of_getElem? (i := 70) rfl))) (mvT hZ (hw _ (List.mem_of_getElem? (i := 71) rfl))) (mvT hZ (hw _ (List.mem_of_getElem? (i := 72) rfl))) (mvT hZ (hw _ (List.mem_of_getElem? (i := 73) rfl))) (mvT hZ (hw _ (List.mem_of_getElem? (i := 74) rfl))) (mvT hZ (hw _ (List.mem_of_getElem? (i := 75) rfl))) (mvT hZ (hw _ (List.mem_of_getElem? (i := 76) rfl))) (mvT hZ (hw _ (List.mem_of_getElem? (i := 77) rfl))) (by decide) (backOf (W := 0) (rm193 l Z a0 hw [] b_129 (0 : Int32) ((Int32.ofNat (own_zc (own_f ac0 ac1 ac2) 2)) + (0 : Int32)) T129.heap n0 z135 r2_129 r3_129) hZ (hw _ (List.mem_of_getElem? (i := 78) rfl)) (hw _ (List.mem_of_getElem? (i := 44) rfl)) (by decide) (by decide)) q136a q136b q136c (g := (mkF m 302 #[.val (.int p0), .val (.long q1), .second, .val (.long q2), .second, .val (.long q3), .second, .val (.int nn), .val (.int pp0), .val (.int pp1), .val (.int pp2), .val (.long vv0), .second, .val (.long vv1), .second, .val (.long vv2), .second, .val (.ref b1), .val (.int (1 : Int32)), .val (.int zer1), .val (.int one1)] [(.ref b_129)])) rfl (by rw [hml]; rfl) (Steps.refl _) (argsL := []) (rest := []) (lenOf pd_7 rfl) rfl (by show 2 * 0 + _ ≤ _; exact Nat.le_of_eq rfl) (hb hby at_302) (fun _ _ => ⟨rfl, rfl, (by decide : 7 + 0 ≤ _), (by decide : 2066 + 0 ≤ _)⟩)
        dsimp only [Pt.U, Pt.locs, Pt.cells, Pt.slots] at X136 l136 y136 z136' st136 hQ136
        subst l136 y136 z136'
        obtain ⟨rfl, N136q, K136⟩ := hQ136
        have N136 := Fr.app N129 N136q
        have J136 : Keep h0 T136.heap [] := J129.trans K136 all0
        have hc309_137 : (((Int32.ofNat (own_zc (own_f ac0 ac1 ac2) 2)) + (0 : Int32)) - (0 : Int32)) = zer1 := own_zz2 hac0 hac1 hpp0 e_zer0 e_one0 hpp1 e_zer1 e_one1
        have c138 : Fld Z T136.heap b1 "com/example/vestwright/vestwright/ParticipantRows" "starts" "[I" (.ref sa_122) := ((r1_122.keep K129 nin0).keep K136 nin0)
        have c139 : Arv Z T136.heap sa_122 ks_122 .int (3 : Int32) (own_l3 ((Int32.ofNat (own_zc (own_f ac0 ac1 ac2) 2)) + (0 : Int32)) ((Int32.ofNat (own_oc (own_f ac0 ac1 ac2) 2)) + ((Int32.ofNat (own_zc (own_f ac0 ac1 ac2) 2)) + (0 : Int32)))) (.int (0 : Int32)) := ((r2_122.keep K129 nin0).keep K136 nin0)
        have c140 : Exa Z T136.heap b_129 "com/example/vestwright/vestwright/ParticipantRows$Rows" := (r1_129.keep K136)
        have c141 : Arv Z T136.heap pa_3 kp_3 .int (1024 : Int32) (([] ++ [(.int pp0)]) ++ [(.int pp1)]) (.int (0 : Int32)) := ((c126.keep K129 nin0).keep K136 nin0)
        have c142 : Arv Z T136.heap la_3 kl_3 .int (1024 : Int32) (([] ++ [(.int (vv0.toInt32))]) ++ [(.int (vv1.toInt32))]) (.int (0 : Int32)) := ((c127.keep K129 nin0).keep K136 nin0)
        have z143 : n0 ≤ T136.heap.size := (Nat.le_trans z135 K136.1)
        have c145 : Exa Z T136.heap b1 "com/example/vestwright/vestwright/ParticipantRows" := ((c130.keep K129).keep K136)
        obtain ⟨cq144, kq144, q144a, q144b, q144c⟩ := isOf hZ rfl c145
        -- pc 328: ParticipantRows.rowsOf by rm5
        obtain ⟨_, _, ⟨T144, L144, k144, n144⟩, -, X144, ⟨Lc144, hQ144, l144, y144, z144'⟩, st144⟩ := X136.virtualBack hx (y := (⟨"com/example/vestwright/vestwright/ParticipantRows", "rowsOf", "(ILjava/util/function/IntFunction;)Ljava/util/List;"⟩ : MethodName)) (z := (⟨"com/example/vestwright/vestwright/ParticipantRows", "rowsOf", "(ILjava/util/function/IntFunction;)Ljava/util/List;"⟩ : MethodName)) hown (mvT hZ (hw _ (List.mem_of_getElem? (i := 37) rfl))) (mvT hZ (hw _ (List.mem_of_getElem? (i := 38) rfl))) (notFace_of_selects (args := #[]) (mvT hZ (hw _ (List.mem_of_getElem? (i := 40) rfl)))) (mvT hZ (hw _ (List.mem_of_getElem? (i := 40) rfl))) (mvT hZ (hw _ (List.mem_of_getElem? (i := 39) rfl))) (by decide) (backOf (W := 0) (rm5 l Z a0 hw [] b1 (1 : Int32) sa_122 ks_122 (own_l3 ((Int32.ofNat (own_zc (own_f ac0 ac1 ac2) 2)) + (0 : Int32)) ((Int32.ofNat (own_oc (own_f ac0 ac1 ac2) 2)) + ((Int32.ofNat (own_zc (own_f ac0 ac1 ac2) 2)) + (0 : Int32)))) ((Int32.ofNat (own_zc (own_f ac0 ac1 ac2) 2)) + (0 : Int32)) ((Int32.ofNat (own_oc (own_f ac0 ac1 ac2) 2)) + ((Int32.ofNat (own_zc (own_f ac0 ac1 ac2) 2)) + (0 : Int32))) T136.heap n0 z143 c138 c139 (by decide) (by decide) rfl rfl) hZ (hw _ (List.mem_of_getElem? (i := 41) rfl)) (hw _ (List.mem_of_getElem? (i := 2) rfl)) (by decide) (by decide)) q144a q144c (g := (mkF m 328 #[.val (.int p0), .val (.long q1), .second, .val (.long q2), .second, .val (.long q3), .second, .val (.int nn), .val (.int pp0), .val (.int pp1), .val (.int pp2), .val (.long vv0), .second, .val (.long vv1), .second, .val (.long vv2), .second, .val (.ref b1), .val (.int (1 : Int32)), .val (.int zer1), .val (.int one1)] [.null, (.int (1 : Int32)), (.ref b1)])) rfl (by rw [hml]; rfl) (Steps.refl _) (argsL := [(.int (1 : Int32)), .null]) (rest := []) (lenOf pd_6 rfl) rfl (by show 2 * 0 + _ ≤ _; exact Nat.le_of_eq rfl) (hb hby at_328) (fun _ _ => ⟨rfl, rfl, (by decide : 7 + 1 ≤ _), (by decide : 2066 + 5 ≤ _)⟩)
        dsimp only [Pt.U, Pt.locs, Pt.cells, Pt.slots] at X144 l144 y144 z144' st144 hQ144
        subst l144 y144 z144'
        obtain ⟨b_144, rfl, N144q, K144, r0_144, r1_144, r2_144, r3_144⟩ := hQ144
        have N144 := Fr.app N136 N144q
        have J144 : Keep h0 T144.heap [] := J136.trans K144 all0
        have g_b_144 : n0 ≤ b_144 := Nat.le_trans z143 r0_144
        have sz_b_144 : h0.size ≤ b_144 := Nat.le_trans J136.1 r0_144
        have ne146 : b1 ≠ b_144 := Nat.ne_of_lt (Nat.lt_of_lt_of_le c145.lt r0_144)
        have ne147 : pa_3 ≠ b_144 := Nat.ne_of_lt (Nat.lt_of_lt_of_le c141.lt r0_144)
        have ne148 : la_3 ≠ b_144 := Nat.ne_of_lt (Nat.lt_of_lt_of_le c142.lt r0_144)
        have ne149 : sa_122 ≠ b_144 := Nat.ne_of_lt (Nat.lt_of_lt_of_le c139.lt r0_144)
        have ne150 : b_129 ≠ b_144 := Nat.ne_of_lt (Nat.lt_of_lt_of_le c140.lt r0_144)
        have z151 : n0 ≤ T144.heap.size := (Nat.le_trans z143 K144.1)
        obtain ⟨cq152, kq152, q152a, q152b, q152c⟩ := isOf hZ rfl r1_144
        -- pc 331: List.size by rm193
        obtain ⟨_, _, ⟨T152, L152, k152, n152⟩, -, X152, ⟨Lc152, hQ152, l152, y152, z152'⟩, st152⟩ := X144.interfaceBack hx (xi := (⟨"java/util/List", "size", "()I"⟩ : MethodName)) (y := (⟨"com/example/vestwright/vestwright/ParticipantRows$Rows", "size", "()I"⟩ : MethodName)) hown (mvT hZ (hw _ (List.mem_of_getElem? (i := 70) rfl))) (mvT hZ (hw _ (List.mem_of_getElem? (i := 71) rfl))) (mvT hZ (hw _ (List.mem_of_getElem? (i := 72) rfl))) (mvT hZ (hw _ (List.mem_of_getElem? (i := 73) rfl))) (mvT hZ (hw _ (List.mem_of_getElem? (i := 74) rfl))) (mvT hZ (hw _ (List.mem_of_getElem? (i := 75) rfl))) (mvT hZ (hw _ (List.mem_of_getElem? (i := 76) rfl))) (mvT hZ (hw _ (List.mem_of_getElem? (i := 77) rfl))) (by decide) (backOf (W := 0) (rm193 l Z a0 hw [] b_144 ((Int32.ofNat (own_zc (own_f ac0 ac1 ac2) 2)) + (0 : Int32)) ((Int32.ofNat (own_oc (own_f ac0 ac1 ac2) 2)) + ((Int32.ofNat (own_zc (own_f ac0 ac1 ac2) 2)) + (0 : Int32))) T144.heap n0 z151 r2_144 r3_144) hZ (hw _ (List.mem_of_getElem? (i := 78) rfl)) (hw _ (List.mem_of_getElem? (i := 44) rfl)) (by decide) (by decide)) q152a q152b q152c (g := (mkF m 331 #[.val (.int p0), .val (.long q1), .second, .val (.long q2), .second, .val (.long q3), .second, .val (.int nn), .val (.int pp0), .val (.int pp1), .val (.int pp2), .val (.long vv0), .second, .val (.long vv1), .second, .val (.long vv2), .second, .val (.ref b1), .val (.int (1 : Int32)), .val (.int zer1), .val (.int one1)] [(.ref b_144)])) rfl (by rw [hml]; rfl) (Steps.refl _) (argsL := []) (rest := []) (lenOf pd_7 rfl) rfl (by show 2 * 0 + _ ≤ _; exact Nat.le_of_eq rfl) (hb hby at_331) (fun _ _ => ⟨rfl, rfl, (by decide : 8 + 0 ≤ _), (by decide : 2071 + 0 ≤ _)⟩)
        dsimp only [Pt.U, Pt.locs, Pt.cells, Pt.slots] at X152 l152 y152 z152' st152 hQ152
        subst l152 y152 z152'
        obtain ⟨rfl, N152q, K152⟩ := hQ152
        have N152 := Fr.app N144 N152q
        have J152 : Keep h0 T152.heap [] := J144.trans K152 all0
        have hc338_153 : (((Int32.ofNat (own_oc (own_f ac0 ac1 ac2) 2)) + ((Int32.ofNat (own_zc (own_f ac0 ac1 ac2) 2)) + (0 : Int32))) - ((Int32.ofNat (own_zc (own_f ac0 ac1 ac2) 2)) + (0 : Int32))) = one1 := own_oo2 hac0 hac1 hpp0 e_zer0 e_one0 hpp1 e_zer1 e_one1
        obtain ⟨fs, hr, hrun, hended, hW, hsame⟩ := X152.leave (v := some (.int (1 : Int32))) (fun h => by rw [Bd.returns] at h; cases h)
        refine ⟨_, _, pre102 _ ?_, hrun, hended, _, _, rfl, ?_, ⟨_, rfl⟩, hW, hsame.mono (by decide) (by decide)⟩
        · show Steps p.tables e below (T98.setTop (mkF m 152 #[.val (.int p0), .val (.long q1), .second, .val (.long q2), .second, .val (.long q3), .second, .val (.int nn), .val (.int pp0), .val (.int pp1), .val (.int pp2), .val (.long vv0), .second, .val (.long vv1), .second, .val (.long vv2), .second, .val (.ref b1), .val (.int (1 : Int32)), .val (.int zer1), .val (.int one1)] [(.int (3 : Int32)), (.int nn)])) _
          refine XS.icmpYes X98.here hx rfl (pc0 := 152) (pc' := 194) rfl (hb hby at_152) rfl (tlt hc152_103).1 (by decide) (by decide) ?_
          show Steps p.tables e below (T98.setTop (mkF m 194 #[.val (.int p0), .val (.long q1), .second, .val (.long q2), .second, .val (.long q3), .second, .val (.int nn), .val (.int pp0), .val (.int pp1), .val (.int pp2), .val (.long vv0), .second, .val (.long vv1), .second, .val (.long vv2), .second, .val (.ref b1), .val (.int (1 : Int32)), .val (.int zer1), .val (.int one1)] [])) _
          refine XS.iload X98.here hx rfl (hb hby at_194) rfl ?_
          show Steps p.tables e below (T98.setTop (mkF m 196 #[.val (.int p0), .val (.long q1), .second, .val (.long q2), .second, .val (.long q3), .second, .val (.int nn), .val (.int pp0), .val (.int pp1), .val (.int pp2), .val (.long vv0), .second, .val (.long vv1), .second, .val (.long vv2), .second, .val (.ref b1), .val (.int (1 : Int32)), .val (.int zer1), .val (.int one1)] [(.int nn)])) _
          refine XS.iconst X98.here hx rfl (hb hby at_196) ?_
          show Steps p.tables e below (T98.setTop (mkF m 197 #[.val (.int p0), .val (.long q1), .second, .val (.long q2), .second, .val (.long q3), .second, .val (.int nn), .val (.int pp0), .val (.int pp1), .val (.int pp2), .val (.long vv0), .second, .val (.long vv1), .second, .val (.long vv2), .second, .val (.ref b1), .val (.int (1 : Int32)), .val (.int zer1), .val (.int one1)] [(.int (1 : Int32)), (.int nn)])) _
          refine XS.icmpNo X98.here hx rfl (hb hby at_197) rfl (flt hc63_7).1 ?_
          show Steps p.tables e below (T98.setTop (mkF m 200 #[.val (.int p0), .val (.long q1), .second, .val (.long q2), .second, .val (.long q3), .second, .val (.int nn), .val (.int pp0), .val (.int pp1), .val (.int pp2), .val (.long vv0), .second, .val (.long vv1), .second, .val (.long vv2), .second, .val (.ref b1), .val (.int (1 : Int32)), .val (.int zer1), .val (.int one1)] [])) _
          refine XS.iload X98.here hx rfl (hb hby at_200) rfl ?_
          show Steps p.tables e below (T98.setTop (mkF m 202 #[.val (.int p0), .val (.long q1), .second, .val (.long q2), .second, .val (.long q3), .second, .val (.int nn), .val (.int pp0), .val (.int pp1), .val (.int pp2), .val (.long vv0), .second, .val (.long vv1), .second, .val (.long vv2), .second, .val (.ref b1), .val (.int (1 : Int32)), .val (.int zer1), .val (.int one1)] [(.int (1 : Int32))])) _
          refine XS.ifNo X98.here hx rfl (hb hby at_202) rfl ((if0 _ _).trans (feq (by decide)).1) ?_
          show Steps p.tables e below (T98.setTop (mkF m 205 #[.val (.int p0), .val (.long q1), .second, .val (.long q2), .second, .val (.long q3), .second, .val (.int nn), .val (.int pp0), .val (.int pp1), .val (.int pp2), .val (.long vv0), .second, .val (.long vv1), .second, .val (.long vv2), .second, .val (.ref b1), .val (.int (1 : Int32)), .val (.int zer1), .val (.int one1)] [])) _
          refine XS.aload X98.here hx rfl (hb hby at_205) rfl rfl ?_
          show Steps p.tables e below (T98.setTop (mkF m 207 #[.val (.int p0), .val (.long q1), .second, .val (.long q2), .second, .val (.long q3), .second, .val (.int nn), .val (.int pp0), .val (.int pp1), .val (.int pp2), .val (.long vv0), .second, .val (.long vv1), .second, .val (.long vv2), .second, .val (.ref b1), .val (.int (1 : Int32)), .val (.int zer1), .val (.int one1)] [(.ref b1)])) _
          refine XS.iconst X98.here hx rfl (hb hby at_207) ?_
          show Steps p.tables e below (T98.setTop (mkF m 208 #[.val (.int p0), .val (.long q1), .second, .val (.long q2), .second, .val (.long q3), .second, .val (.int nn), .val (.int pp0), .val (.int pp1), .val (.int pp2), .val (.long vv0), .second, .val (.long vv1), .second, .val (.long vv2), .second, .val (.ref b1), .val (.int (1 : Int32)), .val (.int zer1), .val (.int one1)] [(.int (0 : Int32)), (.ref b1)])) _
          refine st105.trans ?_
          show Steps p.tables e below (T105.setTop (mkF m 211 #[.val (.int p0), .val (.long q1), .second, .val (.long q2), .second, .val (.long q3), .second, .val (.int nn), .val (.int pp0), .val (.int pp1), .val (.int pp2), .val (.long vv0), .second, .val (.long vv1), .second, .val (.long vv2), .second, .val (.ref b1), .val (.int (1 : Int32)), .val (.int zer1), .val (.int one1)] [(.long ((vv0.toInt32).toInt64))])) _
          refine XS.lload X105.here hx rfl (hb hby at_211) rfl ?_
          show Steps p.tables e below (T105.setTop (mkF m 213 #[.val (.int p0), .val (.long q1), .second, .val (.long q2), .second, .val (.long q3), .second, .val (.int nn), .val (.int pp0), .val (.int pp1), .val (.int pp2), .val (.long vv0), .second, .val (.long vv1), .second, .val (.long vv2), .second, .val (.ref b1), .val (.int (1 : Int32)), .val (.int zer1), .val (.int one1)] [(.long vv0), (.long ((vv0.toInt32).toInt64))])) _
          refine XS.lcmp X105.here hx rfl (hb hby at_213) rfl ?_
          show Steps p.tables e below (T105.setTop (mkF m 214 #[.val (.int p0), .val (.long q1), .second, .val (.long q2), .second, .val (.long q3), .second, .val (.int nn), .val (.int pp0), .val (.int pp1), .val (.int pp2), .val (.long vv0), .second, .val (.long vv1), .second, .val (.long vv2), .second, .val (.ref b1), .val (.int (1 : Int32)), .val (.int zer1), .val (.int one1)] [(.int (lcmpW ((vv0.toInt32).toInt64) vv0))])) _
          refine XS.ifNo X105.here hx rfl (hb hby at_214) rfl ((if0 _ _).trans (teq ((lw_eq _ _).mpr hc214_107)).2) ?_
          show Steps p.tables e below (T105.setTop (mkF m 217 #[.val (.int p0), .val (.long q1), .second, .val (.long q2), .second, .val (.long q3), .second, .val (.int nn), .val (.int pp0), .val (.int pp1), .val (.int pp2), .val (.long vv0), .second, .val (.long vv1), .second, .val (.long vv2), .second, .val (.ref b1), .val (.int (1 : Int32)), .val (.int zer1), .val (.int one1)] [])) _
          refine XS.iconst X105.here hx rfl (hb hby at_217) ?_
          show Steps p.tables e below (T105.setTop (mkF m 218 #[.val (.int p0), .val (.long q1), .second, .val (.long q2), .second, .val (.long q3), .second, .val (.int nn), .val (.int pp0), .val (.int pp1), .val (.int pp2), .val (.long vv0), .second, .val (.long vv1), .second, .val (.long vv2), .second, .val (.ref b1), .val (.int (1 : Int32)), .val (.int zer1), .val (.int one1)] [(.int (1 : Int32))])) _
          refine XS.goto X105.here hx rfl (pc0 := 218) (pc' := 222) rfl (hb hby at_218) (by decide) (by decide) ?_
          show Steps p.tables e below (T105.setTop (mkF m 222 #[.val (.int p0), .val (.long q1), .second, .val (.long q2), .second, .val (.long q3), .second, .val (.int nn), .val (.int pp0), .val (.int pp1), .val (.int pp2), .val (.long vv0), .second, .val (.long vv1), .second, .val (.long vv2), .second, .val (.ref b1), .val (.int (1 : Int32)), .val (.int zer1), .val (.int one1)] [(.int (1 : Int32))])) _
          refine XS.istore X105.here hx rfl (hb hby at_222) rfl (l' := #[.val (.int p0), .val (.long q1), .second, .val (.long q2), .second, .val (.long q3), .second, .val (.int nn), .val (.int pp0), .val (.int pp1), .val (.int pp2), .val (.long vv0), .second, .val (.long vv1), .second, .val (.long vv2), .second, .val (.ref b1), .val (.int (1 : Int32)), .val (.int zer1), .val (.int one1)]) rfl ?_
          show Steps p.tables e below (T105.setTop (mkF m 224 #[.val (.int p0), .val (.long q1), .second, .val (.long q2), .second, .val (.long q3), .second, .val (.int nn), .val (.int pp0), .val (.int pp1), .val (.int pp2), .val (.long vv0), .second, .val (.long vv1), .second, .val (.long vv2), .second, .val (.ref b1), .val (.int (1 : Int32)), .val (.int zer1), .val (.int one1)] [])) _
          refine XS.iload X105.here hx rfl (hb hby at_224) rfl ?_
          show Steps p.tables e below (T105.setTop (mkF m 226 #[.val (.int p0), .val (.long q1), .second, .val (.long q2), .second, .val (.long q3), .second, .val (.int nn), .val (.int pp0), .val (.int pp1), .val (.int pp2), .val (.long vv0), .second, .val (.long vv1), .second, .val (.long vv2), .second, .val (.ref b1), .val (.int (1 : Int32)), .val (.int zer1), .val (.int one1)] [(.int nn)])) _
          refine XS.iconst X105.here hx rfl (hb hby at_226) ?_
          show Steps p.tables e below (T105.setTop (mkF m 227 #[.val (.int p0), .val (.long q1), .second, .val (.long q2), .second, .val (.long q3), .second, .val (.int nn), .val (.int pp0), .val (.int pp1), .val (.int pp2), .val (.long vv0), .second, .val (.long vv1), .second, .val (.long vv2), .second, .val (.ref b1), .val (.int (1 : Int32)), .val (.int zer1), .val (.int one1)] [(.int (2 : Int32)), (.int nn)])) _
          refine XS.icmpNo X105.here hx rfl (hb hby at_227) rfl (flt hc107_50).1 ?_
          show Steps p.tables e below (T105.setTop (mkF m 230 #[.val (.int p0), .val (.long q1), .second, .val (.long q2), .second, .val (.long q3), .second, .val (.int nn), .val (.int pp0), .val (.int pp1), .val (.int pp2), .val (.long vv0), .second, .val (.long vv1), .second, .val (.long vv2), .second, .val (.ref b1), .val (.int (1 : Int32)), .val (.int zer1), .val (.int one1)] [])) _
          refine XS.iload X105.here hx rfl (hb hby at_230) rfl ?_
          show Steps p.tables e below (T105.setTop (mkF m 232 #[.val (.int p0), .val (.long q1), .second, .val (.long q2), .second, .val (.long q3), .second, .val (.int nn), .val (.int pp0), .val (.int pp1), .val (.int pp2), .val (.long vv0), .second, .val (.long vv1), .second, .val (.long vv2), .second, .val (.ref b1), .val (.int (1 : Int32)), .val (.int zer1), .val (.int one1)] [(.int (1 : Int32))])) _
          refine XS.ifNo X105.here hx rfl (hb hby at_232) rfl ((if0 _ _).trans (feq (by decide)).1) ?_
          show Steps p.tables e below (T105.setTop (mkF m 235 #[.val (.int p0), .val (.long q1), .second, .val (.long q2), .second, .val (.long q3), .second, .val (.int nn), .val (.int pp0), .val (.int pp1), .val (.int pp2), .val (.long vv0), .second, .val (.long vv1), .second, .val (.long vv2), .second, .val (.ref b1), .val (.int (1 : Int32)), .val (.int zer1), .val (.int one1)] [])) _
          refine XS.aload X105.here hx rfl (hb hby at_235) rfl rfl ?_
          show Steps p.tables e below (T105.setTop (mkF m 237 #[.val (.int p0), .val (.long q1), .second, .val (.long q2), .second, .val (.long q3), .second, .val (.int nn), .val (.int pp0), .val (.int pp1), .val (.int pp2), .val (.long vv0), .second, .val (.long vv1), .second, .val (.long vv2), .second, .val (.ref b1), .val (.int (1 : Int32)), .val (.int zer1), .val (.int one1)] [(.ref b1)])) _
          refine XS.iconst X105.here hx rfl (hb hby at_237) ?_
          show Steps p.tables e below (T105.setTop (mkF m 238 #[.val (.int p0), .val (.long q1), .second, .val (.long q2), .second, .val (.long q3), .second, .val (.int nn), .val (.int pp0), .val (.int pp1), .val (.int pp2), .val (.long vv0), .second, .val (.long vv1), .second, .val (.long vv2), .second, .val (.ref b1), .val (.int (1 : Int32)), .val (.int zer1), .val (.int one1)] [(.int (1 : Int32)), (.ref b1)])) _
          refine st111.trans ?_
          show Steps p.tables e below (T111.setTop (mkF m 241 #[.val (.int p0), .val (.long q1), .second, .val (.long q2), .second, .val (.long q3), .second, .val (.int nn), .val (.int pp0), .val (.int pp1), .val (.int pp2), .val (.long vv0), .second, .val (.long vv1), .second, .val (.long vv2), .second, .val (.ref b1), .val (.int (1 : Int32)), .val (.int zer1), .val (.int one1)] [(.long ((vv1.toInt32).toInt64))])) _
          refine XS.lload X111.here hx rfl (hb hby at_241) rfl ?_
          show Steps p.tables e below (T111.setTop (mkF m 243 #[.val (.int p0), .val (.long q1), .second, .val (.long q2), .second, .val (.long q3), .second, .val (.int nn), .val (.int pp0), .val (.int pp1), .val (.int pp2), .val (.long vv0), .second, .val (.long vv1), .second, .val (.long vv2), .second, .val (.ref b1), .val (.int (1 : Int32)), .val (.int zer1), .val (.int one1)] [(.long vv1), (.long ((vv1.toInt32).toInt64))])) _
          refine XS.lcmp X111.here hx rfl (hb hby at_243) rfl ?_
          show Steps p.tables e below (T111.setTop (mkF m 244 #[.val (.int p0), .val (.long q1), .second, .val (.long q2), .second, .val (.long q3), .second, .val (.int nn), .val (.int pp0), .val (.int pp1), .val (.int pp2), .val (.long vv0), .second, .val (.long vv1), .second, .val (.long vv2), .second, .val (.ref b1), .val (.int (1 : Int32)), .val (.int zer1), .val (.int one1)] [(.int (lcmpW ((vv1.toInt32).toInt64) vv1))])) _
          refine XS.ifNo X111.here hx rfl (hb hby at_244) rfl ((if0 _ _).trans (teq ((lw_eq _ _).mpr hc244_113)).2) ?_
          show Steps p.tables e below (T111.setTop (mkF m 247 #[.val (.int p0), .val (.long q1), .second, .val (.long q2), .second, .val (.long q3), .second, .val (.int nn), .val (.int pp0), .val (.int pp1), .val (.int pp2), .val (.long vv0), .second, .val (.long vv1), .second, .val (.long vv2), .second, .val (.ref b1), .val (.int (1 : Int32)), .val (.int zer1), .val (.int one1)] [])) _
          refine XS.iconst X111.here hx rfl (hb hby at_247) ?_
          show Steps p.tables e below (T111.setTop (mkF m 248 #[.val (.int p0), .val (.long q1), .second, .val (.long q2), .second, .val (.long q3), .second, .val (.int nn), .val (.int pp0), .val (.int pp1), .val (.int pp2), .val (.long vv0), .second, .val (.long vv1), .second, .val (.long vv2), .second, .val (.ref b1), .val (.int (1 : Int32)), .val (.int zer1), .val (.int one1)] [(.int (1 : Int32))])) _
          refine XS.goto X111.here hx rfl (pc0 := 248) (pc' := 252) rfl (hb hby at_248) (by decide) (by decide) ?_
          show Steps p.tables e below (T111.setTop (mkF m 252 #[.val (.int p0), .val (.long q1), .second, .val (.long q2), .second, .val (.long q3), .second, .val (.int nn), .val (.int pp0), .val (.int pp1), .val (.int pp2), .val (.long vv0), .second, .val (.long vv1), .second, .val (.long vv2), .second, .val (.ref b1), .val (.int (1 : Int32)), .val (.int zer1), .val (.int one1)] [(.int (1 : Int32))])) _
          refine XS.istore X111.here hx rfl (hb hby at_252) rfl (l' := #[.val (.int p0), .val (.long q1), .second, .val (.long q2), .second, .val (.long q3), .second, .val (.int nn), .val (.int pp0), .val (.int pp1), .val (.int pp2), .val (.long vv0), .second, .val (.long vv1), .second, .val (.long vv2), .second, .val (.ref b1), .val (.int (1 : Int32)), .val (.int zer1), .val (.int one1)]) rfl ?_
          show Steps p.tables e below (T111.setTop (mkF m 254 #[.val (.int p0), .val (.long q1), .second, .val (.long q2), .second, .val (.long q3), .second, .val (.int nn), .val (.int pp0), .val (.int pp1), .val (.int pp2), .val (.long vv0), .second, .val (.long vv1), .second, .val (.long vv2), .second, .val (.ref b1), .val (.int (1 : Int32)), .val (.int zer1), .val (.int one1)] [])) _
          refine XS.iload X111.here hx rfl (hb hby at_254) rfl ?_
          show Steps p.tables e below (T111.setTop (mkF m 256 #[.val (.int p0), .val (.long q1), .second, .val (.long q2), .second, .val (.long q3), .second, .val (.int nn), .val (.int pp0), .val (.int pp1), .val (.int pp2), .val (.long vv0), .second, .val (.long vv1), .second, .val (.long vv2), .second, .val (.ref b1), .val (.int (1 : Int32)), .val (.int zer1), .val (.int one1)] [(.int nn)])) _
          refine XS.iconst X111.here hx rfl (hb hby at_256) ?_
          show Steps p.tables e below (T111.setTop (mkF m 257 #[.val (.int p0), .val (.long q1), .second, .val (.long q2), .second, .val (.long q3), .second, .val (.int nn), .val (.int pp0), .val (.int pp1), .val (.int pp2), .val (.long vv0), .second, .val (.long vv1), .second, .val (.long vv2), .second, .val (.ref b1), .val (.int (1 : Int32)), .val (.int zer1), .val (.int one1)] [(.int (3 : Int32)), (.int nn)])) _
          refine XS.icmpYes X111.here hx rfl (pc0 := 257) (pc' := 284) rfl (hb hby at_257) rfl (tlt hc152_103).1 (by decide) (by decide) ?_
          show Steps p.tables e below (T111.setTop (mkF m 284 #[.val (.int p0), .val (.long q1), .second, .val (.long q2), .second, .val (.long q3), .second, .val (.int nn), .val (.int pp0), .val (.int pp1), .val (.int pp2), .val (.long vv0), .second, .val (.long vv1), .second, .val (.long vv2), .second, .val (.ref b1), .val (.int (1 : Int32)), .val (.int zer1), .val (.int one1)] [])) _
          refine XS.aload X111.here hx rfl (hb hby at_284) rfl rfl ?_
          show Steps p.tables e below (T111.setTop (mkF m 286 #[.val (.int p0), .val (.long q1), .second, .val (.long q2), .second, .val (.long q3), .second, .val (.int nn), .val (.int pp0), .val (.int pp1), .val (.int pp2), .val (.long vv0), .second, .val (.long vv1), .second, .val (.long vv2), .second, .val (.ref b1), .val (.int (1 : Int32)), .val (.int zer1), .val (.int one1)] [(.ref b1)])) _
          refine XS.iconst X111.here hx rfl (hb hby at_286) ?_
          show Steps p.tables e below (T111.setTop (mkF m 287 #[.val (.int p0), .val (.long q1), .second, .val (.long q2), .second, .val (.long q3), .second, .val (.int nn), .val (.int pp0), .val (.int pp1), .val (.int pp2), .val (.long vv0), .second, .val (.long vv1), .second, .val (.long vv2), .second, .val (.ref b1), .val (.int (1 : Int32)), .val (.int zer1), .val (.int one1)] [(.int (2 : Int32)), (.ref b1)])) _
          refine st122.trans ?_
          show Steps p.tables e below (T122.setTop (mkF m 290 #[.val (.int p0), .val (.long q1), .second, .val (.long q2), .second, .val (.long q3), .second, .val (.int nn), .val (.int pp0), .val (.int pp1), .val (.int pp2), .val (.long vv0), .second, .val (.long vv1), .second, .val (.long vv2), .second, .val (.ref b1), .val (.int (1 : Int32)), .val (.int zer1), .val (.int one1)] [])) _
          refine XS.iload X122.here hx rfl (hb hby at_290) rfl ?_
          show Steps p.tables e below (T122.setTop (mkF m 292 #[.val (.int p0), .val (.long q1), .second, .val (.long q2), .second, .val (.long q3), .second, .val (.int nn), .val (.int pp0), .val (.int pp1), .val (.int pp2), .val (.long vv0), .second, .val (.long vv1), .second, .val (.long vv2), .second, .val (.ref b1), .val (.int (1 : Int32)), .val (.int zer1), .val (.int one1)] [(.int (1 : Int32))])) _
          refine XS.ifNo X122.here hx rfl (hb hby at_292) rfl ((if0 _ _).trans (feq (by decide)).1) ?_
          show Steps p.tables e below (T122.setTop (mkF m 295 #[.val (.int p0), .val (.long q1), .second, .val (.long q2), .second, .val (.long q3), .second, .val (.int nn), .val (.int pp0), .val (.int pp1), .val (.int pp2), .val (.long vv0), .second, .val (.long vv1), .second, .val (.long vv2), .second, .val (.ref b1), .val (.int (1 : Int32)), .val (.int zer1), .val (.int one1)] [])) _
          refine XS.aload X122.here hx rfl (hb hby at_295) rfl rfl ?_
          show Steps p.tables e below (T122.setTop (mkF m 297 #[.val (.int p0), .val (.long q1), .second, .val (.long q2), .second, .val (.long q3), .second, .val (.int nn), .val (.int pp0), .val (.int pp1), .val (.int pp2), .val (.long vv0), .second, .val (.long vv1), .second, .val (.long vv2), .second, .val (.ref b1), .val (.int (1 : Int32)), .val (.int zer1), .val (.int one1)] [(.ref b1)])) _
          refine XS.iconst X122.here hx rfl (hb hby at_297) ?_
          show Steps p.tables e below (T122.setTop (mkF m 298 #[.val (.int p0), .val (.long q1), .second, .val (.long q2), .second, .val (.long q3), .second, .val (.int nn), .val (.int pp0), .val (.int pp1), .val (.int pp2), .val (.long vv0), .second, .val (.long vv1), .second, .val (.long vv2), .second, .val (.ref b1), .val (.int (1 : Int32)), .val (.int zer1), .val (.int one1)] [(.int (0 : Int32)), (.ref b1)])) _
          refine XS.aconstNull X122.here hx rfl (hb hby at_298) ?_
          show Steps p.tables e below (T122.setTop (mkF m 299 #[.val (.int p0), .val (.long q1), .second, .val (.long q2), .second, .val (.long q3), .second, .val (.int nn), .val (.int pp0), .val (.int pp1), .val (.int pp2), .val (.long vv0), .second, .val (.long vv1), .second, .val (.long vv2), .second, .val (.ref b1), .val (.int (1 : Int32)), .val (.int zer1), .val (.int one1)] [.null, (.int (0 : Int32)), (.ref b1)])) _
          refine st129.trans ?_
          show Steps p.tables e below (T129.setTop (mkF m 302 #[.val (.int p0), .val (.long q1), .second, .val (.long q2), .second, .val (.long q3), .second, .val (.int nn), .val (.int pp0), .val (.int pp1), .val (.int pp2), .val (.long vv0), .second, .val (.long vv1), .second, .val (.long vv2), .second, .val (.ref b1), .val (.int (1 : Int32)), .val (.int zer1), .val (.int one1)] [(.ref b_129)])) _
          refine st136.trans ?_
          show Steps p.tables e below (T136.setTop (mkF m 307 #[.val (.int p0), .val (.long q1), .second, .val (.long q2), .second, .val (.long q3), .second, .val (.int nn), .val (.int pp0), .val (.int pp1), .val (.int pp2), .val (.long vv0), .second, .val (.long vv1), .second, .val (.long vv2), .second, .val (.ref b1), .val (.int (1 : Int32)), .val (.int zer1), .val (.int one1)] [(.int (((Int32.ofNat (own_zc (own_f ac0 ac1 ac2) 2)) + (0 : Int32)) - (0 : Int32)))])) _
          refine XS.iload X136.here hx rfl (hb hby at_307) rfl ?_
          show Steps p.tables e below (T136.setTop (mkF m 309 #[.val (.int p0), .val (.long q1), .second, .val (.long q2), .second, .val (.long q3), .second, .val (.int nn), .val (.int pp0), .val (.int pp1), .val (.int pp2), .val (.long vv0), .second, .val (.long vv1), .second, .val (.long vv2), .second, .val (.ref b1), .val (.int (1 : Int32)), .val (.int zer1), .val (.int one1)] [(.int zer1), (.int (((Int32.ofNat (own_zc (own_f ac0 ac1 ac2) 2)) + (0 : Int32)) - (0 : Int32)))])) _
          refine XS.icmpNo X136.here hx rfl (hb hby at_309) rfl (teq hc309_137).2 ?_
          show Steps p.tables e below (T136.setTop (mkF m 312 #[.val (.int p0), .val (.long q1), .second, .val (.long q2), .second, .val (.long q3), .second, .val (.int nn), .val (.int pp0), .val (.int pp1), .val (.int pp2), .val (.long vv0), .second, .val (.long vv1), .second, .val (.long vv2), .second, .val (.ref b1), .val (.int (1 : Int32)), .val (.int zer1), .val (.int one1)] [])) _
          refine XS.iconst X136.here hx rfl (hb hby at_312) ?_
          show Steps p.tables e below (T136.setTop (mkF m 313 #[.val (.int p0), .val (.long q1), .second, .val (.long q2), .second, .val (.long q3), .second, .val (.int nn), .val (.int pp0), .val (.int pp1), .val (.int pp2), .val (.long vv0), .second, .val (.long vv1), .second, .val (.long vv2), .second, .val (.ref b1), .val (.int (1 : Int32)), .val (.int zer1), .val (.int one1)] [(.int (1 : Int32))])) _
          refine XS.goto X136.here hx rfl (pc0 := 313) (pc' := 317) rfl (hb hby at_313) (by decide) (by decide) ?_
          show Steps p.tables e below (T136.setTop (mkF m 317 #[.val (.int p0), .val (.long q1), .second, .val (.long q2), .second, .val (.long q3), .second, .val (.int nn), .val (.int pp0), .val (.int pp1), .val (.int pp2), .val (.long vv0), .second, .val (.long vv1), .second, .val (.long vv2), .second, .val (.ref b1), .val (.int (1 : Int32)), .val (.int zer1), .val (.int one1)] [(.int (1 : Int32))])) _
          refine XS.istore X136.here hx rfl (hb hby at_317) rfl (l' := #[.val (.int p0), .val (.long q1), .second, .val (.long q2), .second, .val (.long q3), .second, .val (.int nn), .val (.int pp0), .val (.int pp1), .val (.int pp2), .val (.long vv0), .second, .val (.long vv1), .second, .val (.long vv2), .second, .val (.ref b1), .val (.int (1 : Int32)), .val (.int zer1), .val (.int one1)]) rfl ?_
          show Steps p.tables e below (T136.setTop (mkF m 319 #[.val (.int p0), .val (.long q1), .second, .val (.long q2), .second, .val (.long q3), .second, .val (.int nn), .val (.int pp0), .val (.int pp1), .val (.int pp2), .val (.long vv0), .second, .val (.long vv1), .second, .val (.long vv2), .second, .val (.ref b1), .val (.int (1 : Int32)), .val (.int zer1), .val (.int one1)] [])) _
          refine XS.iload X136.here hx rfl (hb hby at_319) rfl ?_
          show Steps p.tables e below (T136.setTop (mkF m 321 #[.val (.int p0), .val (.long q1), .second, .val (.long q2), .second, .val (.long q3), .second, .val (.int nn), .val (.int pp0), .val (.int pp1), .val (.int pp2), .val (.long vv0), .second, .val (.long vv1), .second, .val (.long vv2), .second, .val (.ref b1), .val (.int (1 : Int32)), .val (.int zer1), .val (.int one1)] [(.int (1 : Int32))])) _
          refine XS.ifNo X136.here hx rfl (hb hby at_321) rfl ((if0 _ _).trans (feq (by decide)).1) ?_
          show Steps p.tables e below (T136.setTop (mkF m 324 #[.val (.int p0), .val (.long q1), .second, .val (.long q2), .second, .val (.long q3), .second, .val (.int nn), .val (.int pp0), .val (.int pp1), .val (.int pp2), .val (.long vv0), .second, .val (.long vv1), .second, .val (.long vv2), .second, .val (.ref b1), .val (.int (1 : Int32)), .val (.int zer1), .val (.int one1)] [])) _
          refine XS.aload X136.here hx rfl (hb hby at_324) rfl rfl ?_
          show Steps p.tables e below (T136.setTop (mkF m 326 #[.val (.int p0), .val (.long q1), .second, .val (.long q2), .second, .val (.long q3), .second, .val (.int nn), .val (.int pp0), .val (.int pp1), .val (.int pp2), .val (.long vv0), .second, .val (.long vv1), .second, .val (.long vv2), .second, .val (.ref b1), .val (.int (1 : Int32)), .val (.int zer1), .val (.int one1)] [(.ref b1)])) _
          refine XS.iconst X136.here hx rfl (hb hby at_326) ?_
          show Steps p.tables e below (T136.setTop (mkF m 327 #[.val (.int p0), .val (.long q1), .second, .val (.long q2), .second, .val (.long q3), .second, .val (.int nn), .val (.int pp0), .val (.int pp1), .val (.int pp2), .val (.long vv0), .second, .val (.long vv1), .second, .val (.long vv2), .second, .val (.ref b1), .val (.int (1 : Int32)), .val (.int zer1), .val (.int one1)] [(.int (1 : Int32)), (.ref b1)])) _
          refine XS.aconstNull X136.here hx rfl (hb hby at_327) ?_
          show Steps p.tables e below (T136.setTop (mkF m 328 #[.val (.int p0), .val (.long q1), .second, .val (.long q2), .second, .val (.long q3), .second, .val (.int nn), .val (.int pp0), .val (.int pp1), .val (.int pp2), .val (.long vv0), .second, .val (.long vv1), .second, .val (.long vv2), .second, .val (.ref b1), .val (.int (1 : Int32)), .val (.int zer1), .val (.int one1)] [.null, (.int (1 : Int32)), (.ref b1)])) _
          refine st144.trans ?_
          show Steps p.tables e below (T144.setTop (mkF m 331 #[.val (.int p0), .val (.long q1), .second, .val (.long q2), .second, .val (.long q3), .second, .val (.int nn), .val (.int pp0), .val (.int pp1), .val (.int pp2), .val (.long vv0), .second, .val (.long vv1), .second, .val (.long vv2), .second, .val (.ref b1), .val (.int (1 : Int32)), .val (.int zer1), .val (.int one1)] [(.ref b_144)])) _
          refine st152.trans ?_
          show Steps p.tables e below (T152.setTop (mkF m 336 #[.val (.int p0), .val (.long q1), .second, .val (.long q2), .second, .val (.long q3), .second, .val (.int nn), .val (.int pp0), .val (.int pp1), .val (.int pp2), .val (.long vv0), .second, .val (.long vv1), .second, .val (.long vv2), .second, .val (.ref b1), .val (.int (1 : Int32)), .val (.int zer1), .val (.int one1)] [(.int (((Int32.ofNat (own_oc (own_f ac0 ac1 ac2) 2)) + ((Int32.ofNat (own_zc (own_f ac0 ac1 ac2) 2)) + (0 : Int32))) - ((Int32.ofNat (own_zc (own_f ac0 ac1 ac2) 2)) + (0 : Int32))))])) _
          refine XS.iload X152.here hx rfl (hb hby at_336) rfl ?_
          show Steps p.tables e below (T152.setTop (mkF m 338 #[.val (.int p0), .val (.long q1), .second, .val (.long q2), .second, .val (.long q3), .second, .val (.int nn), .val (.int pp0), .val (.int pp1), .val (.int pp2), .val (.long vv0), .second, .val (.long vv1), .second, .val (.long vv2), .second, .val (.ref b1), .val (.int (1 : Int32)), .val (.int zer1), .val (.int one1)] [(.int one1), (.int (((Int32.ofNat (own_oc (own_f ac0 ac1 ac2) 2)) + ((Int32.ofNat (own_zc (own_f ac0 ac1 ac2) 2)) + (0 : Int32))) - ((Int32.ofNat (own_zc (own_f ac0 ac1 ac2) 2)) + (0 : Int32))))])) _
          refine XS.icmpNo X152.here hx rfl (hb hby at_338) rfl (teq hc338_153).2 ?_
          show Steps p.tables e below (T152.setTop (mkF m 341 #[.val (.int p0), .val (.long q1), .second, .val (.long q2), .second, .val (.long q3), .second, .val (.int nn), .val (.int pp0), .val (.int pp1), .val (.int pp2), .val (.long vv0), .second, .val (.long vv1), .second, .val (.long vv2), .second, .val (.ref b1), .val (.int (1 : Int32)), .val (.int zer1), .val (.int one1)] [])) _
          refine XS.iconst X152.here hx rfl (hb hby at_341) ?_
          show Steps p.tables e below (T152.setTop (mkF m 342 #[.val (.int p0), .val (.long q1), .second, .val (.long q2), .second, .val (.long q3), .second, .val (.int nn), .val (.int pp0), .val (.int pp1), .val (.int pp2), .val (.long vv0), .second, .val (.long vv1), .second, .val (.long vv2), .second, .val (.ref b1), .val (.int (1 : Int32)), .val (.int zer1), .val (.int one1)] [(.int (1 : Int32))])) _
          refine XS.goto X152.here hx rfl (pc0 := 342) (pc' := 346) rfl (hb hby at_342) (by decide) (by decide) ?_
          show Steps p.tables e below (T152.setTop (mkF m 346 #[.val (.int p0), .val (.long q1), .second, .val (.long q2), .second, .val (.long q3), .second, .val (.int nn), .val (.int pp0), .val (.int pp1), .val (.int pp2), .val (.long vv0), .second, .val (.long vv1), .second, .val (.long vv2), .second, .val (.ref b1), .val (.int (1 : Int32)), .val (.int zer1), .val (.int one1)] [(.int (1 : Int32))])) _
          refine XS.istore X152.here hx rfl (hb hby at_346) rfl (l' := #[.val (.int p0), .val (.long q1), .second, .val (.long q2), .second, .val (.long q3), .second, .val (.int nn), .val (.int pp0), .val (.int pp1), .val (.int pp2), .val (.long vv0), .second, .val (.long vv1), .second, .val (.long vv2), .second, .val (.ref b1), .val (.int (1 : Int32)), .val (.int zer1), .val (.int one1)]) rfl ?_
          show Steps p.tables e below (T152.setTop (mkF m 348 #[.val (.int p0), .val (.long q1), .second, .val (.long q2), .second, .val (.long q3), .second, .val (.int nn), .val (.int pp0), .val (.int pp1), .val (.int pp2), .val (.long vv0), .second, .val (.long vv1), .second, .val (.long vv2), .second, .val (.ref b1), .val (.int (1 : Int32)), .val (.int zer1), .val (.int one1)] [])) _
          refine XS.iload X152.here hx rfl (hb hby at_348) rfl ?_
          show Steps p.tables e below (T152.setTop (mkF m 350 #[.val (.int p0), .val (.long q1), .second, .val (.long q2), .second, .val (.long q3), .second, .val (.int nn), .val (.int pp0), .val (.int pp1), .val (.int pp2), .val (.long vv0), .second, .val (.long vv1), .second, .val (.long vv2), .second, .val (.ref b1), .val (.int (1 : Int32)), .val (.int zer1), .val (.int one1)] [(.int (1 : Int32))])) _
          exact retN X152 hx (t := .boolean) Bd.returns (by simp) (hb hby at_350) hr
        · show Q0 Z p0 q1 q2 q3 h0 n0 _ T152.heap _
          exact ⟨rfl, N152⟩
      · skip
        have c154 : Exa Z T98.heap b1 "com/example/vestwright/vestwright/ParticipantRows" := (c96.keep K98)
        have z155 : n0 ≤ T98.heap.size := (Nat.le_trans z97 K98.1)
        obtain ⟨cq156, kq156, q156a, q156b, q156c⟩ := isOf hZ rfl c154
        -- pc 166: ParticipantRows.add by rm2
        obtain ⟨_, _, ⟨T156, L156, k156, n156⟩, -, X156, ⟨Lc156, hQ156, l156, y156, z156'⟩, st156⟩ := X98.virtualBack hx (y := (⟨"com/example/vestwright/vestwright/ParticipantRows", "add", "(IJ)I"⟩ : MethodName)) (z := (⟨"com/example/vestwright/vestwright/ParticipantRows", "add", "(IJ)I"⟩ : MethodName)) hown (mvT hZ (hw _ (List.mem_of_getElem? (i := 79) rfl))) (mvT hZ (hw _ (List.mem_of_getElem? (i := 80) rfl))) (notFace_of_selects (args := #[]) (mvT hZ (hw _ (List.mem_of_getElem? (i := 82) rfl)))) (mvT hZ (hw _ (List.mem_of_getElem? (i := 82) rfl))) (mvT hZ (hw _ (List.mem_of_getElem? (i := 81) rfl))) (by decide) (backOf (W := 0) (rm2 l Z a0 hw [] b1 pp2 vv2 2 (((0 : Int32) + (1 : Int32)) + (1 : Int32)) pa_3 la_3 kp_3 kl_3 (([] ++ [(.int pp0)]) ++ [(.int pp1)]) (([] ++ [(.int (vv0.toInt32))]) ++ [(.int (vv1.toInt32))]) T98.heap n0 z155 c154 r0_98 r1_98 r2_98 r3_98 r4_98 r5_98 r6_98 ne4 ne5 r2_3 g_b1 g_pa_3 g_la_3 (by decide) (by decide) rfl rfl h_vv2) hZ (hw _ (List.mem_of_getElem? (i := 83) rfl)) (hw _ (List.mem_of_getElem? (i := 2) rfl)) (by decide) (by decide)) q156a q156c (g := (mkF m 166 #[.val (.int p0), .val (.long q1), .second, .val (.long q2), .second, .val (.long q3), .second, .val (.int nn), .val (.int pp0), .val (.int pp1), .val (.int pp2), .val (.long vv0), .second, .val (.long vv1), .second, .val (.long vv2), .second, .val (.ref b1), .val (.int (1 : Int32)), .val (.int zer1), .val (.int one1)] [(.long vv2), (.int pp2), (.ref b1)])) rfl (by rw [hml]; rfl) (Steps.refl _) (argsL := [(.int pp2), (.long vv2)]) (rest := []) (lenOf pd_8 rfl) rfl (by show 2 * 0 + _ ≤ _; exact Nat.le_of_eq rfl) (hb hby at_166) (fun _ _ => ⟨rfl, rfl, (by decide : 3 + 0 ≤ _), (by decide : 2053 + 0 ≤ _)⟩)
        dsimp only [Pt.U, Pt.locs, Pt.cells, Pt.slots] at X156 l156 y156 z156' st156 hQ156
        subst l156 y156 z156'
        obtain ⟨rfl, N156q, K156, r0_156, r1_156, r2_156, r3_156, r4_156, r5_156, r6_156⟩ := hQ156
        have N156 := Fr.app N98 N156q
        have J156 : Keep h0 T156.heap [] := J98.trans K156 (allS (Or.inr sz_b1) (allS (Or.inr sz_pa_3) (allS (Or.inr sz_la_3) all0)))
        have hc170_157 : (((0 : Int32) + (1 : Int32)) + (1 : Int32)) = (2 : Int32) := by decide
        obtain ⟨zer2, e_zer2⟩ : ∃ z : Int32, z = (if pp2 = (0 : Int32) then (zer1 + (1 : Int32)) else zer1) := ⟨_, rfl⟩
        obtain ⟨one2, e_one2⟩ : ∃ z : Int32, z = (if pp2 = (0 : Int32) then one1 else (one1 + (1 : Int32))) := ⟨_, rfl⟩
        have pre159 : ∀ t, Steps p.tables e below (T156.setTop (mkF m 194 #[.val (.int p0), .val (.long q1), .second, .val (.long q2), .second, .val (.long q3), .second, .val (.int nn), .val (.int pp0), .val (.int pp1), .val (.int pp2), .val (.long vv0), .second, .val (.long vv1), .second, .val (.long vv2), .second, .val (.ref b1), .val (.int (1 : Int32)), .val (.int zer2), .val (.int one2)] [])) t → Steps p.tables e below (s₁.setTop (entryFrame m #[(.int p0), (.long q1), (.long q2), (.long q3)] maxLocals)) t := by
          intro t kt
          refine pre102 _ ?_
          show Steps p.tables e below (T98.setTop (mkF m 152 #[.val (.int p0), .val (.long q1), .second, .val (.long q2), .second, .val (.long q3), .second, .val (.int nn), .val (.int pp0), .val (.int pp1), .val (.int pp2), .val (.long vv0), .second, .val (.long vv1), .second, .val (.long vv2), .second, .val (.ref b1), .val (.int (1 : Int32)), .val (.int zer1), .val (.int one1)] [(.int (3 : Int32)), (.int nn)])) _
          refine XS.icmpNo X98.here hx rfl (hb hby at_152) rfl (flt hc152_103).1 ?_
          show Steps p.tables e below (T98.setTop (mkF m 155 #[.val (.int p0), .val (.long q1), .second, .val (.long q2), .second, .val (.long q3), .second, .val (.int nn), .val (.int pp0), .val (.int pp1), .val (.int pp2), .val (.long vv0), .second, .val (.long vv1), .second, .val (.long vv2), .second, .val (.ref b1), .val (.int (1 : Int32)), .val (.int zer1), .val (.int one1)] [])) _
          refine XS.iload X98.here hx rfl (hb hby at_155) rfl ?_
          show Steps p.tables e below (T98.setTop (mkF m 157 #[.val (.int p0), .val (.long q1), .second, .val (.long q2), .second, .val (.long q3), .second, .val (.int nn), .val (.int pp0), .val (.int pp1), .val (.int pp2), .val (.long vv0), .second, .val (.long vv1), .second, .val (.long vv2), .second, .val (.ref b1), .val (.int (1 : Int32)), .val (.int zer1), .val (.int one1)] [(.int (1 : Int32))])) _
          refine XS.ifNo X98.here hx rfl (hb hby at_157) rfl ((if0 _ _).trans (feq (by decide)).1) ?_
          show Steps p.tables e below (T98.setTop (mkF m 160 #[.val (.int p0), .val (.long q1), .second, .val (.long q2), .second, .val (.long q3), .second, .val (.int nn), .val (.int pp0), .val (.int pp1), .val (.int pp2), .val (.long vv0), .second, .val (.long vv1), .second, .val (.long vv2), .second, .val (.ref b1), .val (.int (1 : Int32)), .val (.int zer1), .val (.int one1)] [])) _
          refine XS.aload X98.here hx rfl (hb hby at_160) rfl rfl ?_
          show Steps p.tables e below (T98.setTop (mkF m 162 #[.val (.int p0), .val (.long q1), .second, .val (.long q2), .second, .val (.long q3), .second, .val (.int nn), .val (.int pp0), .val (.int pp1), .val (.int pp2), .val (.long vv0), .second, .val (.long vv1), .second, .val (.long vv2), .second, .val (.ref b1), .val (.int (1 : Int32)), .val (.int zer1), .val (.int one1)] [(.ref b1)])) _
          refine XS.iload X98.here hx rfl (hb hby at_162) rfl ?_
          show Steps p.tables e below (T98.setTop (mkF m 164 #[.val (.int p0), .val (.long q1), .second, .val (.long q2), .second, .val (.long q3), .second, .val (.int nn), .val (.int pp0), .val (.int pp1), .val (.int pp2), .val (.long vv0), .second, .val (.long vv1), .second, .val (.long vv2), .second, .val (.ref b1), .val (.int (1 : Int32)), .val (.int zer1), .val (.int one1)] [(.int pp2), (.ref b1)])) _
          refine XS.lload X98.here hx rfl (hb hby at_164) rfl ?_
          show Steps p.tables e below (T98.setTop (mkF m 166 #[.val (.int p0), .val (.long q1), .second, .val (.long q2), .second, .val (.long q3), .second, .val (.int nn), .val (.int pp0), .val (.int pp1), .val (.int pp2), .val (.long vv0), .second, .val (.long vv1), .second, .val (.long vv2), .second, .val (.ref b1), .val (.int (1 : Int32)), .val (.int zer1), .val (.int one1)] [(.long vv2), (.int pp2), (.ref b1)])) _
          refine st156.trans ?_
          show Steps p.tables e below (T156.setTop (mkF m 169 #[.val (.int p0), .val (.long q1), .second, .val (.long q2), .second, .val (.long q3), .second, .val (.int nn), .val (.int pp0), .val (.int pp1), .val (.int pp2), .val (.long vv0), .second, .val (.long vv1), .second, .val (.long vv2), .second, .val (.ref b1), .val (.int (1 : Int32)), .val (.int zer1), .val (.int one1)] [(.int (((0 : Int32) + (1 : Int32)) + (1 : Int32)))])) _
          refine XS.iconst X156.here hx rfl (hb hby at_169) ?_
          show Steps p.tables e below (T156.setTop (mkF m 170 #[.val (.int p0), .val (.long q1), .second, .val (.long q2), .second, .val (.long q3), .second, .val (.int nn), .val (.int pp0), .val (.int pp1), .val (.int pp2), .val (.long vv0), .second, .val (.long vv1), .second, .val (.long vv2), .second, .val (.ref b1), .val (.int (1 : Int32)), .val (.int zer1), .val (.int one1)] [(.int (2 : Int32)), (.int (((0 : Int32) + (1 : Int32)) + (1 : Int32)))])) _
          refine XS.icmpNo X156.here hx rfl (hb hby at_170) rfl (teq hc170_157).2 ?_
          show Steps p.tables e below (T156.setTop (mkF m 173 #[.val (.int p0), .val (.long q1), .second, .val (.long q2), .second, .val (.long q3), .second, .val (.int nn), .val (.int pp0), .val (.int pp1), .val (.int pp2), .val (.long vv0), .second, .val (.long vv1), .second, .val (.long vv2), .second, .val (.ref b1), .val (.int (1 : Int32)), .val (.int zer1), .val (.int one1)] [])) _
          refine XS.iconst X156.here hx rfl (hb hby at_173) ?_
          show Steps p.tables e below (T156.setTop (mkF m 174 #[.val (.int p0), .val (.long q1), .second, .val (.long q2), .second, .val (.long q3), .second, .val (.int nn), .val (.int pp0), .val (.int pp1), .val (.int pp2), .val (.long vv0), .second, .val (.long vv1), .second, .val (.long vv2), .second, .val (.ref b1), .val (.int (1 : Int32)), .val (.int zer1), .val (.int one1)] [(.int (1 : Int32))])) _
          refine XS.goto X156.here hx rfl (pc0 := 174) (pc' := 178) rfl (hb hby at_174) (by decide) (by decide) ?_
          show Steps p.tables e below (T156.setTop (mkF m 178 #[.val (.int p0), .val (.long q1), .second, .val (.long q2), .second, .val (.long q3), .second, .val (.int nn), .val (.int pp0), .val (.int pp1), .val (.int pp2), .val (.long vv0), .second, .val (.long vv1), .second, .val (.long vv2), .second, .val (.ref b1), .val (.int (1 : Int32)), .val (.int zer1), .val (.int one1)] [(.int (1 : Int32))])) _
          refine XS.istore X156.here hx rfl (hb hby at_178) rfl (l' := #[.val (.int p0), .val (.long q1), .second, .val (.long q2), .second, .val (.long q3), .second, .val (.int nn), .val (.int pp0), .val (.int pp1), .val (.int pp2), .val (.long vv0), .second, .val (.long vv1), .second, .val (.long vv2), .second, .val (.ref b1), .val (.int (1 : Int32)), .val (.int zer1), .val (.int one1)]) rfl ?_
          show Steps p.tables e below (T156.setTop (mkF m 180 #[.val (.int p0), .val (.long q1), .second, .val (.long q2), .second, .val (.long q3), .second, .val (.int nn), .val (.int pp0), .val (.int pp1), .val (.int pp2), .val (.long vv0), .second, .val (.long vv1), .second, .val (.long vv2), .second, .val (.ref b1), .val (.int (1 : Int32)), .val (.int zer1), .val (.int one1)] [])) _
          refine XS.iload X156.here hx rfl (hb hby at_180) rfl ?_
          by_cases hc182_158 : pp2 = (0 : Int32)
          · rw [if_pos hc182_158] at e_zer2; rw [if_pos hc182_158] at e_one2
            show Steps p.tables e below (T156.setTop (mkF m 182 #[.val (.int p0), .val (.long q1), .second, .val (.long q2), .second, .val (.long q3), .second, .val (.int nn), .val (.int pp0), .val (.int pp1), .val (.int pp2), .val (.long vv0), .second, .val (.long vv1), .second, .val (.long vv2), .second, .val (.ref b1), .val (.int (1 : Int32)), .val (.int zer1), .val (.int one1)] [(.int pp2)])) _
            refine XS.ifNo X156.here hx rfl (hb hby at_182) rfl ((if0 _ _).trans (teq hc182_158).2) ?_
            show Steps p.tables e below (T156.setTop (mkF m 185 #[.val (.int p0), .val (.long q1), .second, .val (.long q2), .second, .val (.long q3), .second, .val (.int nn), .val (.int pp0), .val (.int pp1), .val (.int pp2), .val (.long vv0), .second, .val (.long vv1), .second, .val (.long vv2), .second, .val (.ref b1), .val (.int (1 : Int32)), .val (.int zer1), .val (.int one1)] [])) _
            refine XS.iinc X156.here hx rfl (hb hby at_185) rfl (l' := #[.val (.int p0), .val (.long q1), .second, .val (.long q2), .second, .val (.long q3), .second, .val (.int nn), .val (.int pp0), .val (.int pp1), .val (.int pp2), .val (.long vv0), .second, .val (.long vv1), .second, .val (.long vv2), .second, .val (.ref b1), .val (.int (1 : Int32)), .val (.int (zer1 + (1 : Int32))), .val (.int one1)]) rfl ?_
            show Steps p.tables e below (T156.setTop (mkF m 188 #[.val (.int p0), .val (.long q1), .second, .val (.long q2), .second, .val (.long q3), .second, .val (.int nn), .val (.int pp0), .val (.int pp1), .val (.int pp2), .val (.long vv0), .second, .val (.long vv1), .second, .val (.long vv2), .second, .val (.ref b1), .val (.int (1 : Int32)), .val (.int (zer1 + (1 : Int32))), .val (.int one1)] [])) _
            refine XS.goto X156.here hx rfl (pc0 := 188) (pc' := 194) rfl (hb hby at_188) (by decide) (by decide) ?_
            subst e_zer2
            subst e_one2
            exact kt
          · rw [if_neg hc182_158] at e_zer2; rw [if_neg hc182_158] at e_one2
            show Steps p.tables e below (T156.setTop (mkF m 182 #[.val (.int p0), .val (.long q1), .second, .val (.long q2), .second, .val (.long q3), .second, .val (.int nn), .val (.int pp0), .val (.int pp1), .val (.int pp2), .val (.long vv0), .second, .val (.long vv1), .second, .val (.long vv2), .second, .val (.ref b1), .val (.int (1 : Int32)), .val (.int zer1), .val (.int one1)] [(.int pp2)])) _
            refine XS.ifYes X156.here hx rfl (pc0 := 182) (pc' := 191) rfl (hb hby at_182) rfl ((if0 _ _).trans (feq hc182_158).2) (by decide) (by decide) ?_
            show Steps p.tables e below (T156.setTop (mkF m 191 #[.val (.int p0), .val (.long q1), .second, .val (.long q2), .second, .val (.long q3), .second, .val (.int nn), .val (.int pp0), .val (.int pp1), .val (.int pp2), .val (.long vv0), .second, .val (.long vv1), .second, .val (.long vv2), .second, .val (.ref b1), .val (.int (1 : Int32)), .val (.int zer1), .val (.int one1)] [])) _
            refine XS.iinc X156.here hx rfl (hb hby at_191) rfl (l' := #[.val (.int p0), .val (.long q1), .second, .val (.long q2), .second, .val (.long q3), .second, .val (.int nn), .val (.int pp0), .val (.int pp1), .val (.int pp2), .val (.long vv0), .second, .val (.long vv1), .second, .val (.long vv2), .second, .val (.ref b1), .val (.int (1 : Int32)), .val (.int zer1), .val (.int (one1 + (1 : Int32)))]) rfl ?_
            subst e_zer2
            subst e_one2
            exact kt
        have z160 : n0 ≤ T156.heap.size := (Nat.le_trans z155 K156.1)
        have c162 : Exa Z T156.heap b1 "com/example/vestwright/vestwright/ParticipantRows" := (c154.keep K156)
        obtain ⟨cq161, kq161, q161a, q161b, q161c⟩ := isOf hZ rfl c162
        -- pc 208: ParticipantRows.line by rm3
        obtain ⟨_, _, ⟨T161, L161, k161, n161⟩, -, X161, ⟨Lc161, hQ161, l161, y161, z161'⟩, st161⟩ := X156.virtualBack hx (y := (⟨"com/example/vestwright/vestwright/ParticipantRows", "line", "(I)J"⟩ : MethodName)) (z := (⟨"com/example/vestwright/vestwright/ParticipantRows", "line", "(I)J"⟩ : MethodName)) hown (mvT hZ (hw _ (List.mem_of_getElem? (i := 87) rfl))) (mvT hZ (hw _ (List.mem_of_getElem? (i := 88) rfl))) (notFace_of_selects (args := #[]) (mvT hZ (hw _ (List.mem_of_getElem? (i := 90) rfl)))) (mvT hZ (hw _ (List.mem_of_getElem? (i := 90) rfl))) (mvT hZ (hw _ (List.mem_of_getElem? (i := 89) rfl))) (by decide) (backOf (W := 0) (rm3 l Z a0 hw [] b1 (0 : Int32) (vv0.toInt32) la_3 kl_3 ((([] ++ [(.int (vv0.toInt32))]) ++ [(.int (vv1.toInt32))]) ++ [(.int (vv2.toInt32))]) T156.heap n0 z160 r2_156 r6_156 (by decide) rfl) hZ (hw _ (List.mem_of_getElem? (i := 91) rfl)) (hw _ (List.mem_of_getElem? (i := 2) rfl)) (by decide) (by decide)) q161a q161c (g := (mkF m 208 #[.val (.int p0), .val (.long q1), .second, .val (.long q2), .second, .val (.long q3), .second, .val (.int nn), .val (.int pp0), .val (.int pp1), .val (.int pp2), .val (.long vv0), .second, .val (.long vv1), .second, .val (.long vv2), .second, .val (.ref b1), .val (.int (1 : Int32)), .val (.int zer2), .val (.int one2)] [(.int (0 : Int32)), (.ref b1)])) rfl (by rw [hml]; rfl) (Steps.refl _) (argsL := [(.int (0 : Int32))]) (rest := []) (lenOf pd_9 rfl) rfl (by show 2 * 0 + _ ≤ _; exact Nat.le_of_eq rfl) (hb hby at_208) (fun _ _ => ⟨rfl, rfl, (by decide : 3 + 0 ≤ _), (by decide : 2053 + 0 ≤ _)⟩)
        dsimp only [Pt.U, Pt.locs, Pt.cells, Pt.slots] at X161 l161 y161 z161' st161 hQ161
        subst l161 y161 z161'
        obtain ⟨rfl, N161q, K161⟩ := hQ161
        have N161 := Fr.app N156 N161q
        have J161 : Keep h0 T161.heap [] := J156.trans K161 all0
        have hc214_163 : ((vv0.toInt32).toInt64) = vv0 := h_vv0
        have c164 : Fld Z T161.heap b1 "com/example/vestwright/vestwright/ParticipantRows" "lines" "[I" (.ref la_3) := (r2_156.keep K161 nin0)
        have c165 : Arv Z T161.heap la_3 kl_3 .int (1024 : Int32) ((([] ++ [(.int (vv0.toInt32))]) ++ [(.int (vv1.toInt32))]) ++ [(.int (vv2.toInt32))]) (.int (0 : Int32)) := (r6_156.keep K161 nin0)
        have z166 : n0 ≤ T161.heap.size := (Nat.le_trans z160 K161.1)
        have c168 : Exa Z T161.heap b1 "com/example/vestwright/vestwright/ParticipantRows" := (c162.keep K161)
        obtain ⟨cq167, kq167, q167a, q167b, q167c⟩ := isOf hZ rfl c168
        -- pc 238: ParticipantRows.line by rm3
        obtain ⟨_, _, ⟨T167, L167, k167, n167⟩, -, X167, ⟨Lc167, hQ167, l167, y167, z167'⟩, st167⟩ := X161.virtualBack hx (y := (⟨"com/example/vestwright/vestwright/ParticipantRows", "line", "(I)J"⟩ : MethodName)) (z := (⟨"com/example/vestwright/vestwright/ParticipantRows", "line", "(I)J"⟩ : MethodName)) hown (mvT hZ (hw _ (List.mem_of_getElem? (i := 87) rfl))) (mvT hZ (hw _ (List.mem_of_getElem? (i := 88) rfl))) (notFace_of_selects (args := #[]) (mvT hZ (hw _ (List.mem_of_getElem? (i := 90) rfl)))) (mvT hZ (hw _ (List.mem_of_getElem? (i := 90) rfl))) (mvT hZ (hw _ (List.mem_of_getElem? (i := 89) rfl))) (by decide) (backOf (W := 0) (rm3 l Z a0 hw [] b1 (1 : Int32) (vv1.toInt32) la_3 kl_3 ((([] ++ [(.int (vv0.toInt32))]) ++ [(.int (vv1.toInt32))]) ++ [(.int (vv2.toInt32))]) T161.heap n0 z166 c164 c165 (by decide) rfl) hZ (hw _ (List.mem_of_getElem? (i := 91) rfl)) (hw _ (List.mem_of_getElem? (i := 2) rfl)) (by decide) (by decide)) q167a q167c (g := (mkF m 238 #[.val (.int p0), .val (.long q1), .second, .val (.long q2), .second, .val (.long q3), .second, .val (.int nn), .val (.int pp0), .val (.int pp1), .val (.int pp2), .val (.long vv0), .second, .val (.long vv1), .second, .val (.long vv2), .second, .val (.ref b1), .val (.int (1 : Int32)), .val (.int zer2), .val (.int one2)] [(.int (1 : Int32)), (.ref b1)])) rfl (by rw [hml]; rfl) (Steps.refl _) (argsL := [(.int (1 : Int32))]) (rest := []) (lenOf pd_9 rfl) rfl (by show 2 * 0 + _ ≤ _; exact Nat.le_of_eq rfl) (hb hby at_238) (fun _ _ => ⟨rfl, rfl, (by decide : 3 + 0 ≤ _), (by decide : 2053 + 0 ≤ _)⟩)
        dsimp only [Pt.U, Pt.locs, Pt.cells, Pt.slots] at X167 l167 y167 z167' st167 hQ167
        subst l167 y167 z167'
        obtain ⟨rfl, N167q, K167⟩ := hQ167
        have N167 := Fr.app N161 N167q
        have J167 : Keep h0 T167.heap [] := J161.trans K167 all0
        have hc244_169 : ((vv1.toInt32).toInt64) = vv1 := h_vv1
        have c170 : Fld Z T167.heap b1 "com/example/vestwright/vestwright/ParticipantRows" "lines" "[I" (.ref la_3) := (c164.keep K167 nin0)
        have c171 : Arv Z T167.heap la_3 kl_3 .int (1024 : Int32) ((([] ++ [(.int (vv0.toInt32))]) ++ [(.int (vv1.toInt32))]) ++ [(.int (vv2.toInt32))]) (.int (0 : Int32)) := (c165.keep K167 nin0)
        have z172 : n0 ≤ T167.heap.size := (Nat.le_trans z166 K167.1)
        have c174 : Exa Z T167.heap b1 "com/example/vestwright/vestwright/ParticipantRows" := (c168.keep K167)
        obtain ⟨cq173, kq173, q173a, q173b, q173c⟩ := isOf hZ rfl c174
        -- pc 268: ParticipantRows.line by rm3
        obtain ⟨_, _, ⟨T173, L173, k173, n173⟩, -, X173, ⟨Lc173, hQ173, l173, y173, z173'⟩, st173⟩ := X167.virtualBack hx (y := (⟨"com/example/vestwright/vestwright/ParticipantRows", "line", "(I)J"⟩ : MethodName)) (z := (⟨"com/example/vestwright/vestwright/ParticipantRows", "line", "(I)J"⟩ : MethodName)) hown (mvT hZ (hw _ (List.mem_of_getElem? (i := 87) rfl))) (mvT hZ (hw _ (List.mem_of_getElem? (i := 88) rfl))) (notFace_of_selects (args := #[]) (mvT hZ (hw _ (List.mem_of_getElem? (i := 90) rfl)))) (mvT hZ (hw _ (List.mem_of_getElem? (i := 90) rfl))) (mvT hZ (hw _ (List.mem_of_getElem? (i := 89) rfl))) (by decide) (backOf (W := 0) (rm3 l Z a0 hw [] b1 (2 : Int32) (vv2.toInt32) la_3 kl_3 ((([] ++ [(.int (vv0.toInt32))]) ++ [(.int (vv1.toInt32))]) ++ [(.int (vv2.toInt32))]) T167.heap n0 z172 c170 c171 (by decide) rfl) hZ (hw _ (List.mem_of_getElem? (i := 91) rfl)) (hw _ (List.mem_of_getElem? (i := 2) rfl)) (by decide) (by decide)) q173a q173c (g := (mkF m 268 #[.val (.int p0), .val (.long q1), .second, .val (.long q2), .second, .val (.long q3), .second, .val (.int nn), .val (.int pp0), .val (.int pp1), .val (.int pp2), .val (.long vv0), .second, .val (.long vv1), .second, .val (.long vv2), .second, .val (.ref b1), .val (.int (1 : Int32)), .val (.int zer2), .val (.int one2)] [(.int (2 : Int32)), (.ref b1)])) rfl (by rw [hml]; rfl) (Steps.refl _) (argsL := [(.int (2 : Int32))]) (rest := []) (lenOf pd_9 rfl) rfl (by show 2 * 0 + _ ≤ _; exact Nat.le_of_eq rfl) (hb hby at_268) (fun _ _ => ⟨rfl, rfl, (by decide : 3 + 0 ≤ _), (by decide : 2053 + 0 ≤ _)⟩)
        dsimp only [Pt.U, Pt.locs, Pt.cells, Pt.slots] at X173 l173 y173 z173' st173 hQ173
        subst l173 y173 z173'
        obtain ⟨rfl, N173q, K173⟩ := hQ173
        have N173 := Fr.app N167 N173q
        have J173 : Keep h0 T173.heap [] := J167.trans K173 all0
        have hc274_175 : ((vv2.toInt32).toInt64) = vv2 := h_vv2
        have c176 : Exa Z T173.heap b1 "com/example/vestwright/vestwright/ParticipantRows" := (c174.keep K173)
        have c177 : Fld Z T173.heap b1 "com/example/vestwright/vestwright/ParticipantRows" "size" "I" (.int ((((0 : Int32) + (1 : Int32)) + (1 : Int32)) + (1 : Int32))) := (((r0_156.keep K161 nin0).keep K167 nin0).keep K173 nin0)
        have c178 : Fld Z T173.heap b1 "com/example/vestwright/vestwright/ParticipantRows" "participants" "[I" (.ref pa_3) := (((r1_156.keep K161 nin0).keep K167 nin0).keep K173 nin0)
        have c179 : Fld Z T173.heap b1 "com/example/vestwright/vestwright/ParticipantRows" "starts" "[I" .null := (((r3_156.keep K161 nin0).keep K167 nin0).keep K173 nin0)
        have c180 : Fld Z T173.heap b1 "com/example/vestwright/vestwright/ParticipantRows" "order" "[I" .null := (((r4_156.keep K161 nin0).keep K167 nin0).keep K173 nin0)
        have c181 : Arv Z T173.heap pa_3 kp_3 .int (1024 : Int32) ((([] ++ [(.int pp0)]) ++ [(.int pp1)]) ++ [(.int pp2)]) (.int (0 : Int32)) := (((r5_156.keep K161 nin0).keep K167 nin0).keep K173 nin0)
        have c182 : Arv Z T173.heap la_3 kl_3 .int (1024 : Int32) ((([] ++ [(.int (vv0.toInt32))]) ++ [(.int (vv1.toInt32))]) ++ [(.int (vv2.toInt32))]) (.int (0 : Int32)) := (c171.keep K173 nin0)
        have z183 : n0 ≤ T173.heap.size := (Nat.le_trans z172 K173.1)
        obtain ⟨cq184, kq184, q184a, q184b, q184c⟩ := isOf hZ rfl c176
        -- pc 287: ParticipantRows.group by rm4
        obtain ⟨_, _, ⟨T184, L184, k184, n184⟩, -, X184, ⟨Lc184, hQ184, l184, y184, z184'⟩, st184⟩ := X173.virtualBack hx (y := (⟨"com/example/vestwright/vestwright/ParticipantRows", "group", "(I)V"⟩ : MethodName)) (z := (⟨"com/example/vestwright/vestwright/ParticipantRows", "group", "(I)V"⟩ : MethodName)) hown (mvT hZ (hw _ (List.mem_of_getElem? (i := 14) rfl))) (mvT hZ (hw _ (List.mem_of_getElem? (i := 15) rfl))) (notFace_of_selects (args := #[]) (mvT hZ (hw _ (List.mem_of_getElem? (i := 17) rfl)))) (mvT hZ (hw _ (List.mem_of_getElem? (i := 17) rfl))) (mvT hZ (hw _ (List.mem_of_getElem? (i := 16) rfl))) (by decide) (backOf (W := 0) (rm4 l Z a0 hw [] b1 3 (own_f ac0 ac1 ac2) pa_3 kp_3 ((([] ++ [(.int pp0)]) ++ [(.int pp1)]) ++ [(.int pp2)]) T173.heap n0 z183 c176 c177 c178 c179 c180 c181 g_b1 (by decide) (own_f2 hac0 hac1 hac2) (own_ps3 hpp0 hpp1 hpp2)) hZ (hw _ (List.mem_of_getElem? (i := 18) rfl)) (hw _ (List.mem_of_getElem? (i := 2) rfl)) (by decide) (by decide)) q184a q184c (g := (mkF m 287 #[.val (.int p0), .val (.long q1), .second, .val (.long q2), .second, .val (.long q3), .second, .val (.int nn), .val (.int pp0), .val (.int pp1), .val (.int pp2), .val (.long vv0), .second, .val (.long vv1), .second, .val (.long vv2), .second, .val (.ref b1), .val (.int (1 : Int32)), .val (.int zer2), .val (.int one2)] [(.int (2 : Int32)), (.ref b1)])) rfl (by rw [hml]; rfl) (Steps.refl _) (argsL := [(.int (2 : Int32))]) (rest := []) (lenOf pd_5 rfl) rfl (by show 2 * 0 + _ ≤ _; exact Nat.le_of_eq rfl) (hb hby at_287) (fun _ _ => ⟨rfl, rfl, (by decide : 3 + 3 ≤ _), (by decide : 2053 + 8 ≤ _)⟩)
        dsimp only [Pt.U, Pt.locs, Pt.cells, Pt.slots] at X184 l184 y184 z184' st184 hQ184
        subst l184 y184 z184'
        obtain ⟨sa_184, ks_184, rfl, N184q, K184, r0_184, r1_184, r2_184⟩ := hQ184
        have N184 := Fr.app N173 N184q
        have J184 : Keep h0 T184.heap [] := J173.trans K184 (allS (Or.inr sz_b1) all0)
        have g_sa_184 : n0 ≤ sa_184 := Nat.le_trans z183 r0_184
        have sz_sa_184 : h0.size ≤ sa_184 := Nat.le_trans J173.1 r0_184
        have ne185 : b1 ≠ sa_184 := Nat.ne_of_lt (Nat.lt_of_lt_of_le c176.lt r0_184)
        have ne186 : pa_3 ≠ sa_184 := Nat.ne_of_lt (Nat.lt_of_lt_of_le c181.lt r0_184)
        have ne187 : la_3 ≠ sa_184 := Nat.ne_of_lt (Nat.lt_of_lt_of_le c182.lt r0_184)
        have c188 : Arv Z T184.heap pa_3 kp_3 .int (1024 : Int32) ((([] ++ [(.int pp0)]) ++ [(.int pp1)]) ++ [(.int pp2)]) (.int (0 : Int32)) := (c181.keep K184 (ninS (Ne.symm ne4) nin0))
        have c189 : Arv Z T184.heap la_3 kl_3 .int (1024 : Int32) ((([] ++ [(.int (vv0.toInt32))]) ++ [(.int (vv1.toInt32))]) ++ [(.int (vv2.toInt32))]) (.int (0 : Int32)) := (c182.keep K184 (ninS (Ne.symm ne5) nin0))
        have z190 : n0 ≤ T184.heap.size := (Nat.le_trans z183 K184.1)
        have c192 : Exa Z T184.heap b1 "com/example/vestwright/vestwright/ParticipantRows" := (c176.keep K184)
        obtain ⟨cq191, kq191, q191a, q191b, q191c⟩ := isOf hZ rfl c192
        -- pc 299: ParticipantRows.rowsOf by rm5
        obtain ⟨_, _, ⟨T191, L191, k191, n191⟩, -, X191, ⟨Lc191, hQ191, l191, y191, z191'⟩, st191⟩ := X184.virtualBack hx (y := (⟨"com/example/vestwright/vestwright/ParticipantRows", "rowsOf", "(ILjava/util/function/IntFunction;)Ljava/util/List;"⟩ : MethodName)) (z := (⟨"com/example/vestwright/vestwright/ParticipantRows", "rowsOf", "(ILjava/util/function/IntFunction;)Ljava/util/List;"⟩ : MethodName)) hown (mvT hZ (hw _ (List.mem_of_getElem? (i := 37) rfl))) (mvT hZ (hw _ (List.mem_of_getElem? (i := 38) rfl))) (notFace_of_selects (args := #[]) (mvT hZ (hw _ (List.mem_of_getElem? (i := 40) rfl)))) (mvT hZ (hw _ (List.mem_of_getElem? (i := 40) rfl))) (mvT hZ (hw _ (List.mem_of_getElem? (i := 39) rfl))) (by decide) (backOf (W := 0) (rm5 l Z a0 hw [] b1 (0 : Int32) sa_184 ks_184 (own_l3 ((Int32.ofNat (own_zc (own_f ac0 ac1 ac2) 3)) + (0 : Int32)) ((Int32.ofNat (own_oc (own_f ac0 ac1 ac2) 3)) + ((Int32.ofNat (own_zc (own_f ac0 ac1 ac2) 3)) + (0 : Int32)))) (0 : Int32) ((Int32.ofNat (own_zc (own_f ac0 ac1 ac2) 3)) + (0 : Int32)) T184.heap n0 z190 r1_184 r2_184 (by decide) (by decide) rfl rfl) hZ (hw _ (List.mem_of_getElem? (i := 41) rfl)) (hw _ (List.mem_of_getElem? (i := 2) rfl)) (by decide) (by decide)) q191a q191c (g := (mkF m 299 #[.val (.int p0), .val (.long q1), .second, .val (.long q2), .second, .val (.long q3), .second, .val (.int nn), .val (.int pp0), .val (.int pp1), .val (.int pp2), .val (.long vv0), .second, .val (.long vv1), .second, .val (.long vv2), .second, .val (.ref b1), .val (.int (1 : Int32)), .val (.int zer2), .val (.int one2)] [.null, (.int (0 : Int32)), (.ref b1)])) rfl (by rw [hml]; rfl) (Steps.refl _) (argsL := [(.int (0 : Int32)), .null]) (rest := []) (lenOf pd_6 rfl) rfl (by show 2 * 0 + _ ≤ _; exact Nat.le_of_eq rfl) (hb hby at_299) (fun _ _ => ⟨rfl, rfl, (by decide : 6 + 1 ≤ _), (by decide : 2061 + 5 ≤ _)⟩)
        dsimp only [Pt.U, Pt.locs, Pt.cells, Pt.slots] at X191 l191 y191 z191' st191 hQ191
        subst l191 y191 z191'
        obtain ⟨b_191, rfl, N191q, K191, r0_191, r1_191, r2_191, r3_191⟩ := hQ191
        have N191 := Fr.app N184 N191q
        have J191 : Keep h0 T191.heap [] := J184.trans K191 all0
        have g_b_191 : n0 ≤ b_191 := Nat.le_trans z190 r0_191
        have sz_b_191 : h0.size ≤ b_191 := Nat.le_trans J184.1 r0_191
        have ne193 : b1 ≠ b_191 := Nat.ne_of_lt (Nat.lt_of_lt_of_le c192.lt r0_191)
        have ne194 : pa_3 ≠ b_191 := Nat.ne_of_lt (Nat.lt_of_lt_of_le c188.lt r0_191)
        have ne195 : la_3 ≠ b_191 := Nat.ne_of_lt (Nat.lt_of_lt_of_le c189.lt r0_191)
        have ne196 : sa_184 ≠ b_191 := Nat.ne_of_lt (Nat.lt_of_lt_of_le r2_184.lt r0_191)
        have z197 : n0 ≤ T191.heap.size := (Nat.le_trans z190 K191.1)
        obtain ⟨cq198, kq198, q198a, q198b, q198c⟩ := isOf hZ rfl r1_191
        -- pc 302: List.size by rm193
        obtain ⟨_, _, ⟨T198, L198, k198, n198⟩, -, X198, ⟨Lc198, hQ198, l198, y198, z198'⟩, st198⟩ := X191.interfaceBack hx (xi := (⟨"java/util/List", "size", "()I"⟩ : MethodName)) (y := (⟨"com/example/vestwright/vestwright/ParticipantRows$Rows", "size", "()I"⟩ : MethodName)) hown (mvT hZ (hw _ (List.mem_of_getElem? (i := 70) rfl))) (mvT hZ (hw _ (List.mem_of_getElem? (i := 71) rfl))) (mvT hZ (hw _ (List.mem_of_getElem? (i := 72) rfl))) (mvT hZ (hw _ (List.mem_of_getElem? (i := 73) rfl))) (mvT hZ (hw _ (List.mem_of_getElem? (i := 74) rfl))) (mvT hZ (hw _ (List.mem_of_getElem? (i := 75) rfl))) (mvT hZ (hw _ (List.mem_of_getElem? (i := 76) rfl))) (mvT hZ (hw _ (List.mem_of_getElem? (i := 77) rfl))) (by decide) (backOf (W := 0) (rm193 l Z a0 hw [] b_191 (0 : Int32) ((Int32.ofNat (own_zc (own_f ac0 ac1 ac2) 3)) + (0 : Int32)) T191.heap n0 z197 r2_191 r3_191) hZ (hw _ (List.mem_of_getElem? (i := 78) rfl)) (hw _ (List.mem_of_getElem? (i := 44) rfl)) (by decide) (by decide)) q198a q198b q198c (g := (mkF m 302 #[.val (.int p0), .val (.long q1), .second, .val (.long q2), .second, .val (.long q3), .second, .val (.int nn), .val (.int pp0), .val (.int pp1), .val (.int pp2), .val (.long vv0), .second, .val (.long vv1), .second, .val (.long vv2), .second, .val (.ref b1), .val (.int (1 : Int32)), .val (.int zer2), .val (.int one2)] [(.ref b_191)])) rfl (by rw [hml]; rfl) (Steps.refl _) (argsL := []) (rest := []) (lenOf pd_7 rfl) rfl (by show 2 * 0 + _ ≤ _; exact Nat.le_of_eq rfl) (hb hby at_302) (fun _ _ => ⟨rfl, rfl, (by decide : 7 + 0 ≤ _), (by decide : 2066 + 0 ≤ _)⟩)
        dsimp only [Pt.U, Pt.locs, Pt.cells, Pt.slots] at X198 l198 y198 z198' st198 hQ198
        subst l198 y198 z198'
        obtain ⟨rfl, N198q, K198⟩ := hQ198
        have N198 := Fr.app N191 N198q
        have J198 : Keep h0 T198.heap [] := J191.trans K198 all0
        have hc309_199 : (((Int32.ofNat (own_zc (own_f ac0 ac1 ac2) 3)) + (0 : Int32)) - (0 : Int32)) = zer2 := own_zz3 hac0 hac1 hac2 hpp0 e_zer0 e_one0 hpp1 e_zer1 e_one1 hpp2 e_zer2 e_one2
        have c200 : Fld Z T198.heap b1 "com/example/vestwright/vestwright/ParticipantRows" "starts" "[I" (.ref sa_184) := ((r1_184.keep K191 nin0).keep K198 nin0)
        have c201 : Arv Z T198.heap sa_184 ks_184 .int (3 : Int32) (own_l3 ((Int32.ofNat (own_zc (own_f ac0 ac1 ac2) 3)) + (0 : Int32)) ((Int32.ofNat (own_oc (own_f ac0 ac1 ac2) 3)) + ((Int32.ofNat (own_zc (own_f ac0 ac1 ac2) 3)) + (0 : Int32)))) (.int (0 : Int32)) := ((r2_184.keep K191 nin0).keep K198 nin0)
        have c202 : Exa Z T198.heap b_191 "com/example/vestwright/vestwright/ParticipantRows$Rows" := (r1_191.keep K198)
        have c203 : Arv Z T198.heap pa_3 kp_3 .int (1024 : Int32) ((([] ++ [(.int pp0)]) ++ [(.int pp1)]) ++ [(.int pp2)]) (.int (0 : Int32)) := ((c188.keep K191 nin0).keep K198 nin0)
        have c204 : Arv Z T198.heap la_3 kl_3 .int (1024 : Int32) ((([] ++ [(.int (vv0.toInt32))]) ++ [(.int (vv1.toInt32))]) ++ [(.int (vv2.toInt32))]) (.int (0 : Int32)) := ((c189.keep K191 nin0).keep K198 nin0)
        have z205 : n0 ≤ T198.heap.size := (Nat.le_trans z197 K198.1)
        have c207 : Exa Z T198.heap b1 "com/example/vestwright/vestwright/ParticipantRows" := ((c192.keep K191).keep K198)
        obtain ⟨cq206, kq206, q206a, q206b, q206c⟩ := isOf hZ rfl c207
        -- pc 328: ParticipantRows.rowsOf by rm5
        obtain ⟨_, _, ⟨T206, L206, k206, n206⟩, -, X206, ⟨Lc206, hQ206, l206, y206, z206'⟩, st206⟩ := X198.virtualBack hx (y := (⟨"com/example/vestwright/vestwright/ParticipantRows", "rowsOf", "(ILjava/util/function/IntFunction;)Ljava/util/List;"⟩ : MethodName)) (z := (⟨"com/example/vestwright/vestwright/ParticipantRows", "rowsOf", "(ILjava/util/function/IntFunction;)Ljava/util/List;"⟩ : MethodName)) hown (mvT hZ (hw _ (List.mem_of_getElem? (i := 37) rfl))) (mvT hZ (hw _ (List.mem_of_getElem? (i := 38) rfl))) (notFace_of_selects (args := #[]) (mvT hZ (hw _ (List.mem_of_getElem? (i := 40) rfl)))) (mvT hZ (hw _ (List.mem_of_getElem? (i := 40) rfl))) (mvT hZ (hw _ (List.mem_of_getElem? (i := 39) rfl))) (by decide) (backOf (W := 0) (rm5 l Z a0 hw [] b1 (1 : Int32) sa_184 ks_184 (own_l3 ((Int32.ofNat (own_zc (own_f ac0 ac1 ac2) 3)) + (0 : Int32)) ((Int32.ofNat (own_oc (own_f ac0 ac1 ac2) 3)) + ((Int32.ofNat (own_zc (own_f ac0 ac1 ac2) 3)) + (0 : Int32)))) ((Int32.ofNat (own_zc (own_f ac0 ac1 ac2) 3)) + (0 : Int32)) ((Int32.ofNat (own_oc (own_f ac0 ac1 ac2) 3)) + ((Int32.ofNat (own_zc (own_f ac0 ac1 ac2) 3)) + (0 : Int32))) T198.heap n0 z205 c200 c201 (by decide) (by decide) rfl rfl) hZ (hw _ (List.mem_of_getElem? (i := 41) rfl)) (hw _ (List.mem_of_getElem? (i := 2) rfl)) (by decide) (by decide)) q206a q206c (g := (mkF m 328 #[.val (.int p0), .val (.long q1), .second, .val (.long q2), .second, .val (.long q3), .second, .val (.int nn), .val (.int pp0), .val (.int pp1), .val (.int pp2), .val (.long vv0), .second, .val (.long vv1), .second, .val (.long vv2), .second, .val (.ref b1), .val (.int (1 : Int32)), .val (.int zer2), .val (.int one2)] [.null, (.int (1 : Int32)), (.ref b1)])) rfl (by rw [hml]; rfl) (Steps.refl _) (argsL := [(.int (1 : Int32)), .null]) (rest := []) (lenOf pd_6 rfl) rfl (by show 2 * 0 + _ ≤ _; exact Nat.le_of_eq rfl) (hb hby at_328) (fun _ _ => ⟨rfl, rfl, (by decide : 7 + 1 ≤ _), (by decide : 2066 + 5 ≤ _)⟩)
        dsimp only [Pt.U, Pt.locs, Pt.cells, Pt.slots] at X206 l206 y206 z206' st206 hQ206
        subst l206 y206 z206'
        obtain ⟨b_206, rfl, N206q, K206, r0_206, r1_206, r2_206, r3_206⟩ := hQ206
        have N206 := Fr.app N198 N206q
        have J206 : Keep h0 T206.heap [] := J198.trans K206 all0
        have g_b_206 : n0 ≤ b_206 := Nat.le_trans z205 r0_206
        have sz_b_206 : h0.size ≤ b_206 := Nat.le_trans J198.1 r0_206
        have ne208 : b1 ≠ b_206 := Nat.ne_of_lt (Nat.lt_of_lt_of_le c207.lt r0_206)
        have ne209 : pa_3 ≠ b_206 := Nat.ne_of_lt (Nat.lt_of_lt_of_le c203.lt r0_206)
        have ne210 : la_3 ≠ b_206 := Nat.ne_of_lt (Nat.lt_of_lt_of_le c204.lt r0_206)
        have ne211 : sa_184 ≠ b_206 := Nat.ne_of_lt (Nat.lt_of_lt_of_le c201.lt r0_206)
        have ne212 : b_191 ≠ b_206 := Nat.ne_of_lt (Nat.lt_of_lt_of_le c202.lt r0_206)
        have z213 : n0 ≤ T206.heap.size := (Nat.le_trans z205 K206.1)
        obtain ⟨cq214, kq214, q214a, q214b, q214c⟩ := isOf hZ rfl r1_206
        -- pc 331: List.size by rm193
        obtain ⟨_, _, ⟨T214, L214, k214, n214⟩, -, X214, ⟨Lc214, hQ214, l214, y214, z214'⟩, st214⟩ := X206.interfaceBack hx (xi := (⟨"java/util/List", "size", "()I"⟩ : MethodName)) (y := (⟨"com/example/vestwright/vestwright/ParticipantRows$Rows", "size", "()I"⟩ : MethodName)) hown (mvT hZ (hw _ (List.mem_of_getElem? (i := 70) rfl))) (mvT hZ (hw _ (List.mem_of_getElem? (i := 71) rfl))) (mvT hZ (hw _ (List.mem_of_getElem? (i := 72) rfl))) (mvT hZ (hw _ (List.mem_of_getElem? (i := 73) rfl))) (mvT hZ (hw _ (List.mem_of_getElem? (i := 74) rfl))) (mvT hZ (hw _ (List.mem_of_getElem? (i := 75) rfl))) (mvT hZ (hw _ (List.mem_of_getElem? (i := 76) rfl))) (mvT hZ (hw _ (List.mem_of_getElem? (i := 77) rfl))) (by decide) (backOf (W := 0) (rm193 l Z a0 hw [] b_206 ((Int32.ofNat (own_zc (own_f ac0 ac1 ac2) 3)) + (0 : Int32)) ((Int32.ofNat (own_oc (own_f ac0 ac1 ac2) 3)) + ((Int32.ofNat (own_zc (own_f ac0 ac1 ac2) 3)) + (0 : Int32))) T206.heap n0 z213 r2_206 r3_206) hZ (hw _ (List.mem_of_getElem? (i := 78) rfl)) (hw _ (List.mem_of_getElem? (i := 44) rfl)) (by decide) (by decide)) q214a q214b q214c (g := (mkF m 331 #[.val (.int p0), .val (.long q1), .second, .val (.long q2), .second, .val (.long q3), .second, .val (.int nn), .val (.int pp0), .val (.int pp1), .val (.int pp2), .val (.long vv0), .second, .val (.long vv1), .second, .val (.long vv2), .second, .val (.ref b1), .val (.int (1 : Int32)), .val (.int zer2), .val (.int one2)] [(.ref b_206)])) rfl (by rw [hml]; rfl) (Steps.refl _) (argsL := []) (rest := []) (lenOf pd_7 rfl) rfl (by show 2 * 0 + _ ≤ _; exact Nat.le_of_eq rfl) (hb hby at_331) (fun _ _ => ⟨rfl, rfl, (by decide : 8 + 0 ≤ _), (by decide : 2071 + 0 ≤ _)⟩)
        dsimp only [Pt.U, Pt.locs, Pt.cells, Pt.slots] at X214 l214 y214 z214' st214 hQ214
        subst l214 y214 z214'
        obtain ⟨rfl, N214q, K214⟩ := hQ214
        have N214 := Fr.app N206 N214q
        have J214 : Keep h0 T214.heap [] := J206.trans K214 all0
        have hc338_215 : (((Int32.ofNat (own_oc (own_f ac0 ac1 ac2) 3)) + ((Int32.ofNat (own_zc (own_f ac0 ac1 ac2) 3)) + (0 : Int32))) - ((Int32.ofNat (own_zc (own_f ac0 ac1 ac2) 3)) + (0 : Int32))) = one2 := own_oo3 hac0 hac1 hac2 hpp0 e_zer0 e_one0 hpp1 e_zer1 e_one1 hpp2 e_zer2 e_one2
        obtain ⟨fs, hr, hrun, hended, hW, hsame⟩ := X214.leave (v := some (.int (1 : Int32))) (fun h => by rw [Bd.returns] at h; cases h)
        refine ⟨_, _, pre159 _ ?_, hrun, hended, _, _, rfl, ?_, ⟨_, rfl⟩, hW, hsame.mono (by decide) (by decide)⟩
        · show Steps p.tables e below (T156.setTop (mkF m 194 #[.val (.int p0), .val (.long q1), .second, .val (.long q2), .second, .val (.long q3), .second, .val (.int nn), .val (.int pp0), .val (.int pp1), .val (.int pp2), .val (.long vv0), .second, .val (.long vv1), .second, .val (.long vv2), .second, .val (.ref b1), .val (.int (1 : Int32)), .val (.int zer2), .val (.int one2)] [])) _
          refine XS.iload X156.here hx rfl (hb hby at_194) rfl ?_
          show Steps p.tables e below (T156.setTop (mkF m 196 #[.val (.int p0), .val (.long q1), .second, .val (.long q2), .second, .val (.long q3), .second, .val (.int nn), .val (.int pp0), .val (.int pp1), .val (.int pp2), .val (.long vv0), .second, .val (.long vv1), .second, .val (.long vv2), .second, .val (.ref b1), .val (.int (1 : Int32)), .val (.int zer2), .val (.int one2)] [(.int nn)])) _
          refine XS.iconst X156.here hx rfl (hb hby at_196) ?_
          show Steps p.tables e below (T156.setTop (mkF m 197 #[.val (.int p0), .val (.long q1), .second, .val (.long q2), .second, .val (.long q3), .second, .val (.int nn), .val (.int pp0), .val (.int pp1), .val (.int pp2), .val (.long vv0), .second, .val (.long vv1), .second, .val (.long vv2), .second, .val (.ref b1), .val (.int (1 : Int32)), .val (.int zer2), .val (.int one2)] [(.int (1 : Int32)), (.int nn)])) _
          refine XS.icmpNo X156.here hx rfl (hb hby at_197) rfl (flt hc63_7).1 ?_
          show Steps p.tables e below (T156.setTop (mkF m 200 #[.val (.int p0), .val (.long q1), .second, .val (.long q2), .second, .val (.long q3), .second, .val (.int nn), .val (.int pp0), .val (.int pp1), .val (.int pp2), .val (.long vv0), .second, .val (.long vv1), .second, .val (.long vv2), .second, .val (.ref b1), .val (.int (1 : Int32)), .val (.int zer2), .val (.int one2)] [])) _
          refine XS.iload X156.here hx rfl (hb hby at_200) rfl ?_
          show Steps p.tables e below (T156.setTop (mkF m 202 #[.val (.int p0), .val (.long q1), .second, .val (.long q2), .second, .val (.long q3), .second, .val (.int nn), .val (.int pp0), .val (.int pp1), .val (.int pp2), .val (.long vv0), .second, .val (.long vv1), .second, .val (.long vv2), .second, .val (.ref b1), .val (.int (1 : Int32)), .val (.int zer2), .val (.int one2)] [(.int (1 : Int32))])) _
          refine XS.ifNo X156.here hx rfl (hb hby at_202) rfl ((if0 _ _).trans (feq (by decide)).1) ?_
          show Steps p.tables e below (T156.setTop (mkF m 205 #[.val (.int p0), .val (.long q1), .second, .val (.long q2), .second, .val (.long q3), .second, .val (.int nn), .val (.int pp0), .val (.int pp1), .val (.int pp2), .val (.long vv0), .second, .val (.long vv1), .second, .val (.long vv2), .second, .val (.ref b1), .val (.int (1 : Int32)), .val (.int zer2), .val (.int one2)] [])) _
          refine XS.aload X156.here hx rfl (hb hby at_205) rfl rfl ?_
          show Steps p.tables e below (T156.setTop (mkF m 207 #[.val (.int p0), .val (.long q1), .second, .val (.long q2), .second, .val (.long q3), .second, .val (.int nn), .val (.int pp0), .val (.int pp1), .val (.int pp2), .val (.long vv0), .second, .val (.long vv1), .second, .val (.long vv2), .second, .val (.ref b1), .val (.int (1 : Int32)), .val (.int zer2), .val (.int one2)] [(.ref b1)])) _
          refine XS.iconst X156.here hx rfl (hb hby at_207) ?_
          show Steps p.tables e below (T156.setTop (mkF m 208 #[.val (.int p0), .val (.long q1), .second, .val (.long q2), .second, .val (.long q3), .second, .val (.int nn), .val (.int pp0), .val (.int pp1), .val (.int pp2), .val (.long vv0), .second, .val (.long vv1), .second, .val (.long vv2), .second, .val (.ref b1), .val (.int (1 : Int32)), .val (.int zer2), .val (.int one2)] [(.int (0 : Int32)), (.ref b1)])) _
          refine st161.trans ?_
          show Steps p.tables e below (T161.setTop (mkF m 211 #[.val (.int p0), .val (.long q1), .second, .val (.long q2), .second, .val (.long q3), .second, .val (.int nn), .val (.int pp0), .val (.int pp1), .val (.int pp2), .val (.long vv0), .second, .val (.long vv1), .second, .val (.long vv2), .second, .val (.ref b1), .val (.int (1 : Int32)), .val (.int zer2), .val (.int one2)] [(.long ((vv0.toInt32).toInt64))])) _
          refine XS.lload X161.here hx rfl (hb hby at_211) rfl ?_
          show Steps p.tables e below (T161.setTop (mkF m 213 #[.val (.int p0), .val (.long q1), .second, .val (.long q2), .second, .val (.long q3), .second, .val (.int nn), .val (.int pp0), .val (.int pp1), .val (.int pp2), .val (.long vv0), .second, .val (.long vv1), .second, .val (.long vv2), .second, .val (.ref b1), .val (.int (1 : Int32)), .val (.int zer2), .val (.int one2)] [(.long vv0), (.long ((vv0.toInt32).toInt64))])) _
          refine XS.lcmp X161.here hx rfl (hb hby at_213) rfl ?_
          show Steps p.tables e below (T161.setTop (mkF m 214 #[.val (.int p0), .val (.long q1), .second, .val (.long q2), .second, .val (.long q3), .second, .val (.int nn), .val (.int pp0), .val (.int pp1), .val (.int pp2), .val (.long vv0), .second, .val (.long vv1), .second, .val (.long vv2), .second, .val (.ref b1), .val (.int (1 : Int32)), .val (.int zer2), .val (.int one2)] [(.int (lcmpW ((vv0.toInt32).toInt64) vv0))])) _
          refine XS.ifNo X161.here hx rfl (hb hby at_214) rfl ((if0 _ _).trans (teq ((lw_eq _ _).mpr hc214_163)).2) ?_
          show Steps p.tables e below (T161.setTop (mkF m 217 #[.val (.int p0), .val (.long q1), .second, .val (.long q2), .second, .val (.long q3), .second, .val (.int nn), .val (.int pp0), .val (.int pp1), .val (.int pp2), .val (.long vv0), .second, .val (.long vv1), .second, .val (.long vv2), .second, .val (.ref b1), .val (.int (1 : Int32)), .val (.int zer2), .val (.int one2)] [])) _
          refine XS.iconst X161.here hx rfl (hb hby at_217) ?_
          show Steps p.tables e below (T161.setTop (mkF m 218 #[.val (.int p0), .val (.long q1), .second, .val (.long q2), .second, .val (.long q3), .second, .val (.int nn), .val (.int pp0), .val (.int pp1), .val (.int pp2), .val (.long vv0), .second, .val (.long vv1), .second, .val (.long vv2), .second, .val (.ref b1), .val (.int (1 : Int32)), .val (.int zer2), .val (.int one2)] [(.int (1 : Int32))])) _
          refine XS.goto X161.here hx rfl (pc0 := 218) (pc' := 222) rfl (hb hby at_218) (by decide) (by decide) ?_
          show Steps p.tables e below (T161.setTop (mkF m 222 #[.val (.int p0), .val (.long q1), .second, .val (.long q2), .second, .val (.long q3), .second, .val (.int nn), .val (.int pp0), .val (.int pp1), .val (.int pp2), .val (.long vv0), .second, .val (.long vv1), .second, .val (.long vv2), .second, .val (.ref b1), .val (.int (1 : Int32)), .val (.int zer2), .val (.int one2)] [(.int (1 : Int32))])) _
          refine XS.istore X161.here hx rfl (hb hby at_222) rfl (l' := #[.val (.int p0), .val (.long q1), .second, .val (.long q2), .second, .val (.long q3), .second, .val (.int nn), .val (.int pp0), .val (.int pp1), .val (.int pp2), .val (.long vv0), .second, .val (.long vv1), .second, .val (.long vv2), .second, .val (.ref b1), .val (.int (1 : Int32)), .val (.int zer2), .val (.int one2)]) rfl ?_
          show Steps p.tables e below (T161.setTop (mkF m 224 #[.val (.int p0), .val (.long q1), .second, .val (.long q2), .second, .val (.long q3), .second, .val (.int nn), .val (.int pp0), .val (.int pp1), .val (.int pp2), .val (.long vv0), .second, .val (.long vv1), .second, .val (.long vv2), .second, .val (.ref b1), .val (.int (1 : Int32)), .val (.int zer2), .val (.int one2)] [])) _
          refine XS.iload X161.here hx rfl (hb hby at_224) rfl ?_
          show Steps p.tables e below (T161.setTop (mkF m 226 #[.val (.int p0), .val (.long q1), .second, .val (.long q2), .second, .val (.long q3), .second, .val (.int nn), .val (.int pp0), .val (.int pp1), .val (.int pp2), .val (.long vv0), .second, .val (.long vv1), .second, .val (.long vv2), .second, .val (.ref b1), .val (.int (1 : Int32)), .val (.int zer2), .val (.int one2)] [(.int nn)])) _
          refine XS.iconst X161.here hx rfl (hb hby at_226) ?_
          show Steps p.tables e below (T161.setTop (mkF m 227 #[.val (.int p0), .val (.long q1), .second, .val (.long q2), .second, .val (.long q3), .second, .val (.int nn), .val (.int pp0), .val (.int pp1), .val (.int pp2), .val (.long vv0), .second, .val (.long vv1), .second, .val (.long vv2), .second, .val (.ref b1), .val (.int (1 : Int32)), .val (.int zer2), .val (.int one2)] [(.int (2 : Int32)), (.int nn)])) _
          refine XS.icmpNo X161.here hx rfl (hb hby at_227) rfl (flt hc107_50).1 ?_
          show Steps p.tables e below (T161.setTop (mkF m 230 #[.val (.int p0), .val (.long q1), .second, .val (.long q2), .second, .val (.long q3), .second, .val (.int nn), .val (.int pp0), .val (.int pp1), .val (.int pp2), .val (.long vv0), .second, .val (.long vv1), .second, .val (.long vv2), .second, .val (.ref b1), .val (.int (1 : Int32)), .val (.int zer2), .val (.int one2)] [])) _
          refine XS.iload X161.here hx rfl (hb hby at_230) rfl ?_
          show Steps p.tables e below (T161.setTop (mkF m 232 #[.val (.int p0), .val (.long q1), .second, .val (.long q2), .second, .val (.long q3), .second, .val (.int nn), .val (.int pp0), .val (.int pp1), .val (.int pp2), .val (.long vv0), .second, .val (.long vv1), .second, .val (.long vv2), .second, .val (.ref b1), .val (.int (1 : Int32)), .val (.int zer2), .val (.int one2)] [(.int (1 : Int32))])) _
          refine XS.ifNo X161.here hx rfl (hb hby at_232) rfl ((if0 _ _).trans (feq (by decide)).1) ?_
          show Steps p.tables e below (T161.setTop (mkF m 235 #[.val (.int p0), .val (.long q1), .second, .val (.long q2), .second, .val (.long q3), .second, .val (.int nn), .val (.int pp0), .val (.int pp1), .val (.int pp2), .val (.long vv0), .second, .val (.long vv1), .second, .val (.long vv2), .second, .val (.ref b1), .val (.int (1 : Int32)), .val (.int zer2), .val (.int one2)] [])) _
          refine XS.aload X161.here hx rfl (hb hby at_235) rfl rfl ?_
          show Steps p.tables e below (T161.setTop (mkF m 237 #[.val (.int p0), .val (.long q1), .second, .val (.long q2), .second, .val (.long q3), .second, .val (.int nn), .val (.int pp0), .val (.int pp1), .val (.int pp2), .val (.long vv0), .second, .val (.long vv1), .second, .val (.long vv2), .second, .val (.ref b1), .val (.int (1 : Int32)), .val (.int zer2), .val (.int one2)] [(.ref b1)])) _
          refine XS.iconst X161.here hx rfl (hb hby at_237) ?_
          show Steps p.tables e below (T161.setTop (mkF m 238 #[.val (.int p0), .val (.long q1), .second, .val (.long q2), .second, .val (.long q3), .second, .val (.int nn), .val (.int pp0), .val (.int pp1), .val (.int pp2), .val (.long vv0), .second, .val (.long vv1), .second, .val (.long vv2), .second, .val (.ref b1), .val (.int (1 : Int32)), .val (.int zer2), .val (.int one2)] [(.int (1 : Int32)), (.ref b1)])) _
          refine st167.trans ?_
          show Steps p.tables e below (T167.setTop (mkF m 241 #[.val (.int p0), .val (.long q1), .second, .val (.long q2), .second, .val (.long q3), .second, .val (.int nn), .val (.int pp0), .val (.int pp1), .val (.int pp2), .val (.long vv0), .second, .val (.long vv1), .second, .val (.long vv2), .second, .val (.ref b1), .val (.int (1 : Int32)), .val (.int zer2), .val (.int one2)] [(.long ((vv1.toInt32).toInt64))])) _
          refine XS.lload X167.here hx rfl (hb hby at_241) rfl ?_
          show Steps p.tables e below (T167.setTop (mkF m 243 #[.val (.int p0), .val (.long q1), .second, .val (.long q2), .second, .val (.long q3), .second, .val (.int nn), .val (.int pp0), .val (.int pp1), .val (.int pp2), .val (.long vv0), .second, .val (.long vv1), .second, .val (.long vv2), .second, .val (.ref b1), .val (.int (1 : Int32)), .val (.int zer2), .val (.int one2)] [(.long vv1), (.long ((vv1.toInt32).toInt64))])) _
          refine XS.lcmp X167.here hx rfl (hb hby at_243) rfl ?_
          show Steps p.tables e below (T167.setTop (mkF m 244 #[.val (.int p0), .val (.long q1), .second, .val (.long q2), .second, .val (.long q3), .second, .val (.int nn), .val (.int pp0), .val (.int pp1), .val (.int pp2), .val (.long vv0), .second, .val (.long vv1), .second, .val (.long vv2), .second, .val (.ref b1), .val (.int (1 : Int32)), .val (.int zer2), .val (.int one2)] [(.int (lcmpW ((vv1.toInt32).toInt64) vv1))])) _
          refine XS.ifNo X167.here hx rfl (hb hby at_244) rfl ((if0 _ _).trans (teq ((lw_eq _ _).mpr hc244_169)).2) ?_
          show Steps p.tables e below (T167.setTop (mkF m 247 #[.val (.int p0), .val (.long q1), .second, .val (.long q2), .second, .val (.long q3), .second, .val (.int nn), .val (.int pp0), .val (.int pp1), .val (.int pp2), .val (.long vv0), .second, .val (.long vv1), .second, .val (.long vv2), .second, .val (.ref b1), .val (.int (1 : Int32)), .val (.int zer2), .val (.int one2)] [])) _
          refine XS.iconst X167.here hx rfl (hb hby at_247) ?_
          show Steps p.tables e below (T167.setTop (mkF m 248 #[.val (.int p0), .val (.long q1), .second, .val (.long q2), .second, .val (.long q3), .second, .val (.int nn), .val (.int pp0), .val (.int pp1), .val (.int pp2), .val (.long vv0), .second, .val (.long vv1), .second, .val (.long vv2), .second, .val (.ref b1), .val (.int (1 : Int32)), .val (.int zer2), .val (.int one2)] [(.int (1 : Int32))])) _
          refine XS.goto X167.here hx rfl (pc0 := 248) (pc' := 252) rfl (hb hby at_248) (by decide) (by decide) ?_
          show Steps p.tables e below (T167.setTop (mkF m 252 #[.val (.int p0), .val (.long q1), .second, .val (.long q2), .second, .val (.long q3), .second, .val (.int nn), .val (.int pp0), .val (.int pp1), .val (.int pp2), .val (.long vv0), .second, .val (.long vv1), .second, .val (.long vv2), .second, .val (.ref b1), .val (.int (1 : Int32)), .val (.int zer2), .val (.int one2)] [(.int (1 : Int32))])) _
          refine XS.istore X167.here hx rfl (hb hby at_252) rfl (l' := #[.val (.int p0), .val (.long q1), .second, .val (.long q2), .second, .val (.long q3), .second, .val (.int nn), .val (.int pp0), .val (.int pp1), .val (.int pp2), .val (.long vv0), .second, .val (.long vv1), .second, .val (.long vv2), .second, .val (.ref b1), .val (.int (1 : Int32)), .val (.int zer2), .val (.int one2)]) rfl ?_
          show Steps p.tables e below (T167.setTop (mkF m 254 #[.val (.int p0), .val (.long q1), .second, .val (.long q2), .second, .val (.long q3), .second, .val (.int nn), .val (.int pp0), .val (.int pp1), .val (.int pp2), .val (.long vv0), .second, .val (.long vv1), .second, .val (.long vv2), .second, .val (.ref b1), .val (.int (1 : Int32)), .val (.int zer2), .val (.int one2)] [])) _
          refine XS.iload X167.here hx rfl (hb hby at_254) rfl ?_
          show Steps p.tables e below (T167.setTop (mkF m 256 #[.val (.int p0), .val (.long q1), .second, .val (.long q2), .second, .val (.long q3), .second, .val (.int nn), .val (.int pp0), .val (.int pp1), .val (.int pp2), .val (.long vv0), .second, .val (.long vv1), .second, .val (.long vv2), .second, .val (.ref b1), .val (.int (1 : Int32)), .val (.int zer2), .val (.int one2)] [(.int nn)])) _
          refine XS.iconst X167.here hx rfl (hb hby at_256) ?_
          show Steps p.tables e below (T167.setTop (mkF m 257 #[.val (.int p0), .val (.long q1), .second, .val (.long q2), .second, .val (.long q3), .second, .val (.int nn), .val (.int pp0), .val (.int pp1), .val (.int pp2), .val (.long vv0), .second, .val (.long vv1), .second, .val (.long vv2), .second, .val (.ref b1), .val (.int (1 : Int32)), .val (.int zer2), .val (.int one2)] [(.int (3 : Int32)), (.int nn)])) _
          refine XS.icmpNo X167.here hx rfl (hb hby at_257) rfl (flt hc152_103).1 ?_
          show Steps p.tables e below (T167.setTop (mkF m 260 #[.val (.int p0), .val (.long q1), .second, .val (.long q2), .second, .val (.long q3), .second, .val (.int nn), .val (.int pp0), .val (.int pp1), .val (.int pp2), .val (.long vv0), .second, .val (.long vv1), .second, .val (.long vv2), .second, .val (.ref b1), .val (.int (1 : Int32)), .val (.int zer2), .val (.int one2)] [])) _
          refine XS.iload X167.here hx rfl (hb hby at_260) rfl ?_
          show Steps p.tables e below (T167.setTop (mkF m 262 #[.val (.int p0), .val (.long q1), .second, .val (.long q2), .second, .val (.long q3), .second, .val (.int nn), .val (.int pp0), .val (.int pp1), .val (.int pp2), .val (.long vv0), .second, .val (.long vv1), .second, .val (.long vv2), .second, .val (.ref b1), .val (.int (1 : Int32)), .val (.int zer2), .val (.int one2)] [(.int (1 : Int32))])) _
          refine XS.ifNo X167.here hx rfl (hb hby at_262) rfl ((if0 _ _).trans (feq (by decide)).1) ?_
          show Steps p.tables e below (T167.setTop (mkF m 265 #[.val (.int p0), .val (.long q1), .second, .val (.long q2), .second, .val (.long q3), .second, .val (.int nn), .val (.int pp0), .val (.int pp1), .val (.int pp2), .val (.long vv0), .second, .val (.long vv1), .second, .val (.long vv2), .second, .val (.ref b1), .val (.int (1 : Int32)), .val (.int zer2), .val (.int one2)] [])) _
          refine XS.aload X167.here hx rfl (hb hby at_265) rfl rfl ?_
          show Steps p.tables e below (T167.setTop (mkF m 267 #[.val (.int p0), .val (.long q1), .second, .val (.long q2), .second, .val (.long q3), .second, .val (.int nn), .val (.int pp0), .val (.int pp1), .val (.int pp2), .val (.long vv0), .second, .val (.long vv1), .second, .val (.long vv2), .second, .val (.ref b1), .val (.int (1 : Int32)), .val (.int zer2), .val (.int one2)] [(.ref b1)])) _
          refine XS.iconst X167.here hx rfl (hb hby at_267) ?_
          show Steps p.tables e below (T167.setTop (mkF m 268 #[.val (.int p0), .val (.long q1), .second, .val (.long q2), .second, .val (.long q3), .second, .val (.int nn), .val (.int pp0), .val (.int pp1), .val (.int pp2), .val (.long vv0), .second, .val (.long vv1), .second, .val (.long vv2), .second, .val (.ref b1), .val (.int (1 : Int32)), .val (.int zer2), .val (.int one2)] [(.int (2 : Int32)), (.ref b1)])) _
          refine st173.trans ?_
          show Steps p.tables e below (T173.setTop (mkF m 271 #[.val (.int p0), .val (.long q1), .second, .val (.long q2), .second, .val (.long q3), .second, .val (.int nn), .val (.int pp0), .val (.int pp1), .val (.int pp2), .val (.long vv0), .second, .val (.long vv1), .second, .val (.long vv2), .second, .val (.ref b1), .val (.int (1 : Int32)), .val (.int zer2), .val (.int one2)] [(.long ((vv2.toInt32).toInt64))])) _
          refine XS.lload X173.here hx rfl (hb hby at_271) rfl ?_
          show Steps p.tables e below (T173.setTop (mkF m 273 #[.val (.int p0), .val (.long q1), .second, .val (.long q2), .second, .val (.long q3), .second, .val (.int nn), .val (.int pp0), .val (.int pp1), .val (.int pp2), .val (.long vv0), .second, .val (.long vv1), .second, .val (.long vv2), .second, .val (.ref b1), .val (.int (1 : Int32)), .val (.int zer2), .val (.int one2)] [(.long vv2), (.long ((vv2.toInt32).toInt64))])) _
          refine XS.lcmp X173.here hx rfl (hb hby at_273) rfl ?_
          show Steps p.tables e below (T173.setTop (mkF m 274 #[.val (.int p0), .val (.long q1), .second, .val (.long q2), .second, .val (.long q3), .second, .val (.int nn), .val (.int pp0), .val (.int pp1), .val (.int pp2), .val (.long vv0), .second, .val (.long vv1), .second, .val (.long vv2), .second, .val (.ref b1), .val (.int (1 : Int32)), .val (.int zer2), .val (.int one2)] [(.int (lcmpW ((vv2.toInt32).toInt64) vv2))])) _
          refine XS.ifNo X173.here hx rfl (hb hby at_274) rfl ((if0 _ _).trans (teq ((lw_eq _ _).mpr hc274_175)).2) ?_
          show Steps p.tables e below (T173.setTop (mkF m 277 #[.val (.int p0), .val (.long q1), .second, .val (.long q2), .second, .val (.long q3), .second, .val (.int nn), .val (.int pp0), .val (.int pp1), .val (.int pp2), .val (.long vv0), .second, .val (.long vv1), .second, .val (.long vv2), .second, .val (.ref b1), .val (.int (1 : Int32)), .val (.int zer2), .val (.int one2)] [])) _
          refine XS.iconst X173.here hx rfl (hb hby at_277) ?_
          show Steps p.tables e below (T173.setTop (mkF m 278 #[.val (.int p0), .val (.long q1), .second, .val (.long q2), .second, .val (.long q3), .second, .val (.int nn), .val (.int pp0), .val (.int pp1), .val (.int pp2), .val (.long vv0), .second, .val (.long vv1), .second, .val (.long vv2), .second, .val (.ref b1), .val (.int (1 : Int32)), .val (.int zer2), .val (.int one2)] [(.int (1 : Int32))])) _
          refine XS.goto X173.here hx rfl (pc0 := 278) (pc' := 282) rfl (hb hby at_278) (by decide) (by decide) ?_
          show Steps p.tables e below (T173.setTop (mkF m 282 #[.val (.int p0), .val (.long q1), .second, .val (.long q2), .second, .val (.long q3), .second, .val (.int nn), .val (.int pp0), .val (.int pp1), .val (.int pp2), .val (.long vv0), .second, .val (.long vv1), .second, .val (.long vv2), .second, .val (.ref b1), .val (.int (1 : Int32)), .val (.int zer2), .val (.int one2)] [(.int (1 : Int32))])) _
          refine XS.istore X173.here hx rfl (hb hby at_282) rfl (l' := #[.val (.int p0), .val (.long q1), .second, .val (.long q2), .second, .val (.long q3), .second, .val (.int nn), .val (.int pp0), .val (.int pp1), .val (.int pp2), .val (.long vv0), .second, .val (.long vv1), .second, .val (.long vv2), .second, .val (.ref b1), .val (.int (1 : Int32)), .val (.int zer2), .val (.int one2)]) rfl ?_
          show Steps p.tables e below (T173.setTop (mkF m 284 #[.val (.int p0), .val (.long q1), .second, .val (.long q2), .second, .val (.long q3), .second, .val (.int nn), .val (.int pp0), .val (.int pp1), .val (.int pp2), .val (.long vv0), .second, .val (.long vv1), .second, .val (.long vv2), .second, .val (.ref b1), .val (.int (1 : Int32)), .val (.int zer2), .val (.int one2)] [])) _
          refine XS.aload X173.here hx rfl (hb hby at_284) rfl rfl ?_
          show Steps p.tables e below (T173.setTop (mkF m 286 #[.val (.int p0), .val (.long q1), .second, .val (.long q2), .second, .val (.long q3), .second, .val (.int nn), .val (.int pp0), .val (.int pp1), .val (.int pp2), .val (.long vv0), .second, .val (.long vv1), .second, .val (.long vv2), .second, .val (.ref b1), .val (.int (1 : Int32)), .val (.int zer2), .val (.int one2)] [(.ref b1)])) _
          refine XS.iconst X173.here hx rfl (hb hby at_286) ?_
          show Steps p.tables e below (T173.setTop (mkF m 287 #[.val (.int p0), .val (.long q1), .second, .val (.long q2), .second, .val (.long q3), .second, .val (.int nn), .val (.int pp0), .val (.int pp1), .val (.int pp2), .val (.long vv0), .second, .val (.long vv1), .second, .val (.long vv2), .second, .val (.ref b1), .val (.int (1 : Int32)), .val (.int zer2), .val (.int one2)] [(.int (2 : Int32)), (.ref b1)])) _
          refine st184.trans ?_
          show Steps p.tables e below (T184.setTop (mkF m 290 #[.val (.int p0), .val (.long q1), .second, .val (.long q2), .second, .val (.long q3), .second, .val (.int nn), .val (.int pp0), .val (.int pp1), .val (.int pp2), .val (.long vv0), .second, .val (.long vv1), .second, .val (.long vv2), .second, .val (.ref b1), .val (.int (1 : Int32)), .val (.int zer2), .val (.int one2)] [])) _
          refine XS.iload X184.here hx rfl (hb hby at_290) rfl ?_
          show Steps p.tables e below (T184.setTop (mkF m 292 #[.val (.int p0), .val (.long q1), .second, .val (.long q2), .second, .val (.long q3), .second, .val (.int nn), .val (.int pp0), .val (.int pp1), .val (.int pp2), .val (.long vv0), .second, .val (.long vv1), .second, .val (.long vv2), .second, .val (.ref b1), .val (.int (1 : Int32)), .val (.int zer2), .val (.int one2)] [(.int (1 : Int32))])) _
          refine XS.ifNo X184.here hx rfl (hb hby at_292) rfl ((if0 _ _).trans (feq (by decide)).1) ?_
          show Steps p.tables e below (T184.setTop (mkF m 295 #[.val (.int p0), .val (.long q1), .second, .val (.long q2), .second, .val (.long q3), .second, .val (.int nn), .val (.int pp0), .val (.int pp1), .val (.int pp2), .val (.long vv0), .second, .val (.long vv1), .second, .val (.long vv2), .second, .val (.ref b1), .val (.int (1 : Int32)), .val (.int zer2), .val (.int one2)] [])) _
          refine XS.aload X184.here hx rfl (hb hby at_295) rfl rfl ?_
          show Steps p.tables e below (T184.setTop (mkF m 297 #[.val (.int p0), .val (.long q1), .second, .val (.long q2), .second, .val (.long q3), .second, .val (.int nn), .val (.int pp0), .val (.int pp1), .val (.int pp2), .val (.long vv0), .second, .val (.long vv1), .second, .val (.long vv2), .second, .val (.ref b1), .val (.int (1 : Int32)), .val (.int zer2), .val (.int one2)] [(.ref b1)])) _
          refine XS.iconst X184.here hx rfl (hb hby at_297) ?_
          show Steps p.tables e below (T184.setTop (mkF m 298 #[.val (.int p0), .val (.long q1), .second, .val (.long q2), .second, .val (.long q3), .second, .val (.int nn), .val (.int pp0), .val (.int pp1), .val (.int pp2), .val (.long vv0), .second, .val (.long vv1), .second, .val (.long vv2), .second, .val (.ref b1), .val (.int (1 : Int32)), .val (.int zer2), .val (.int one2)] [(.int (0 : Int32)), (.ref b1)])) _
          refine XS.aconstNull X184.here hx rfl (hb hby at_298) ?_
          show Steps p.tables e below (T184.setTop (mkF m 299 #[.val (.int p0), .val (.long q1), .second, .val (.long q2), .second, .val (.long q3), .second, .val (.int nn), .val (.int pp0), .val (.int pp1), .val (.int pp2), .val (.long vv0), .second, .val (.long vv1), .second, .val (.long vv2), .second, .val (.ref b1), .val (.int (1 : Int32)), .val (.int zer2), .val (.int one2)] [.null, (.int (0 : Int32)), (.ref b1)])) _
          refine st191.trans ?_
          show Steps p.tables e below (T191.setTop (mkF m 302 #[.val (.int p0), .val (.long q1), .second, .val (.long q2), .second, .val (.long q3), .second, .val (.int nn), .val (.int pp0), .val (.int pp1), .val (.int pp2), .val (.long vv0), .second, .val (.long vv1), .second, .val (.long vv2), .second, .val (.ref b1), .val (.int (1 : Int32)), .val (.int zer2), .val (.int one2)] [(.ref b_191)])) _
          refine st198.trans ?_
          show Steps p.tables e below (T198.setTop (mkF m 307 #[.val (.int p0), .val (.long q1), .second, .val (.long q2), .second, .val (.long q3), .second, .val (.int nn), .val (.int pp0), .val (.int pp1), .val (.int pp2), .val (.long vv0), .second, .val (.long vv1), .second, .val (.long vv2), .second, .val (.ref b1), .val (.int (1 : Int32)), .val (.int zer2), .val (.int one2)] [(.int (((Int32.ofNat (own_zc (own_f ac0 ac1 ac2) 3)) + (0 : Int32)) - (0 : Int32)))])) _
          refine XS.iload X198.here hx rfl (hb hby at_307) rfl ?_
          show Steps p.tables e below (T198.setTop (mkF m 309 #[.val (.int p0), .val (.long q1), .second, .val (.long q2), .second, .val (.long q3), .second, .val (.int nn), .val (.int pp0), .val (.int pp1), .val (.int pp2), .val (.long vv0), .second, .val (.long vv1), .second, .val (.long vv2), .second, .val (.ref b1), .val (.int (1 : Int32)), .val (.int zer2), .val (.int one2)] [(.int zer2), (.int (((Int32.ofNat (own_zc (own_f ac0 ac1 ac2) 3)) + (0 : Int32)) - (0 : Int32)))])) _
          refine XS.icmpNo X198.here hx rfl (hb hby at_309) rfl (teq hc309_199).2 ?_
          show Steps p.tables e below (T198.setTop (mkF m 312 #[.val (.int p0), .val (.long q1), .second, .val (.long q2), .second, .val (.long q3), .second, .val (.int nn), .val (.int pp0), .val (.int pp1), .val (.int pp2), .val (.long vv0), .second, .val (.long vv1), .second, .val (.long vv2), .second, .val (.ref b1), .val (.int (1 : Int32)), .val (.int zer2), .val (.int one2)] [])) _
          refine XS.iconst X198.here hx rfl (hb hby at_312) ?_
          show Steps p.tables e below (T198.setTop (mkF m 313 #[.val (.int p0), .val (.long q1), .second, .val (.long q2), .second, .val (.long q3), .second, .val (.int nn), .val (.int pp0), .val (.int pp1), .val (.int pp2), .val (.long vv0), .second, .val (.long vv1), .second, .val (.long vv2), .second, .val (.ref b1), .val (.int (1 : Int32)), .val (.int zer2), .val (.int one2)] [(.int (1 : Int32))])) _
          refine XS.goto X198.here hx rfl (pc0 := 313) (pc' := 317) rfl (hb hby at_313) (by decide) (by decide) ?_
          show Steps p.tables e below (T198.setTop (mkF m 317 #[.val (.int p0), .val (.long q1), .second, .val (.long q2), .second, .val (.long q3), .second, .val (.int nn), .val (.int pp0), .val (.int pp1), .val (.int pp2), .val (.long vv0), .second, .val (.long vv1), .second, .val (.long vv2), .second, .val (.ref b1), .val (.int (1 : Int32)), .val (.int zer2), .val (.int one2)] [(.int (1 : Int32))])) _
          refine XS.istore X198.here hx rfl (hb hby at_317) rfl (l' := #[.val (.int p0), .val (.long q1), .second, .val (.long q2), .second, .val (.long q3), .second, .val (.int nn), .val (.int pp0), .val (.int pp1), .val (.int pp2), .val (.long vv0), .second, .val (.long vv1), .second, .val (.long vv2), .second, .val (.ref b1), .val (.int (1 : Int32)), .val (.int zer2), .val (.int one2)]) rfl ?_
          show Steps p.tables e below (T198.setTop (mkF m 319 #[.val (.int p0), .val (.long q1), .second, .val (.long q2), .second, .val (.long q3), .second, .val (.int nn), .val (.int pp0), .val (.int pp1), .val (.int pp2), .val (.long vv0), .second, .val (.long vv1), .second, .val (.long vv2), .second, .val (.ref b1), .val (.int (1 : Int32)), .val (.int zer2), .val (.int one2)] [])) _
          refine XS.iload X198.here hx rfl (hb hby at_319) rfl ?_
          show Steps p.tables e below (T198.setTop (mkF m 321 #[.val (.int p0), .val (.long q1), .second, .val (.long q2), .second, .val (.long q3), .second, .val (.int nn), .val (.int pp0), .val (.int pp1), .val (.int pp2), .val (.long vv0), .second, .val (.long vv1), .second, .val (.long vv2), .second, .val (.ref b1), .val (.int (1 : Int32)), .val (.int zer2), .val (.int one2)] [(.int (1 : Int32))])) _
          refine XS.ifNo X198.here hx rfl (hb hby at_321) rfl ((if0 _ _).trans (feq (by decide)).1) ?_
          show Steps p.tables e below (T198.setTop (mkF m 324 #[.val (.int p0), .val (.long q1), .second, .val (.long q2), .second, .val (.long q3), .second, .val (.int nn), .val (.int pp0), .val (.int pp1), .val (.int pp2), .val (.long vv0), .second, .val (.long vv1), .second, .val (.long vv2), .second, .val (.ref b1), .val (.int (1 : Int32)), .val (.int zer2), .val (.int one2)] [])) _
          refine XS.aload X198.here hx rfl (hb hby at_324) rfl rfl ?_
          show Steps p.tables e below (T198.setTop (mkF m 326 #[.val (.int p0), .val (.long q1), .second, .val (.long q2), .second, .val (.long q3), .second, .val (.int nn), .val (.int pp0), .val (.int pp1), .val (.int pp2), .val (.long vv0), .second, .val (.long vv1), .second, .val (.long vv2), .second, .val (.ref b1), .val (.int (1 : Int32)), .val (.int zer2), .val (.int one2)] [(.ref b1)])) _
          refine XS.iconst X198.here hx rfl (hb hby at_326) ?_
          show Steps p.tables e below (T198.setTop (mkF m 327 #[.val (.int p0), .val (.long q1), .second, .val (.long q2), .second, .val (.long q3), .second, .val (.int nn), .val (.int pp0), .val (.int pp1), .val (.int pp2), .val (.long vv0), .second, .val (.long vv1), .second, .val (.long vv2), .second, .val (.ref b1), .val (.int (1 : Int32)), .val (.int zer2), .val (.int one2)] [(.int (1 : Int32)), (.ref b1)])) _
          refine XS.aconstNull X198.here hx rfl (hb hby at_327) ?_
          show Steps p.tables e below (T198.setTop (mkF m 328 #[.val (.int p0), .val (.long q1), .second, .val (.long q2), .second, .val (.long q3), .second, .val (.int nn), .val (.int pp0), .val (.int pp1), .val (.int pp2), .val (.long vv0), .second, .val (.long vv1), .second, .val (.long vv2), .second, .val (.ref b1), .val (.int (1 : Int32)), .val (.int zer2), .val (.int one2)] [.null, (.int (1 : Int32)), (.ref b1)])) _
          refine st206.trans ?_
          show Steps p.tables e below (T206.setTop (mkF m 331 #[.val (.int p0), .val (.long q1), .second, .val (.long q2), .second, .val (.long q3), .second, .val (.int nn), .val (.int pp0), .val (.int pp1), .val (.int pp2), .val (.long vv0), .second, .val (.long vv1), .second, .val (.long vv2), .second, .val (.ref b1), .val (.int (1 : Int32)), .val (.int zer2), .val (.int one2)] [(.ref b_206)])) _
          refine st214.trans ?_
          show Steps p.tables e below (T214.setTop (mkF m 336 #[.val (.int p0), .val (.long q1), .second, .val (.long q2), .second, .val (.long q3), .second, .val (.int nn), .val (.int pp0), .val (.int pp1), .val (.int pp2), .val (.long vv0), .second, .val (.long vv1), .second, .val (.long vv2), .second, .val (.ref b1), .val (.int (1 : Int32)), .val (.int zer2), .val (.int one2)] [(.int (((Int32.ofNat (own_oc (own_f ac0 ac1 ac2) 3)) + ((Int32.ofNat (own_zc (own_f ac0 ac1 ac2) 3)) + (0 : Int32))) - ((Int32.ofNat (own_zc (own_f ac0 ac1 ac2) 3)) + (0 : Int32))))])) _
          refine XS.iload X214.here hx rfl (hb hby at_336) rfl ?_
          show Steps p.tables e below (T214.setTop (mkF m 338 #[.val (.int p0), .val (.long q1), .second, .val (.long q2), .second, .val (.long q3), .second, .val (.int nn), .val (.int pp0), .val (.int pp1), .val (.int pp2), .val (.long vv0), .second, .val (.long vv1), .second, .val (.long vv2), .second, .val (.ref b1), .val (.int (1 : Int32)), .val (.int zer2), .val (.int one2)] [(.int one2), (.int (((Int32.ofNat (own_oc (own_f ac0 ac1 ac2) 3)) + ((Int32.ofNat (own_zc (own_f ac0 ac1 ac2) 3)) + (0 : Int32))) - ((Int32.ofNat (own_zc (own_f ac0 ac1 ac2) 3)) + (0 : Int32))))])) _
          refine XS.icmpNo X214.here hx rfl (hb hby at_338) rfl (teq hc338_215).2 ?_
          show Steps p.tables e below (T214.setTop (mkF m 341 #[.val (.int p0), .val (.long q1), .second, .val (.long q2), .second, .val (.long q3), .second, .val (.int nn), .val (.int pp0), .val (.int pp1), .val (.int pp2), .val (.long vv0), .second, .val (.long vv1), .second, .val (.long vv2), .second, .val (.ref b1), .val (.int (1 : Int32)), .val (.int zer2), .val (.int one2)] [])) _
          refine XS.iconst X214.here hx rfl (hb hby at_341) ?_
          show Steps p.tables e below (T214.setTop (mkF m 342 #[.val (.int p0), .val (.long q1), .second, .val (.long q2), .second, .val (.long q3), .second, .val (.int nn), .val (.int pp0), .val (.int pp1), .val (.int pp2), .val (.long vv0), .second, .val (.long vv1), .second, .val (.long vv2), .second, .val (.ref b1), .val (.int (1 : Int32)), .val (.int zer2), .val (.int one2)] [(.int (1 : Int32))])) _
          refine XS.goto X214.here hx rfl (pc0 := 342) (pc' := 346) rfl (hb hby at_342) (by decide) (by decide) ?_
          show Steps p.tables e below (T214.setTop (mkF m 346 #[.val (.int p0), .val (.long q1), .second, .val (.long q2), .second, .val (.long q3), .second, .val (.int nn), .val (.int pp0), .val (.int pp1), .val (.int pp2), .val (.long vv0), .second, .val (.long vv1), .second, .val (.long vv2), .second, .val (.ref b1), .val (.int (1 : Int32)), .val (.int zer2), .val (.int one2)] [(.int (1 : Int32))])) _
          refine XS.istore X214.here hx rfl (hb hby at_346) rfl (l' := #[.val (.int p0), .val (.long q1), .second, .val (.long q2), .second, .val (.long q3), .second, .val (.int nn), .val (.int pp0), .val (.int pp1), .val (.int pp2), .val (.long vv0), .second, .val (.long vv1), .second, .val (.long vv2), .second, .val (.ref b1), .val (.int (1 : Int32)), .val (.int zer2), .val (.int one2)]) rfl ?_
          show Steps p.tables e below (T214.setTop (mkF m 348 #[.val (.int p0), .val (.long q1), .second, .val (.long q2), .second, .val (.long q3), .second, .val (.int nn), .val (.int pp0), .val (.int pp1), .val (.int pp2), .val (.long vv0), .second, .val (.long vv1), .second, .val (.long vv2), .second, .val (.ref b1), .val (.int (1 : Int32)), .val (.int zer2), .val (.int one2)] [])) _
          refine XS.iload X214.here hx rfl (hb hby at_348) rfl ?_
          show Steps p.tables e below (T214.setTop (mkF m 350 #[.val (.int p0), .val (.long q1), .second, .val (.long q2), .second, .val (.long q3), .second, .val (.int nn), .val (.int pp0), .val (.int pp1), .val (.int pp2), .val (.long vv0), .second, .val (.long vv1), .second, .val (.long vv2), .second, .val (.ref b1), .val (.int (1 : Int32)), .val (.int zer2), .val (.int one2)] [(.int (1 : Int32))])) _
          exact retN X214 hx (t := .boolean) Bd.returns (by simp) (hb hby at_350) hr
        · show Q0 Z p0 q1 q2 q3 h0 n0 _ T214.heap _
          exact ⟨rfl, N214⟩
set_option maxRecDepth 65536 in
set_option maxHeartbeats 40000000 in
theorem comes_1 {Post : Tables → Env → Array Value → State → Outcome → State → Prop} (hpost : ∀ tb e args s v u, (limb_1_1.after args s (.returned v) u = true ∧ limb_1_2.after args s (.returned v) u = true ∧ True) → FrameEnd s (.returned v) u (Jvm.fieldLocs frame_1_writes args s ++ Jvm.arrayLocs frame_1_arrays args s ++ Jvm.staticLocs frame_1_statics s) 24 4224 → Post tb e args s (.returned v) u) :
    ArmFor flags0 classFile x code maxLocals ret World_1 tables_1 room_1 Calls_1 rest_1 Pre_1 Post := by
  intro l hfl _ _ p e ha hc hk s m args below hf hA hF happ hP
  obtain ⟨hcalls, hrest, hpre⟩ := hP
  obtain ⟨-, -, -, hnamed, -, -, -, hat⟩ := (Spec.applies_iff hf).mp happ
  obtain ⟨hg, hn⟩ := and_e (Cond.before_iff.mp (show (Jvm.Cond.and given_1 narrow_1).before args s = true from hpre))
  obtain ⟨g1, g2⟩ := and_e hg
  obtain ⟨g3, g4⟩ := and_e g2
  obtain ⟨g5, g6⟩ := and_e g4
  obtain ⟨g7, g8⟩ := and_e g6
  obtain ⟨w0, w1, w2, w3, rfl⟩ : ∃ w0 w1 w2 w3 : Value, args = #[w0, w1, w2, w3] := by
    have hs : args.size = 4 := by simpa [Cond.value, given_1] using g1
    obtain ⟨L⟩ := args
    match L, hs with
    | [w0, w1, w2, w3], _ => exact ⟨w0, w1, w2, w3, rfl⟩
  have hw := fun d (hd : d ∈ tables_1) => atoms_spec (ws := Jvm.Cond.code x code maxLocals ret :: tables_1) hat d (List.mem_cons_of_mem _ hd)
  have hfit : Fit s := fun {y c} hc i hi => by
    obtain ⟨ha, rfl⟩ := Array.getElem?_eq_some_iff.mp hc
    have q := List.all_eq_true.mp ((Array.all_eq_true_iff_forall_mem.mp hF) _ (Array.getElem_mem ha)) i (List.mem_range.mpr hi)
    simpa [Array.getElem?_eq_getElem hi] using q
  obtain ⟨i0, ei0⟩ := is_v g3
  obtain rfl : w0 = (.int i0) := Option.some.inj ei0
  obtain ⟨i1, ei1⟩ := isL_v g5
  obtain rfl : w1 = (.long i1) := Option.some.inj ei1
  obtain ⟨i2, ei2⟩ := isL_v g7
  obtain rfl : w2 = (.long i2) := Option.some.inj ei2
  obtain ⟨i3, ei3⟩ := isL_v g8
  obtain rfl : w3 = (.long i3) := Option.some.inj ei3
  obtain ⟨n, o, h1, h2, h3, _, L, rfl, ⟨rfl, N⟩, hq⟩ := rm0 l s _ hw tables_1 i0 i1 i2 i3 s.heap s.heap.size (Nat.le_refl _) p e ha hc hk s m _ below hf ((Spec.applies_iff_loose hf).mp happ).1 ⟨rfl, State.Warmed39.refl s, rfl⟩ trivial
  refine ⟨n, _, h1, h2, h3, hpost _ _ _ _ _ _ ⟨Cond.after_iff.mpr rfl, Cond.after_iff.mpr (eq_i res_at (Term.int_eval (1)) rfl), trivial⟩ ⟨hq.1, hq.2.1, (hq.2.2.sift fun y hy => Or.inr (N y hy)).mono (by decide) (by decide)⟩⟩
theorem main_1_1 : Claimed_1_1 := comes_1 fun _ _ _ _ _ _ h hF => ⟨h.1, hF⟩
theorem main_1_2 : Claimed_1_2 := comes_1 fun _ _ _ _ _ _ h hF => ⟨h.2.1, hF⟩
end Jvm.Pilot.@@N@@
namespace Jvm.Pilot.@@N@@
open Jvm Jvm.ClassFile Sem Op Lib Jvm.Free Jvm.Stand Jvm.Pilot.@@N@@.Jvm.D
/-! MADE BY PROGRAM (witnessworld.py) out of the Statement's table words and the real class files: 20 classes; the members and pool entries that the words name. The judged class is class 1, her method 1. -/
namespace start1
open Jvm.ClassFile
def u (s : String) : CpInfo := .utf8 (stringToUtf16 s)
/-- a pool by its gaps: so many unusable entries, then the entry; so many at the end -/
def gap : Nat → List CpInfo → List CpInfo
  | 0, r => r
  | n + 1, r => .unusable :: gap n r
def poolList (es : List (Nat × CpInfo)) (last : Nat) : List CpInfo := es.foldr (fun e r => gap e.1 (e.2 :: r)) (gap last [])
def pool (es : List (Nat × CpInfo)) (last : Nat) : Array CpInfo := ⟨poolList es last⟩
def fileOf (pool : Array CpInfo) (this : Nat) (attrs : Array Attribute := #[]) (ms : Array MethodInfo := #[]) (fl : Nat := 33) (sup : Nat := 0) (ifs : Array Nat := #[]) (fds : Array FieldInfo := #[]) : ClassFile where
  minorVersion := 0
  majorVersion := 65
  constantPool := pool
  accessFlags := fl
  thisClass := this
  superClass := sup
  interfaces := ifs
  fields := fds
  methods := ms
  attributes := attrs
def plain (name : String) (sup : Option ClassId) : Class where
  name := name
  kind := .ordinary
  loader := none
  accessFlags := 33
  super := sup
  interfaces := #[]
  cf := none
  fields := #[]
  methods := #[]
  instanceTypes := #[]
  staticTypes := #[]
  resolved := #[]
  callSites := []
  init := .initialized
  statics := none
  mirror := none

def pool0 : Array CpInfo := pool [(5, u "<init>"), (0, u "()V"), (1, .class_ 10), (1, u "java/lang/Object")] 113

def k0c0 : Code := { maxStack := 0, maxLocals := 1, code := object_method_1_code, exceptionTable := #[], attributes := #[] }
def k0m0 : Method := { name := "<init>", desc := "()V", sig := { parameters := [], returnType := none }, accessFlags := 1, code := some k0c0 }
/-- java/lang/Object -/
def k0 : Class := { plain "java/lang/Object" none with
  accessFlags := 33
  interfaces := #[]
  cf := some (fileOf pool0 8 #[] #[{ accessFlags := 1, nameIndex := 5, descriptorIndex := 6, attributes := #[] }] 33 0 #[] #[])
  fields := #[]
  methods := #[k0m0]
  instanceTypes := #[]
  staticTypes := #[]
  resolved := Array.replicate 124 none
  statics := none }

def pool1 : Array CpInfo := pool [(2, .class_ 4), (0, .nameAndType 5 6), (0, u "java/lang/Object"), (0, u "<init>"), (0, u "()V"), (0, .class_ 8), (0, u "com/example/vestwright/vestwright/ParticipantRows"), (0, .methodref 7 3), (0, .methodref 7 11), (0, .nameAndType 12 13), (0, u "add"), (0, u "(IJ)I"), (0, .methodref 7 15), (0, .nameAndType 16 17), (0, u "line"), (0, u "(I)J"), (0, .methodref 7 19), (0, .nameAndType 20 21), (0, u "group"), (0, u "(I)V"), (0, .methodref 7 23), (0, .nameAndType 24 25), (0, u "rowsOf"), (0, u "(ILjava/util/function/IntFunction;)Ljava/util/List;"), (0, .interfaceMethodref 27 28), (0, .class_ 29), (0, .nameAndType 30 31), (0, u "java/util/List"), (0, u "size"), (0, u "()I"), (0, .class_ 33), (0, u "com/example/vestwright/vestwright/ParticipantRowsAddPinLaw"), (2, u "law"), (0, u "(IJJJ)Z")] 3

def k1m0 : Method := { name := "<init>", desc := "()V", sig := { parameters := [], returnType := none }, accessFlags := 1, code := none }
def k1c1 : Code := { maxStack := 4, maxLocals := 21, code := code, exceptionTable := #[], attributes := #[] }
def k1m1 : Method := { name := "law", desc := "(IJJJ)Z", sig := { parameters := [.int, .long, .long, .long], returnType := some .boolean }, accessFlags := 9, code := some k1c1 }
/-- com/example/vestwright/vestwright/ParticipantRowsAddPinLaw -/
def k1 : Class := { plain "com/example/vestwright/vestwright/ParticipantRowsAddPinLaw" (some 0) with
  accessFlags := 49
  interfaces := #[]
  cf := some (fileOf pool1 32 #[] #[{ accessFlags := 1, nameIndex := 5, descriptorIndex := 6, attributes := #[] }, { accessFlags := 9, nameIndex := 36, descriptorIndex := 37, attributes := #[] }] 49 2 #[] #[])
  fields := #[]
  methods := #[k1m0, k1m1]
  instanceTypes := #[]
  staticTypes := #[]
  resolved := Array.replicate 41 none
  statics := none }

def pool2 : Array CpInfo := pool [(1, .methodref 2 3), (0, .class_ 4), (0, .nameAndType 5 6), (0, u "java/lang/Object"), (0, u "<init>"), (0, u "()V"), (0, .class_ 8), (0, u "com/example/vestwright/vestwright/ParticipantRows"), (0, .fieldref 7 10), (0, .nameAndType 11 12), (0, u "participants"), (0, u "[I"), (0, .fieldref 7 14), (0, .nameAndType 15 12), (0, u "lines"), (0, .fieldref 7 17), (0, .nameAndType 18 12), (0, u "starts"), (7, .fieldref 7 27), (0, .nameAndType 28 29), (0, u "size"), (0, u "I"), (0, .methodref 31 32), (0, .class_ 33), (0, .nameAndType 34 35), (0, u "java/util/Arrays"), (0, u "copyOf"), (0, u "([II)[I"), (0, .methodref 37 38), (0, .class_ 39), (0, .nameAndType 40 41), (0, u "java/lang/Math"), (0, u "toIntExact"), (0, u "(J)I"), (0, .fieldref 7 43), (0, .nameAndType 44 12), (0, u "order"), (2, .class_ 48), (0, u "com/example/vestwright/vestwright/ParticipantRows$Rows"), (0, .methodref 47 50), (0, .nameAndType 5 51), (0, u "(Lcom/example/vestwright/vestwright/ParticipantRows;IILjava/util/function/IntFunction;)V"), (0, u "FIRST_CAPACITY"), (4, u "add"), (0, u "(IJ)I"), (1, u "line"), (0, u "(I)J"), (0, u "group"), (0, u "(I)V"), (1, u "rowsOf"), (0, u "(ILjava/util/function/IntFunction;)Ljava/util/List;")] 7

def k2c0 : Code := { maxStack := 2, maxLocals := 1, code := prog_18_method_1_code, exceptionTable := #[], attributes := #[] }
def k2m0 : Method := { name := "<init>", desc := "()V", sig := { parameters := [], returnType := none }, accessFlags := 0, code := some k2c0 }
def k2c1 : Code := { maxStack := 4, maxLocals := 5, code := prog_18_method_2_code, exceptionTable := #[], attributes := #[] }
def k2m1 : Method := { name := "add", desc := "(IJ)I", sig := { parameters := [.int, .long], returnType := some .int }, accessFlags := 0, code := some k2c1 }
def k2c2 : Code := { maxStack := 2, maxLocals := 2, code := prog_18_method_3_code, exceptionTable := #[], attributes := #[] }
def k2m2 : Method := { name := "line", desc := "(I)J", sig := { parameters := [.int], returnType := some .long }, accessFlags := 0, code := some k2c2 }
def k2c3 : Code := { maxStack := 6, maxLocals := 6, code := prog_18_method_4_code, exceptionTable := #[], attributes := #[] }
def k2m3 : Method := { name := "group", desc := "(I)V", sig := { parameters := [.int], returnType := none }, accessFlags := 0, code := some k2c3 }
def k2c4 : Code := { maxStack := 7, maxLocals := 3, code := prog_18_method_5_code, exceptionTable := #[], attributes := #[] }
def k2m4 : Method := { name := "rowsOf", desc := "(ILjava/util/function/IntFunction;)Ljava/util/List;", sig := { parameters := [.int, (.object "java/util/function/IntFunction")], returnType := some (.object "java/util/List") }, accessFlags := 0, code := some k2c4 }
/-- com/example/vestwright/vestwright/ParticipantRows -/
def k2 : Class := { plain "com/example/vestwright/vestwright/ParticipantRows" (some 0) with
  accessFlags := 48
  interfaces := #[]
  cf := some (fileOf pool2 7 #[.nestMembers #[47]] #[{ accessFlags := 0, nameIndex := 5, descriptorIndex := 6, attributes := #[] }, { accessFlags := 0, nameIndex := 57, descriptorIndex := 58, attributes := #[] }, { accessFlags := 0, nameIndex := 60, descriptorIndex := 61, attributes := #[] }, { accessFlags := 0, nameIndex := 62, descriptorIndex := 63, attributes := #[] }, { accessFlags := 0, nameIndex := 65, descriptorIndex := 66, attributes := #[] }] 48 2 #[] #[{ accessFlags := 26, nameIndex := 52, descriptorIndex := 29, attributes := #[] }, { accessFlags := 2, nameIndex := 28, descriptorIndex := 29, attributes := #[] }, { accessFlags := 2, nameIndex := 11, descriptorIndex := 12, attributes := #[] }, { accessFlags := 2, nameIndex := 15, descriptorIndex := 12, attributes := #[] }, { accessFlags := 2, nameIndex := 18, descriptorIndex := 12, attributes := #[] }, { accessFlags := 2, nameIndex := 44, descriptorIndex := 12, attributes := #[] }])
  fields := #[{ name := "FIRST_CAPACITY", type := .int, accessFlags := 26, slot := 0, constantValue := 0 }, { name := "size", type := .int, accessFlags := 2, slot := 0, constantValue := 0 }, { name := "participants", type := (.array .int), accessFlags := 2, slot := 1, constantValue := 0 }, { name := "lines", type := (.array .int), accessFlags := 2, slot := 2, constantValue := 0 }, { name := "starts", type := (.array .int), accessFlags := 2, slot := 3, constantValue := 0 }, { name := "order", type := (.array .int), accessFlags := 2, slot := 4, constantValue := 0 }]
  methods := #[k2m0, k2m1, k2m2, k2m3, k2m4]
  instanceTypes := #[.int, (.array .int), (.array .int), (.array .int), (.array .int)]
  staticTypes := #[.int]
  resolved := (((Array.replicate 74 none).setIfInBounds 47 (some (.cls 13))).setIfInBounds 49 (some (.method ⟨13, 0⟩)))
  statics := none }

def pool3 : Array CpInfo := pool [(2, .class_ 4), (1, u "java/lang/Object"), (0, u "<init>"), (0, u "()V"), (7, .class_ 16), (1, u "java/util/Arrays"), (57, .class_ 76), (1, u "java/util/Arrays$NaturalOrder"), (36, .class_ 115), (1, u "java/util/Arrays$LegacyMergeSort"), (1, u "Z"), (32, .methodref 151 152), (0, .class_ 153), (0, .nameAndType 154 155), (0, u "java/lang/System"), (0, u "arraycopy"), (0, u "(Ljava/lang/Object;ILjava/lang/Object;II)V"), (146, u "copyOf"), (1, .methodref 305 306), (0, .class_ 307), (0, .nameAndType 308 309), (0, u "java/lang/Math"), (0, u "min"), (0, u "(II)I"), (65, .class_ 376), (0, u "java/util/Arrays$ArrayList"), (68, u "$assertionsDisabled"), (269, u "MIN_ARRAY_SORT_GRAN"), (0, u "I"), (2, u "INSERTIONSORT_THRESHOLD"), (151, u "([II)[I"), (103, .class_ 976), (0, u "java/util/Arrays$ArrayItr")] 52

def k3m0 : Method := { name := "<init>", desc := "()V", sig := { parameters := [], returnType := none }, accessFlags := 2, code := none }
def k3c1 : Code := { maxStack := 6, maxLocals := 3, code := jdk_65_method_123_code, exceptionTable := #[], attributes := #[] }
def k3m1 : Method := { name := "copyOf", desc := "([II)[I", sig := { parameters := [(.array .int), .int], returnType := some (.array .int) }, accessFlags := 9, code := some k3c1 }
/-- java/util/Arrays -/
def k3 : Class := { plain "java/util/Arrays" (some 0) with
  accessFlags := 49
  interfaces := #[]
  cf := some (fileOf pool3 14 #[.nestMembers #[975, 375, 113, 74]] #[{ accessFlags := 2, nameIndex := 5, descriptorIndex := 6, attributes := #[] }, { accessFlags := 9, nameIndex := 302, descriptorIndex := 871, attributes := #[] }] 49 2 #[] #[{ accessFlags := 26, nameIndex := 715, descriptorIndex := 716, attributes := #[] }, { accessFlags := 26, nameIndex := 719, descriptorIndex := 716, attributes := #[] }, { accessFlags := 4120, nameIndex := 445, descriptorIndex := 117, attributes := #[] }])
  fields := #[{ name := "MIN_ARRAY_SORT_GRAN", type := .int, accessFlags := 26, slot := 0, constantValue := 0 }, { name := "INSERTIONSORT_THRESHOLD", type := .int, accessFlags := 26, slot := 1, constantValue := 0 }, { name := "$assertionsDisabled", type := .boolean, accessFlags := 4120, slot := 2, constantValue := 0 }]
  methods := #[k3m0, k3m1]
  instanceTypes := #[]
  staticTypes := #[.int, .int, .boolean]
  resolved := Array.replicate 1029 none
  statics := none }

def pool4 : Array CpInfo := pool [(1, .class_ 2), (0, u "java/lang/Math"), (1, .class_ 6), (1, u "java/lang/Object"), (0, u "<init>"), (0, u "()V"), (89, .class_ 100), (1, u "java/lang/Math$RandomNumberGeneratorHolder"), (71, u "negativeZeroFloatBits"), (0, u "J"), (2, u "negativeZeroDoubleBits"), (24, u "min"), (43, u "$assertionsDisabled"), (0, u "Z"), (88, u "(II)I"), (2, u "twoToTheDoubleScaleDown"), (0, u "D"), (4, u "twoToTheDoubleScaleUp"), (9, u "E"), (3, u "PI"), (2, u "TAU"), (2, u "DEGREES_TO_RADIANS"), (0, u "RADIANS_TO_DEGREES"), (39, u "toIntExact"), (0, u "(J)I")] 53

def k4m0 : Method := { name := "<init>", desc := "()V", sig := { parameters := [], returnType := none }, accessFlags := 2, code := none }
def k4c1 : Code := { maxStack := 4, maxLocals := 2, code := jdk_29_method_43_code, exceptionTable := #[], attributes := #[] }
def k4m1 : Method := { name := "toIntExact", desc := "(J)I", sig := { parameters := [.long], returnType := some .int }, accessFlags := 9, code := some k4c1 }
def k4c2 : Code := { maxStack := 2, maxLocals := 2, code := jdk_29_method_69_code, exceptionTable := #[], attributes := #[] }
def k4m2 : Method := { name := "min", desc := "(II)I", sig := { parameters := [.int, .int], returnType := some .int }, accessFlags := 9, code := some k4c2 }
/-- java/lang/Math -/
def k4 : Class := { plain "java/lang/Math" (some 0) with
  accessFlags := 49
  interfaces := #[]
  cf := some (fileOf pool4 1 #[.nestMembers #[98]] #[{ accessFlags := 2, nameIndex := 7, descriptorIndex := 8, attributes := #[] }, { accessFlags := 9, nameIndex := 405, descriptorIndex := 406, attributes := #[] }, { accessFlags := 9, nameIndex := 201, descriptorIndex := 335, attributes := #[] }] 49 4 #[] #[{ accessFlags := 25, nameIndex := 354, descriptorIndex := 339, attributes := #[] }, { accessFlags := 25, nameIndex := 358, descriptorIndex := 339, attributes := #[] }, { accessFlags := 25, nameIndex := 361, descriptorIndex := 339, attributes := #[] }, { accessFlags := 26, nameIndex := 364, descriptorIndex := 339, attributes := #[] }, { accessFlags := 26, nameIndex := 365, descriptorIndex := 339, attributes := #[] }, { accessFlags := 26, nameIndex := 172, descriptorIndex := 173, attributes := #[] }, { accessFlags := 26, nameIndex := 176, descriptorIndex := 173, attributes := #[] }, { accessFlags := 8, nameIndex := 344, descriptorIndex := 339, attributes := #[] }, { accessFlags := 8, nameIndex := 338, descriptorIndex := 339, attributes := #[] }, { accessFlags := 4120, nameIndex := 245, descriptorIndex := 246, attributes := #[] }])
  fields := #[{ name := "E", type := .double, accessFlags := 25, slot := 0, constantValue := 0 }, { name := "PI", type := .double, accessFlags := 25, slot := 1, constantValue := 0 }, { name := "TAU", type := .double, accessFlags := 25, slot := 2, constantValue := 0 }, { name := "DEGREES_TO_RADIANS", type := .double, accessFlags := 26, slot := 3, constantValue := 0 }, { name := "RADIANS_TO_DEGREES", type := .double, accessFlags := 26, slot := 4, constantValue := 0 }, { name := "negativeZeroFloatBits", type := .long, accessFlags := 26, slot := 5, constantValue := 0 }, { name := "negativeZeroDoubleBits", type := .long, accessFlags := 26, slot := 6, constantValue := 0 }, { name := "twoToTheDoubleScaleUp", type := .double, accessFlags := 8, slot := 7, constantValue := 0 }, { name := "twoToTheDoubleScaleDown", type := .double, accessFlags := 8, slot := 8, constantValue := 0 }, { name := "$assertionsDisabled", type := .boolean, accessFlags := 4120, slot := 9, constantValue := 0 }]
  methods := #[k4m0, k4m1, k4m2]
  instanceTypes := #[]
  staticTypes := #[.double, .double, .double, .double, .double, .long, .long, .double, .double, .boolean]
  resolved := Array.replicate 460 none
  statics := none }

def pool5 : Array CpInfo := pool [(2, .class_ 4), (1, u "java/lang/Object"), (0, u "<init>"), (0, u "()V"), (1, .class_ 10), (1, u "java/lang/System"), (0, u "allowSecurityManager"), (0, u "I"), (16, u "cons"), (0, u "Ljava/io/Console;"), (77, .class_ 110), (1, u "java/lang/System$CallersHolder"), (43, u "initialErrStream"), (0, u "Ljava/io/PrintStream;"), (19, u "security"), (0, u "Ljava/lang/SecurityManager;"), (31, .class_ 209), (0, u "java/lang/System$1"), (7, u "props"), (0, u "Ljava/util/Properties;"), (2, u "lineSeparator"), (0, u "Ljava/lang/String;"), (96, .class_ 321), (1, u "java/lang/System$LoggerFinder"), (5, .class_ 328), (0, u "java/lang/System$Logger"), (67, u "err"), (2, u "out"), (91, u "notSupportedJnuEncoding"), (15, u "in"), (17, u "initialIn"), (0, u "Ljava/io/InputStream;"), (35, u "bootLayer"), (0, u "Ljava/lang/ModuleLayer;"), (99, .class_ 664), (0, u "java/lang/System$2"), (9, u "NEVER"), (2, u "MAYBE"), (49, u "arraycopy"), (0, u "(Ljava/lang/Object;ILjava/lang/Object;II)V"), (72, .class_ 802), (0, u "java/lang/System$Logger$Level")] 31

def k5m0 : Method := { name := "<init>", desc := "()V", sig := { parameters := [], returnType := none }, accessFlags := 2, code := none }
def k5m1 : Method := { name := "arraycopy", desc := "(Ljava/lang/Object;ILjava/lang/Object;II)V", sig := { parameters := [(.object "java/lang/Object"), .int, (.object "java/lang/Object"), .int, .int], returnType := none }, accessFlags := 265, code := none }
/-- java/lang/System -/
def k5 : Class := { plain "java/lang/System" (some 0) with
  accessFlags := 49
  interfaces := #[]
  cf := some (fileOf pool5 8 #[.nestMembers #[319, 327, 801, 108, 663, 208]] #[{ accessFlags := 2, nameIndex := 5, descriptorIndex := 6, attributes := #[] }, { accessFlags := 265, nameIndex := 727, descriptorIndex := 728, attributes := #[] }] 49 2 #[] #[{ accessFlags := 25, nameIndex := 507, descriptorIndex := 526, attributes := #[] }, { accessFlags := 25, nameIndex := 399, descriptorIndex := 155, attributes := #[] }, { accessFlags := 25, nameIndex := 396, descriptorIndex := 155, attributes := #[] }, { accessFlags := 10, nameIndex := 525, descriptorIndex := 526, attributes := #[] }, { accessFlags := 26, nameIndex := 674, descriptorIndex := 12, attributes := #[] }, { accessFlags := 26, nameIndex := 677, descriptorIndex := 12, attributes := #[] }, { accessFlags := 10, nameIndex := 11, descriptorIndex := 12, attributes := #[] }, { accessFlags := 74, nameIndex := 175, descriptorIndex := 176, attributes := #[] }, { accessFlags := 10, nameIndex := 491, descriptorIndex := 222, attributes := #[] }, { accessFlags := 74, nameIndex := 29, descriptorIndex := 30, attributes := #[] }, { accessFlags := 74, nameIndex := 154, descriptorIndex := 155, attributes := #[] }, { accessFlags := 10, nameIndex := 217, descriptorIndex := 218, attributes := #[] }, { accessFlags := 10, nameIndex := 221, descriptorIndex := 222, attributes := #[] }, { accessFlags := 8, nameIndex := 562, descriptorIndex := 563, attributes := #[] }])
  fields := #[{ name := "in", type := (.object "java/io/InputStream"), accessFlags := 25, slot := 0, constantValue := 0 }, { name := "out", type := (.object "java/io/PrintStream"), accessFlags := 25, slot := 1, constantValue := 0 }, { name := "err", type := (.object "java/io/PrintStream"), accessFlags := 25, slot := 2, constantValue := 0 }, { name := "initialIn", type := (.object "java/io/InputStream"), accessFlags := 10, slot := 3, constantValue := 0 }, { name := "NEVER", type := .int, accessFlags := 26, slot := 4, constantValue := 0 }, { name := "MAYBE", type := .int, accessFlags := 26, slot := 5, constantValue := 0 }, { name := "allowSecurityManager", type := .int, accessFlags := 10, slot := 6, constantValue := 0 }, { name := "security", type := (.object "java/lang/SecurityManager"), accessFlags := 74, slot := 7, constantValue := 0 }, { name := "notSupportedJnuEncoding", type := (.object "java/lang/String"), accessFlags := 10, slot := 8, constantValue := 0 }, { name := "cons", type := (.object "java/io/Console"), accessFlags := 74, slot := 9, constantValue := 0 }, { name := "initialErrStream", type := (.object "java/io/PrintStream"), accessFlags := 74, slot := 10, constantValue := 0 }, { name := "props", type := (.object "java/util/Properties"), accessFlags := 10, slot := 11, constantValue := 0 }, { name := "lineSeparator", type := (.object "java/lang/String"), accessFlags := 10, slot := 12, constantValue := 0 }, { name := "bootLayer", type := (.object "java/lang/ModuleLayer"), accessFlags := 8, slot := 13, constantValue := 0 }]
  methods := #[k5m0, k5m1]
  instanceTypes := #[]
  staticTypes := #[(.object "java/io/InputStream"), (.object "java/io/PrintStream"), (.object "java/io/PrintStream"), (.object "java/io/InputStream"), .int, .int, .int, (.object "java/lang/SecurityManager"), (.object "java/lang/String"), (.object "java/io/Console"), (.object "java/io/PrintStream"), (.object "java/util/Properties"), (.object "java/lang/String"), (.object "java/lang/ModuleLayer")]
  resolved := Array.replicate 834 none
  statics := none }

def pool6 : Array CpInfo := pool [(8, .class_ 10), (1, u "java/lang/Iterable"), (24, .class_ 36), (0, u "java/lang/Object")] 25

/-- java/lang/Iterable -/
def k6 : Class := { plain "java/lang/Iterable" (some 0) with
  accessFlags := 1537
  interfaces := #[]
  cf := some (fileOf pool6 8 #[] #[] 1537 35 #[] #[])
  fields := #[]
  methods := #[]
  instanceTypes := #[]
  staticTypes := #[]
  resolved := Array.replicate 62 none
  statics := none }

def pool7 : Array CpInfo := pool [(10, .class_ 12), (1, u "java/util/Collection"), (47, .class_ 61), (0, u "java/lang/Object"), (0, .class_ 63), (0, u "java/lang/Iterable")] 51

/-- java/util/Collection -/
def k7 : Class := { plain "java/util/Collection" (some 0) with
  accessFlags := 1537
  interfaces := #[6]
  cf := some (fileOf pool7 10 #[] #[] 1537 60 #[62] #[])
  fields := #[]
  methods := #[]
  instanceTypes := #[]
  staticTypes := #[]
  resolved := Array.replicate 115 none
  statics := none }

def pool8 : Array CpInfo := pool [(1, .methodref 2 3), (0, .class_ 4), (0, .nameAndType 5 6), (0, u "java/lang/Object"), (0, u "<init>"), (0, u "()V"), (1, .class_ 10), (1, u "java/util/AbstractCollection"), (66, .class_ 78), (0, u "java/util/Collection")] 81

def k8c0 : Code := { maxStack := 1, maxLocals := 1, code := jdk_22_method_1_code, exceptionTable := #[], attributes := #[] }
def k8m0 : Method := { name := "<init>", desc := "()V", sig := { parameters := [], returnType := none }, accessFlags := 4, code := some k8c0 }
/-- java/util/AbstractCollection -/
def k8 : Class := { plain "java/util/AbstractCollection" (some 0) with
  accessFlags := 1057
  interfaces := #[7]
  cf := some (fileOf pool8 8 #[] #[{ accessFlags := 4, nameIndex := 5, descriptorIndex := 6, attributes := #[] }] 1057 2 #[77] #[])
  fields := #[]
  methods := #[k8m0]
  instanceTypes := #[]
  staticTypes := #[]
  resolved := Array.replicate 160 none
  statics := none }

def pool9 : Array CpInfo := pool [(8, .class_ 10), (1, u "java/util/SequencedCollection"), (15, .class_ 27), (0, u "java/lang/Object"), (0, .class_ 29), (0, u "java/util/Collection")] 27

/-- java/util/SequencedCollection -/
def k9 : Class := { plain "java/util/SequencedCollection" (some 0) with
  accessFlags := 1537
  interfaces := #[7]
  cf := some (fileOf pool9 8 #[] #[] 1537 26 #[28] #[])
  fields := #[]
  methods := #[]
  instanceTypes := #[]
  staticTypes := #[]
  resolved := Array.replicate 57 none
  statics := none }

def pool10 : Array CpInfo := pool [(8, .class_ 10), (1, u "java/util/List"), (68, u "size"), (0, u "()I"), (22, .class_ 104), (0, u "java/lang/Object"), (15, .class_ 121), (0, u "java/util/SequencedCollection")] 129

def k10m0 : Method := { name := "size", desc := "()I", sig := { parameters := [], returnType := some .int }, accessFlags := 1025, code := none }
/-- java/util/List -/
def k10 : Class := { plain "java/util/List" (some 0) with
  accessFlags := 1537
  interfaces := #[9]
  cf := some (fileOf pool10 8 #[] #[{ accessFlags := 1025, nameIndex := 79, descriptorIndex := 80, attributes := #[] }] 1537 103 #[120] #[])
  fields := #[]
  methods := #[k10m0]
  instanceTypes := #[]
  staticTypes := #[]
  resolved := Array.replicate 251 none
  statics := none }

def pool11 : Array CpInfo := pool [(1, .methodref 2 3), (0, .class_ 4), (0, .nameAndType 5 6), (0, u "java/util/AbstractCollection"), (0, u "<init>"), (0, u "()V"), (0, .fieldref 8 9), (0, .class_ 10), (0, .nameAndType 11 12), (0, u "java/util/AbstractList"), (0, u "modCount"), (0, u "I"), (64, .class_ 78), (0, u "java/util/AbstractList$Itr"), (3, .class_ 83), (0, u "java/util/AbstractList$ListItr"), (9, .class_ 94), (0, u "java/util/AbstractList$RandomAccessSubList"), (3, .class_ 99), (0, u "java/util/AbstractList$SubList"), (33, .class_ 134), (0, u "java/util/List"), (73, .class_ 209), (0, u "java/util/AbstractList$SubList$1"), (0, .class_ 211), (0, u "java/util/AbstractList$RandomAccessSpliterator")] 6

def k11c0 : Code := { maxStack := 2, maxLocals := 1, code := jdk_39_method_1_code, exceptionTable := #[], attributes := #[] }
def k11m0 : Method := { name := "<init>", desc := "()V", sig := { parameters := [], returnType := none }, accessFlags := 4, code := some k11c0 }
/-- java/util/AbstractList -/
def k11 : Class := { plain "java/util/AbstractList" (some 8) with
  accessFlags := 1057
  interfaces := #[10]
  cf := some (fileOf pool11 8 #[.nestMembers #[93, 98, 208, 210, 82, 77]] #[{ accessFlags := 4, nameIndex := 5, descriptorIndex := 6, attributes := #[] }] 1057 2 #[133] #[{ accessFlags := 132, nameIndex := 11, descriptorIndex := 12, attributes := #[] }])
  fields := #[{ name := "modCount", type := .int, accessFlags := 132, slot := 0, constantValue := 0 }]
  methods := #[k11m0]
  instanceTypes := #[.int]
  staticTypes := #[]
  resolved := Array.replicate 218 none
  statics := none }

def pool12 : Array CpInfo := pool [(1, .class_ 2), (0, u "java/util/RandomAccess"), (0, .class_ 4), (0, u "java/lang/Object")] 2

/-- java/util/RandomAccess -/
def k12 : Class := { plain "java/util/RandomAccess" (some 0) with
  accessFlags := 1537
  interfaces := #[]
  cf := some (fileOf pool12 1 #[] #[] 1537 3 #[] #[])
  fields := #[]
  methods := #[]
  instanceTypes := #[]
  staticTypes := #[]
  resolved := Array.replicate 7 none
  statics := none }

def pool13 : Array CpInfo := pool [(1, .fieldref 2 3), (0, .class_ 4), (0, .nameAndType 5 6), (0, u "com/example/vestwright/vestwright/ParticipantRows$Rows"), (0, u "this$0"), (0, u "Lcom/example/vestwright/vestwright/ParticipantRows;"), (0, .methodref 8 9), (0, .class_ 10), (0, .nameAndType 11 12), (0, u "java/util/AbstractList"), (0, u "<init>"), (0, u "()V"), (0, .fieldref 2 14), (0, .nameAndType 15 16), (0, u "from"), (0, u "I"), (0, .fieldref 2 18), (0, .nameAndType 19 16), (0, u "to"), (0, .fieldref 2 21), (0, .nameAndType 22 23), (0, u "row"), (0, u "Ljava/util/function/IntFunction;"), (6, .class_ 32), (1, u "com/example/vestwright/vestwright/ParticipantRows"), (8, .class_ 42), (0, u "java/util/RandomAccess"), (2, u "(Lcom/example/vestwright/vestwright/ParticipantRows;IILjava/util/function/IntFunction;)V"), (7, u "size"), (0, u "()I")] 6

def k13c0 : Code := { maxStack := 2, maxLocals := 5, code := prog_19_method_1_code, exceptionTable := #[], attributes := #[] }
def k13m0 : Method := { name := "<init>", desc := "(Lcom/example/vestwright/vestwright/ParticipantRows;IILjava/util/function/IntFunction;)V", sig := { parameters := [(.object "com/example/vestwright/vestwright/ParticipantRows"), .int, .int, (.object "java/util/function/IntFunction")], returnType := none }, accessFlags := 2, code := some k13c0 }
def k13c1 : Code := { maxStack := 2, maxLocals := 1, code := prog_19_method_3_code, exceptionTable := #[], attributes := #[] }
def k13m1 : Method := { name := "size", desc := "()I", sig := { parameters := [], returnType := some .int }, accessFlags := 1, code := some k13c1 }
/-- com/example/vestwright/vestwright/ParticipantRows$Rows -/
def k13 : Class := { plain "com/example/vestwright/vestwright/ParticipantRows$Rows" (some 11) with
  accessFlags := 48
  interfaces := #[12]
  cf := some (fileOf pool13 2 #[.nestHost 30] #[{ accessFlags := 2, nameIndex := 11, descriptorIndex := 45, attributes := #[] }, { accessFlags := 1, nameIndex := 53, descriptorIndex := 54, attributes := #[] }] 48 8 #[41] #[{ accessFlags := 18, nameIndex := 15, descriptorIndex := 16, attributes := #[] }, { accessFlags := 18, nameIndex := 19, descriptorIndex := 16, attributes := #[] }, { accessFlags := 18, nameIndex := 22, descriptorIndex := 23, attributes := #[] }, { accessFlags := 4112, nameIndex := 5, descriptorIndex := 6, attributes := #[] }])
  fields := #[{ name := "from", type := .int, accessFlags := 18, slot := 1, constantValue := 0 }, { name := "to", type := .int, accessFlags := 18, slot := 2, constantValue := 0 }, { name := "row", type := (.object "java/util/function/IntFunction"), accessFlags := 18, slot := 3, constantValue := 0 }, { name := "this$0", type := (.object "com/example/vestwright/vestwright/ParticipantRows"), accessFlags := 4112, slot := 4, constantValue := 0 }]
  methods := #[k13m0, k13m1]
  instanceTypes := #[.int, .int, .int, (.object "java/util/function/IntFunction"), (.object "com/example/vestwright/vestwright/ParticipantRows")]
  staticTypes := #[]
  resolved := Array.replicate 61 none
  statics := none }

def pool14 : Array CpInfo := pool [(1, u "java/lang/Cloneable"), (0, .class_ 1), (0, u "java/lang/Object"), (0, .class_ 3)] 3

/-- java/lang/Cloneable -/
def k14 : Class := { plain "java/lang/Cloneable" (some 0) with
  accessFlags := 1537
  interfaces := #[]
  cf := some (fileOf pool14 2 #[] #[] 1537 4 #[] #[])
  fields := #[]
  methods := #[]
  instanceTypes := #[]
  staticTypes := #[]
  resolved := Array.replicate 8 none
  statics := none }

def pool15 : Array CpInfo := pool [(1, u "java/io/Serializable"), (0, .class_ 1), (0, u "java/lang/Object"), (0, .class_ 3)] 3

/-- java/io/Serializable -/
def k15 : Class := { plain "java/io/Serializable" (some 0) with
  accessFlags := 1537
  interfaces := #[]
  cf := some (fileOf pool15 2 #[] #[] 1537 4 #[] #[])
  fields := #[]
  methods := #[]
  instanceTypes := #[]
  staticTypes := #[]
  resolved := Array.replicate 8 none
  statics := none }

/-- the primitive byte -/
def k16 : Class := { plain "byte" none with kind := .primitive 'B', accessFlags := 0x411 }
/-- [B -/
def k17 : Class := { plain "[B" (some 0) with kind := .array 16 .byte, interfaces := #[14, 15], accessFlags := 1041 }

/-- the primitive int -/
def k18 : Class := { plain "int" none with kind := .primitive 'I', accessFlags := 0x411 }
/-- [I -/
def k19 : Class := { plain "[I" (some 0) with kind := .array 18 .int, interfaces := #[14, 15], accessFlags := 1041 }

def heap : Heap := #[]
def classes : Array Class := #[k0, k1, k2, k3, k4, k5, k6, k7, k8, k9, k10, k11, k12, k13, k14, k15, k16, k17, k18, k19]
def interned : List (Array UInt16 × Addr) := []
def slotsUsed : Nat := 0
def theMethod : MethodId := ⟨1, 1⟩
def args0 : Array Value := #[.int 3, .long 7, .long 8, .long 9]
def aboutOver (below : List Frame) : State where
  vm := { classes := classes, interned := interned.toArray }
  heap := heap
  slotsUsed := slotsUsed
  threads := #[{ frames := .invoking theMethod args0 :: below }]
def below0 : List Frame := [.native { method := ⟨0, 0⟩, args := #[] }]
def about1 : State := aboutOver below0
def p0 : Program := .bare "" "" ""
def e0 : Env := launch0.env 0 0 0
theorem w_frames : about1.frames = Frame.invoking theMethod args0 :: below0 := rfl
set_option maxRecDepth 65536 in
theorem w_args : argsFit about1.vm theMethod args0 = true := by decide +kernel
set_option maxRecDepth 65536 in
theorem w_heap : heapFits about1 = true := by decide +kernel
set_option maxRecDepth 65536 in
theorem w_runnable : about1.curStatus? = some .runnable := by decide +kernel
set_option maxRecDepth 65536 in
theorem w_alone : about1.alone = true := by decide +kernel
set_option maxRecDepth 65536 in
theorem w_named : about1.methodNamed? x = some theMethod := by decide +kernel
set_option maxRecDepth 65536 in
theorem w_hears : about1.hears theMethod below0 = true := by decide +kernel
set_option maxRecDepth 65536 in
theorem w_ripe : about1.ripe theMethod args0 below0 = true := by decide +kernel
theorem w_running : about1.status = .running := rfl
set_option maxRecDepth 65536 in
theorem w_room : about1.hasRoom e0.platform room_1 = true :=
  launch0.hasRoom_least _ room_1 (by decide +kernel) (by decide +kernel) (by decide +kernel) (by decide +kernel) (by decide +kernel) (by decide +kernel)
theorem allAtoms_all (ts : List Jvm.Cond) (a : Array Jvm.Value) (st : Jvm.State) : (allAtoms ts).before a st = ts.all (fun c => c.before a st) := by
  induction ts with
  | nil => rfl
  | cons c t ih =>
    show (Jvm.Cond.and c (allAtoms t)).before a st = _
    rw [Jvm.Cond.before_and, ih, List.all_cons]
def words1 : List Jvm.Cond := Jvm.Cond.code x code maxLocals ret :: tables_1
/-- a 'code' word, met by the world's own term for the bytes: nothing is compared byte by byte -/
theorem code_word {y : MethodName} {bytes : ByteArray} {mx : Nat} {rt : Option FieldType} {a : Array Value} {s : State} {m : MethodId} {meth : Method} {c : Code} (h1 : s.methodNamed? y = some m) (h2 : s.vm.method? m = some meth) (h3 : meth.code = some c) (h4 : c.code = bytes)
    (h5 : (c.maxLocals == mx && c.exceptionTable.isEmpty && decide (c.maxStack ≤ mostOperands) && decide (meth.sig.returnType = rt) && !meth.locks && decide (parseMethodDescriptor y.desc = some meth.sig)) = true) : (Jvm.Cond.code y bytes mx rt).before a s = true := by
  simp only [Bool.and_eq_true, beq_iff_eq, Bool.not_eq_true', decide_eq_true_eq] at h5
  obtain ⟨⟨⟨⟨⟨g1, g2⟩, g3⟩, g4⟩, g5⟩, g6⟩ := h5
  simp [Cond.before, Cond.holds, Cond.value, h1, h2, h3, h4, g1, g2, g3, g4, g5, g6]
def isCode : Jvm.Cond → Bool
  | .code _ _ _ _ => true
  | _ => false
theorem all_split {L : List Jvm.Cond} {P : Jvm.Cond → Bool} (h1 : L.all (fun c => isCode c || P c) = true) (h2 : ∀ c ∈ L.filter isCode, P c = true) : L.all P = true := by
  refine List.all_eq_true.mpr fun c hc => ?_
  have h := List.all_eq_true.mp h1 c hc
  rcases Bool.eq_false_or_eq_true (isCode c) with hi | hi
  · exact h2 c (List.mem_filter.mpr ⟨hc, hi⟩)
  · simpa [hi] using h
set_option maxRecDepth 65536 in
theorem w_c0 : (Jvm.Cond.code x code maxLocals ret).before args0 about1 = true := code_word (m := ⟨1, 1⟩) (meth := k1m1) (c := k1c1) (by decide +kernel) rfl rfl rfl (by decide +kernel)
set_option maxRecDepth 65536 in
theorem w_c1 : (Jvm.Cond.code ({ cls := "com/example/vestwright/vestwright/ParticipantRows", name := "<init>", desc := "()V" } : Jvm.MethodName) prog_18_method_1_code (1 : Nat) (Option.none : Option Jvm.ClassFile.FieldType)).before args0 about1 = true := code_word (m := ⟨2, 0⟩) (meth := k2m0) (c := k2c0) (by decide +kernel) rfl rfl rfl (by decide +kernel)
set_option maxRecDepth 65536 in
theorem w_c2 : (Jvm.Cond.code ({ cls := "java/lang/Object", name := "<init>", desc := "()V" } : Jvm.MethodName) object_method_1_code (1 : Nat) (Option.none : Option Jvm.ClassFile.FieldType)).before args0 about1 = true := code_word (m := ⟨0, 0⟩) (meth := k0m0) (c := k0c0) (by decide +kernel) rfl rfl rfl (by decide +kernel)
set_option maxRecDepth 65536 in
theorem w_c3 : (Jvm.Cond.code ({ cls := "com/example/vestwright/vestwright/ParticipantRows", name := "group", desc := "(I)V" } : Jvm.MethodName) prog_18_method_4_code (6 : Nat) (Option.none : Option Jvm.ClassFile.FieldType)).before args0 about1 = true := code_word (m := ⟨2, 3⟩) (meth := k2m3) (c := k2c3) (by decide +kernel) rfl rfl rfl (by decide +kernel)
set_option maxRecDepth 65536 in
theorem w_c4 : (Jvm.Cond.code ({ cls := "java/util/Arrays", name := "copyOf", desc := "([II)[I" } : Jvm.MethodName) jdk_65_method_123_code (3 : Nat) (Option.some (Jvm.ClassFile.FieldType.array Jvm.ClassFile.FieldType.int))).before args0 about1 = true := code_word (m := ⟨3, 1⟩) (meth := k3m1) (c := k3c1) (by decide +kernel) rfl rfl rfl (by decide +kernel)
set_option maxRecDepth 65536 in
theorem w_c5 : (Jvm.Cond.code ({ cls := "java/lang/Math", name := "min", desc := "(II)I" } : Jvm.MethodName) jdk_29_method_69_code (2 : Nat) (Option.some Jvm.ClassFile.FieldType.int)).before args0 about1 = true := code_word (m := ⟨4, 2⟩) (meth := k4m2) (c := k4c2) (by decide +kernel) rfl rfl rfl (by decide +kernel)
set_option maxRecDepth 65536 in
theorem w_c6 : (Jvm.Cond.code ({ cls := "com/example/vestwright/vestwright/ParticipantRows", name := "rowsOf", desc := "(ILjava/util/function/IntFunction;)Ljava/util/List;" } : Jvm.MethodName) prog_18_method_5_code (3 : Nat) (Option.some (Jvm.ClassFile.FieldType.object "java/util/List"))).before args0 about1 = true := code_word (m := ⟨2, 4⟩) (meth := k2m4) (c := k2c4) (by decide +kernel) rfl rfl rfl (by decide +kernel)
set_option maxRecDepth 65536 in
theorem w_c7 : (Jvm.Cond.code ({ cls := "com/example/vestwright/vestwright/ParticipantRows$Rows", name := "<init>", desc := "(Lcom/example/vestwright/vestwright/ParticipantRows;IILjava/util/function/IntFunction;)V" } : Jvm.MethodName) prog_19_method_1_code (5 : Nat) (Option.none : Option Jvm.ClassFile.FieldType)).before args0 about1 = true := code_word (m := ⟨13, 0⟩) (meth := k13m0) (c := k13c0) (by decide +kernel) rfl rfl rfl (by decide +kernel)
set_option maxRecDepth 65536 in
theorem w_c8 : (Jvm.Cond.code ({ cls := "java/util/AbstractList", name := "<init>", desc := "()V" } : Jvm.MethodName) jdk_39_method_1_code (1 : Nat) (Option.none : Option Jvm.ClassFile.FieldType)).before args0 about1 = true := code_word (m := ⟨11, 0⟩) (meth := k11m0) (c := k11c0) (by decide +kernel) rfl rfl rfl (by decide +kernel)
set_option maxRecDepth 65536 in
theorem w_c9 : (Jvm.Cond.code ({ cls := "java/util/AbstractCollection", name := "<init>", desc := "()V" } : Jvm.MethodName) jdk_22_method_1_code (1 : Nat) (Option.none : Option Jvm.ClassFile.FieldType)).before args0 about1 = true := code_word (m := ⟨8, 0⟩) (meth := k8m0) (c := k8c0) (by decide +kernel) rfl rfl rfl (by decide +kernel)
set_option maxRecDepth 65536 in
theorem w_c10 : (Jvm.Cond.code ({ cls := "com/example/vestwright/vestwright/ParticipantRows$Rows", name := "size", desc := "()I" } : Jvm.MethodName) prog_19_method_3_code (1 : Nat) (Option.some Jvm.ClassFile.FieldType.int)).before args0 about1 = true := code_word (m := ⟨13, 1⟩) (meth := k13m1) (c := k13c1) (by decide +kernel) rfl rfl rfl (by decide +kernel)
set_option maxRecDepth 65536 in
theorem w_c11 : (Jvm.Cond.code ({ cls := "com/example/vestwright/vestwright/ParticipantRows", name := "add", desc := "(IJ)I" } : Jvm.MethodName) prog_18_method_2_code (5 : Nat) (Option.some Jvm.ClassFile.FieldType.int)).before args0 about1 = true := code_word (m := ⟨2, 1⟩) (meth := k2m1) (c := k2c1) (by decide +kernel) rfl rfl rfl (by decide +kernel)
set_option maxRecDepth 65536 in
theorem w_c12 : (Jvm.Cond.code ({ cls := "java/lang/Math", name := "toIntExact", desc := "(J)I" } : Jvm.MethodName) jdk_29_method_43_code (2 : Nat) (Option.some Jvm.ClassFile.FieldType.int)).before args0 about1 = true := code_word (m := ⟨4, 1⟩) (meth := k4m1) (c := k4c1) (by decide +kernel) rfl rfl rfl (by decide +kernel)
set_option maxRecDepth 65536 in
theorem w_c13 : (Jvm.Cond.code ({ cls := "com/example/vestwright/vestwright/ParticipantRows", name := "line", desc := "(I)J" } : Jvm.MethodName) prog_18_method_3_code (2 : Nat) (Option.some Jvm.ClassFile.FieldType.long)).before args0 about1 = true := code_word (m := ⟨2, 2⟩) (meth := k2m2) (c := k2c2) (by decide +kernel) rfl rfl rfl (by decide +kernel)
def codes1 : List Jvm.Cond := [Jvm.Cond.code x code maxLocals ret, Jvm.Cond.code ({ cls := "com/example/vestwright/vestwright/ParticipantRows", name := "<init>", desc := "()V" } : Jvm.MethodName) prog_18_method_1_code (1 : Nat) (Option.none : Option Jvm.ClassFile.FieldType), Jvm.Cond.code ({ cls := "java/lang/Object", name := "<init>", desc := "()V" } : Jvm.MethodName) object_method_1_code (1 : Nat) (Option.none : Option Jvm.ClassFile.FieldType), Jvm.Cond.code ({ cls := "com/example/vestwright/vestwright/ParticipantRows", name := "group", desc := "(I)V" } : Jvm.MethodName) prog_18_method_4_code (6 : Nat) (Option.none : Option Jvm.ClassFile.FieldType), Jvm.Cond.code ({ cls := "java/util/Arrays", name := "copyOf", desc := "([II)[I" } : Jvm.MethodName) jdk_65_method_123_code (3 : Nat) (Option.some (Jvm.ClassFile.FieldType.array Jvm.ClassFile.FieldType.int)), Jvm.Cond.code ({ cls := "java/lang/Math", name := "min", desc := "(II)I" } : Jvm.MethodName) jdk_29_method_69_code (2 : Nat) (Option.some Jvm.ClassFile.FieldType.int), Jvm.Cond.code ({ cls := "com/example/vestwright/vestwright/ParticipantRows", name := "rowsOf", desc := "(ILjava/util/function/IntFunction;)Ljava/util/List;" } : Jvm.MethodName) prog_18_method_5_code (3 : Nat) (Option.some (Jvm.ClassFile.FieldType.object "java/util/List")), Jvm.Cond.code ({ cls := "com/example/vestwright/vestwright/ParticipantRows$Rows", name := "<init>", desc := "(Lcom/example/vestwright/vestwright/ParticipantRows;IILjava/util/function/IntFunction;)V" } : Jvm.MethodName) prog_19_method_1_code (5 : Nat) (Option.none : Option Jvm.ClassFile.FieldType), Jvm.Cond.code ({ cls := "java/util/AbstractList", name := "<init>", desc := "()V" } : Jvm.MethodName) jdk_39_method_1_code (1 : Nat) (Option.none : Option Jvm.ClassFile.FieldType), Jvm.Cond.code ({ cls := "java/util/AbstractCollection", name := "<init>", desc := "()V" } : Jvm.MethodName) jdk_22_method_1_code (1 : Nat) (Option.none : Option Jvm.ClassFile.FieldType), Jvm.Cond.code ({ cls := "com/example/vestwright/vestwright/ParticipantRows$Rows", name := "size", desc := "()I" } : Jvm.MethodName) prog_19_method_3_code (1 : Nat) (Option.some Jvm.ClassFile.FieldType.int), Jvm.Cond.code ({ cls := "com/example/vestwright/vestwright/ParticipantRows", name := "add", desc := "(IJ)I" } : Jvm.MethodName) prog_18_method_2_code (5 : Nat) (Option.some Jvm.ClassFile.FieldType.int), Jvm.Cond.code ({ cls := "java/lang/Math", name := "toIntExact", desc := "(J)I" } : Jvm.MethodName) jdk_29_method_43_code (2 : Nat) (Option.some Jvm.ClassFile.FieldType.int), Jvm.Cond.code ({ cls := "com/example/vestwright/vestwright/ParticipantRows", name := "line", desc := "(I)J" } : Jvm.MethodName) prog_18_method_3_code (2 : Nat) (Option.some Jvm.ClassFile.FieldType.long)]
set_option maxRecDepth 65536 in
theorem codes_eq : words1.filter isCode = codes1 := rfl
theorem w_codes : ∀ c ∈ words1.filter isCode, c.before args0 about1 = true := by
  rw [codes_eq]
  intro c hc
  simp only [codes1, List.mem_cons, List.not_mem_nil, or_false] at hc
  rcases hc with rfl | rfl | rfl | rfl | rfl | rfl | rfl | rfl | rfl | rfl | rfl | rfl | rfl | rfl
  · exact w_c0
  · exact w_c1
  · exact w_c2
  · exact w_c3
  · exact w_c4
  · exact w_c5
  · exact w_c6
  · exact w_c7
  · exact w_c8
  · exact w_c9
  · exact w_c10
  · exact w_c11
  · exact w_c12
  · exact w_c13
set_option maxRecDepth 65536 in
theorem w_t1 : (words1.take 24).all (fun c => isCode c || c.before args0 about1) = true := by decide +kernel
set_option maxRecDepth 65536 in
theorem w_t2 : ((words1.drop 24).take 24).all (fun c => isCode c || c.before args0 about1) = true := by decide +kernel
set_option maxRecDepth 65536 in
theorem w_t3 : (((words1.drop 24).drop 24).take 24).all (fun c => isCode c || c.before args0 about1) = true := by decide +kernel
set_option maxRecDepth 65536 in
theorem w_t4 : (((words1.drop 24).drop 24).drop 24).all (fun c => isCode c || c.before args0 about1) = true := by decide +kernel
theorem w_tables : (allAtoms (Jvm.Cond.code x code maxLocals ret :: tables_1)).before args0 about1 = true := by
  rw [allAtoms_all]
  show words1.all (fun c => c.before args0 about1) = true
  refine all_split ?_ w_codes
  rw [← List.take_append_drop 24 words1, List.all_append, w_t1, ← List.take_append_drop 24 (words1.drop 24), List.all_append, w_t2, ← List.take_append_drop 24 ((words1.drop 24).drop 24), List.all_append, w_t3, w_t4]
  rfl
set_option maxRecDepth 65536 in
theorem w_case : (Jvm.Cond.and given_1 narrow_1).before args0 about1 = true := by decide +kernel
theorem w_applies : (headSpec (Jvm.Cond.code x code maxLocals ret :: tables_1) room_1).applies x e0.platform about1 = true :=
  (Spec.applies_iff w_frames).mpr ⟨w_running, w_runnable, w_alone, w_named, w_hears, w_ripe, w_room, w_tables⟩
theorem atStart : AtStart classFile x code maxLocals ret World_1 tables_1 room_1 Calls_1 rest_1 Pre_1 launch0 p0 e0 about1 theMethod args0 below0 :=
  ⟨lists_1, trivial, launch0.admits_env _ _ _, launch0.least_env, fairChoices_fair.cas, fairChoices_fair.clock, w_frames, w_args, w_heap, w_applies, trivial, trivial, w_case⟩
end start1
theorem witness_1 : WitnessClaimed_1 := ⟨start1.p0, start1.e0, start1.about1, start1.theMethod, start1.args0, start1.below0, start1.atStart⟩
end Jvm.Pilot.@@N@@
