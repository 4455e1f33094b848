import JvmDerived
import JvmDerived.Pilot.@@N@@Statement
import JvmDerived.Pilot.@@N@@Code
set_option linter.unusedVariables false
set_option linter.unusedSimpArgs false
namespace Jvm.RoadKit
open Sem ClassFile Op Lib Jvm.Stand Jvm.Free Jvm.LawKit
section New
variable {p : Program} {l : Launch} {e : Env} {R : Room} {s : State} {m : MethodId} {args : Array Value} {below : List Frame} {meth : Method} {c : Code} {T : State} {locs : List Loc} {cells slots : Nat}
theorem retI (X : Stand p l e R s m args below meth c T locs cells slots) (hx : p.tables.exec = Jvm.exec) {pc : Nat} {Ls : Array Slot} {z : Int32} {rest : List Value} (hret : meth.sig.returnType = some .int) (hd : decode c.code pc = .ok (.ireturn, 1)) {fs : List Frame}
    (hl : ∀ (f : JFrame) (acts : List Action), f.method = m → f.locked = none → f.entered = [] → (doReturn e (T.setTop f) acts (some (.int z))).1 = T.setFrames fs) : Steps p.tables e below (T.setTop (mkF m pc Ls (.int z :: rest))) (T.setFrames fs) := by
  have hm' : T.vm.method? m = some meth := X.method'
  have hn : narrow .int (.int z) = .int z := rfl
  show Steps p.tables e below (T.setTop { method := m, pc := pc, locals := Ls, stack := _ :: rest, locked := none }) _
  jvm_step X.here [X.here.top, hx, hd, hm', hret, hn]
  first | (intro acts; rw [hl _ acts rfl rfl rfl]) | rw [hl _ _ rfl rfl rfl]
  exact Steps.refl _
end New
end Jvm.RoadKit
namespace Jvm.Pilot.@@N@@
open Jvm Jvm.ClassFile Sem Op Lib Jvm.Free Jvm.Stand Jvm.LawKit Jvm.RoadKit Bundle Jvm.Pilot.@@N@@.Jvm.D
theorem own_b10n {P : Prop} [Decidable P] (h : P) : ¬ (if P then (1 : Int32) else 0) = 0 := by rw [if_pos h]; decide
theorem own_b10z {P : Prop} [Decidable P] (h : ¬ P) : (if P then (1 : Int32) else 0) = 0 := if_neg h
theorem own_b01z {P : Prop} [Decidable P] (h : P) : (if P then (0 : Int32) else 1) = 0 := if_pos h
theorem own_b01n {P : Prop} [Decidable P] (h : ¬ P) : ¬ (if P then (0 : Int32) else 1) = 0 := by rw [if_neg h]; decide
theorem own_nb10 {P : Prop} [Decidable P] : nar .boolean (if P then (1 : Int32) else 0) = (if P then (1 : Int32) else 0) := by by_cases h : P <;> simp [h, nar]
theorem own_nb01 {P : Prop} [Decidable P] : nar .boolean (if P then (0 : Int32) else 1) = (if P then (0 : Int32) else 1) := by by_cases h : P <;> simp [h, nar]
theorem own_selP {Z s : State} {a0 args : Array Value} {y : MethodName} {n : Nat} (hZ : Z.Warmed39 s.vm) (wi : (Jvm.Cond.instantiable y.cls n).before a0 Z = true) (wp : (Jvm.Cond.privateMethod y).before a0 Z = true) (wm : (Jvm.Cond.instanceMethod y).before a0 Z = true)
    (hy : y.cls ≠ "java/lang/invoke/MethodHandle" ∧ y.cls ≠ "java/lang/invoke/VarHandle") : (Jvm.Cond.selects y.cls y y).before args s = true := by
  obtain ⟨c, k, hc, hk, -, hf, -⟩ := Cond.instantiable_spec (mv hZ wi (args := args))
  have hi : k.isInterface = false := by
    cases q : k.isInterface
    · rfl
    · simp [q] at hf
  exact Jvm.Stand.selects_self_of_private hc hk hi (Cond.privateMethod_at (mvP hZ wp (args := args))) (mv hZ wm) hy
theorem own_one (i : Nat) : Int32.ofNat i + (1 : Int32) = Int32.ofNat (i + 1) := (Int32.ofNat_add i 1).symm
def own_list (g : Nat → Value) (i : Nat) : List Value := (List.range i).map g
theorem own_len (g : Nat → Value) (i : Nat) : (own_list g i).length = i := by simp [own_list]
theorem own_at (g : Nat → Value) {i j : Nat} (h : j < i) (d : Value) : (own_list g i).getD j d = g j := by simp [own_list, List.getD_eq_getElem?_getD, h]
theorem own_setl (g : Nat → Value) (i : Nat) (x : Value) : (own_list g i ++ [x]).set i (g i) = own_list g (i + 1) := by
  have h := own_len g i
  have e : (own_list g i ++ [x]).set (own_list g i).length (g i) = own_list g i ++ [g i] := by simp
  rw [h] at e
  rw [e]; simp [own_list, List.range_succ]
theorem own_il {i : Nat} (h : i < 2147483648) : (Int32.ofNat i).toInt = i := Int32.toInt_ofNat_of_lt h
theorem own_in {i : Nat} (h : i < 2147483648) : ¬ Int32.ofNat i < 0 := by
  rw [Int32.lt_iff_toInt_lt, own_il h, show (0 : Int32).toInt = 0 from rfl]; omega
theorem own_ic {i : Nat} (h : i < 2147483648) : (Int32.ofNat i).toNatClampNeg = i := by
  rw [Int32.toNatClampNeg, own_il h]; rfl
section OwnDia
variable {tb : Tables} [Ours tb] {e : Env} {below : List Frame} {T target : State} {m : MethodId} {c : Code} {g : JFrame}
/-- a boolean written out: if .. goto the 0; 1; goto behind; 0 -/
theorem own_dia (h : At T m c below) (hx : tb.exec = Jvm.exec) (hg : g.method = m) {pc0 : Nat} {P : Prop} [Decidable P] {u w : Int32} {rest : List Value} (huw : u = 0 ∧ w = 1 ∨ u = 1 ∧ w = 0)
    (hd1 : decode c.code (pc0 + 3) = .ok (.iconst 1, 1)) (hd2 : decode c.code (pc0 + 4) = .ok (.goto 4, 3)) (hd3 : decode c.code (pc0 + 7) = .ok (.iconst 0, 1))
    (s1 : ∀ t, (P ∧ u = 0 ∨ ¬ P ∧ w = 0) → Steps tb e below (T.setTop { g with pc := pc0 + 7, stack := rest }) t → Steps tb e below (T.setTop g) t)
    (s2 : ∀ t, (P ∧ u = 1 ∨ ¬ P ∧ w = 1) → Steps tb e below (T.setTop { g with pc := pc0 + 3, stack := rest }) t → Steps tb e below (T.setTop g) t)
    (hr : Steps tb e below (T.setTop { g with pc := pc0 + 8, stack := .int (if P then u else w) :: rest }) target) : Steps tb e below (T.setTop g) target := by
  have z : (if P then u else w) = 0 → (P ∧ u = 0 ∨ ¬ P ∧ w = 0) := fun q => by
    by_cases hp : P
    · rw [if_pos hp] at q; exact Or.inl ⟨hp, q⟩
    · rw [if_neg hp] at q; exact Or.inr ⟨hp, q⟩
  have o : (if P then u else w) = 1 → (P ∧ u = 1 ∨ ¬ P ∧ w = 1) := fun q => by
    by_cases hp : P
    · rw [if_pos hp] at q; exact Or.inl ⟨hp, q⟩
    · rw [if_neg hp] at q; exact Or.inr ⟨hp, q⟩
  have b : (if P then u else w) = 0 ∨ (if P then u else w) = 1 := by
    rcases huw with ⟨rfl, rfl⟩ | ⟨rfl, rfl⟩ <;> by_cases hp : P <;> simp [hp]
  rcases b with q | q
  · refine s1 _ (z q) ?_
    refine Free.XS.iconst h hx hg hd3 ?_
    rw [q] at hr
    exact hr
  · refine s2 _ (o q) ?_
    refine Free.XS.iconst h hx hg hd1 ?_
    refine Free.XS.goto h hx hg (pc0 := pc0 + 4) (pc' := pc0 + 8) rfl hd2 (by omega) (by omega) ?_
    rw [q] at hr
    exact hr
theorem own_diaT (h : At T m c below) (hx : tb.exec = Jvm.exec) (hg : g.method = m) {pc0 : Nat} (hpc : g.pc = pc0) {P : Prop} [Decidable P] {cd : ClassFile.Cond} {x : Int32} {rest : List Value}
    (hd0 : decode c.code pc0 = .ok (.ifCond cd 7, 3)) (hd1 : decode c.code (pc0 + 3) = .ok (.iconst 1, 1)) (hd2 : decode c.code (pc0 + 4) = .ok (.goto 4, 3)) (hd3 : decode c.code (pc0 + 7) = .ok (.iconst 0, 1))
    (hs : g.stack = .int x :: rest) (hy : P → ifCond.holds cd x = true) (hn : ¬ P → ifCond.holds cd x = false)
    (hr : Steps tb e below (T.setTop { g with pc := pc0 + 8, stack := .int (if P then (0 : Int32) else 1) :: rest }) target) : Steps tb e below (T.setTop g) target := by
  subst hpc
  refine own_dia h hx hg (P := P) (u := 0) (w := 1) (rest := rest) (Or.inl ⟨rfl, rfl⟩) hd1 hd2 hd3 (fun t q k => ?_) (fun t q k => ?_) hr
  · have hp : P := q.elim (·.1) fun z => absurd z.2 (by decide)
    exact Free.XS.ifYes h hx hg (pc' := g.pc + 7) rfl hd0 hs (hy hp) (by omega) (by omega) k
  · have hp : ¬ P := q.elim (fun z => absurd z.2 (by decide)) (·.1)
    exact Free.XS.ifNo h hx hg hd0 hs (hn hp) k
theorem own_diaF (h : At T m c below) (hx : tb.exec = Jvm.exec) (hg : g.method = m) {pc0 : Nat} (hpc : g.pc = pc0) {P : Prop} [Decidable P] {cd : ClassFile.Cond} {x : Int32} {rest : List Value}
    (hd0 : decode c.code pc0 = .ok (.ifCond cd 7, 3)) (hd1 : decode c.code (pc0 + 3) = .ok (.iconst 1, 1)) (hd2 : decode c.code (pc0 + 4) = .ok (.goto 4, 3)) (hd3 : decode c.code (pc0 + 7) = .ok (.iconst 0, 1))
    (hs : g.stack = .int x :: rest) (hy : P → ifCond.holds cd x = false) (hn : ¬ P → ifCond.holds cd x = true)
    (hr : Steps tb e below (T.setTop { g with pc := pc0 + 8, stack := .int (if P then (1 : Int32) else 0) :: rest }) target) : Steps tb e below (T.setTop g) target := by
  subst hpc
  refine own_dia h hx hg (P := P) (u := 1) (w := 0) (rest := rest) (Or.inr ⟨rfl, rfl⟩) hd1 hd2 hd3 (fun t q k => ?_) (fun t q k => ?_) hr
  · have hp : ¬ P := q.elim (fun z => absurd z.2 (by decide)) (·.1)
    exact Free.XS.ifYes h hx hg (pc' := g.pc + 7) rfl hd0 hs (hn hp) (by omega) (by omega) k
  · have hp : P := q.elim (·.1) fun z => absurd z.2 (by decide)
    exact Free.XS.ifNo h hx hg hd0 hs (hy hp) k
theorem own_diaT2 (h : At T m c below) (hx : tb.exec = Jvm.exec) (hg : g.method = m) {pc0 : Nat} (hpc : g.pc = pc0) {P : Prop} [Decidable P] {cd : ClassFile.Cond} {x y : Int32} {rest : List Value}
    (hd0 : decode c.code pc0 = .ok (.if_icmp cd 7, 3)) (hd1 : decode c.code (pc0 + 3) = .ok (.iconst 1, 1)) (hd2 : decode c.code (pc0 + 4) = .ok (.goto 4, 3)) (hd3 : decode c.code (pc0 + 7) = .ok (.iconst 0, 1))
    (hs : g.stack = .int y :: .int x :: rest) (hy : P → if_icmp.holds cd x y = true) (hn : ¬ P → if_icmp.holds cd x y = false)
    (hr : Steps tb e below (T.setTop { g with pc := pc0 + 8, stack := .int (if P then (0 : Int32) else 1) :: rest }) target) : Steps tb e below (T.setTop g) target := by
  subst hpc
  refine own_dia h hx hg (P := P) (u := 0) (w := 1) (rest := rest) (Or.inl ⟨rfl, rfl⟩) hd1 hd2 hd3 (fun t q k => ?_) (fun t q k => ?_) hr
  · have hp : P := q.elim (·.1) fun z => absurd z.2 (by decide)
    exact Free.XS.icmpYes h hx hg (pc' := g.pc + 7) rfl hd0 hs (hy hp) (by omega) (by omega) k
  · have hp : ¬ P := q.elim (fun z => absurd z.2 (by decide)) (·.1)
    exact Free.XS.icmpNo h hx hg hd0 hs (hn hp) k
theorem own_diaF2 (h : At T m c below) (hx : tb.exec = Jvm.exec) (hg : g.method = m) {pc0 : Nat} (hpc : g.pc = pc0) {P : Prop} [Decidable P] {cd : ClassFile.Cond} {x y : Int32} {rest : List Value}
    (hd0 : decode c.code pc0 = .ok (.if_icmp cd 7, 3)) (hd1 : decode c.code (pc0 + 3) = .ok (.iconst 1, 1)) (hd2 : decode c.code (pc0 + 4) = .ok (.goto 4, 3)) (hd3 : decode c.code (pc0 + 7) = .ok (.iconst 0, 1))
    (hs : g.stack = .int y :: .int x :: rest) (hy : P → if_icmp.holds cd x y = false) (hn : ¬ P → if_icmp.holds cd x y = true)
    (hr : Steps tb e below (T.setTop { g with pc := pc0 + 8, stack := .int (if P then (1 : Int32) else 0) :: rest }) target) : Steps tb e below (T.setTop g) target := by
  subst hpc
  refine own_dia h hx hg (P := P) (u := 1) (w := 0) (rest := rest) (Or.inr ⟨rfl, rfl⟩) hd1 hd2 hd3 (fun t q k => ?_) (fun t q k => ?_) hr
  · have hp : ¬ P := q.elim (fun z => absurd z.2 (by decide)) (·.1)
    exact Free.XS.icmpYes h hx hg (pc' := g.pc + 7) rfl hd0 hs (hn hp) (by omega) (by omega) k
  · have hp : P := q.elim (·.1) fun z => absurd z.2 (by decide)
    exact Free.XS.icmpNo h hx hg hd0 hs (hy hp) k
end OwnDia

section OwnRef
variable {p : Program} {l : Launch} {e : Env} {R : Room} {s : State} {m : MethodId} {args : Array Value} {below : List Frame} {meth : Method} {c : Code} {T : State} {locs : List Loc} {cells slots : Nat} {Z : State} {a0 : Array Value} {h h' : Heap}
/-- an entry that the sheet says is resolved is ready where the walk stands -/
theorem own_ready (X : Stand p l e R s m args below meth c T locs cells slots) (hZ : Z.Warmed39 s.vm) {own R0 O n d : String} {index : Nat} (hown : s.vm.findClass own = some m.cls) (w : (Jvm.Cond.fieldRef own index R0 n d).before a0 Z = true) (via : Via Z R0 O n d) {cf i : Nat} {k : Class} {f : Field}
    (h2 : Z.fieldFound? O n d = some (cf, k, i, f)) : T.vm.fieldReady m.cls index cf f := by
  have hU : Z.Warmed39 T.vm := wtrans hZ X.warmed
  have w' := Cond.fieldRef_warmed39 hU w
  have hc : (Z.setVm T.vm).vm.findClass own = some m.cls := by
    show T.vm.findClass own = some m.cls
    rw [hU.alike.findClass, ← hZ.alike.findClass]; exact hown
  obtain ⟨c2, k2, i2, f2, hi2, hready⟩ := Cond.fieldRef_spec (s := Z.setVm T.vm) hc w'
  obtain ⟨k', hi, -⟩ := State.fieldFound?_setVm (s := Z) hU.alike (via _ h2)
  cases hi.symm.trans hi2
  exact hready
theorem own_getFR (X : Stand p l e R s m args below meth c T locs cells slots) (hx : p.tables.exec = Jvm.exec) (hZ : Z.Warmed39 s.vm) {own R0 O n d : String} {index : Nat} (hown : s.vm.findClass own = some m.cls) (w : (Jvm.Cond.fieldRef own index R0 n d).before a0 Z = true) (via : Via Z R0 O n d)
    (eT : T.heap = h) {a : Addr} {v : Value} (F : Fld Z h a O n d v) {g : JFrame} (hg : g.method = m) {rest : List Value} (hs : g.stack = .ref a :: rest) (hd : decode c.code g.pc = .ok (.getfield index, 3)) :
    ∃ T', Stand p l e R s m args below meth c T' locs cells slots ∧ T'.heap = h ∧ ∀ target, Steps p.tables e below (T'.setTop { g with pc := g.pc + 3, stack := v :: rest }) target → Steps p.tables e below (T.setTop g) target := by
  obtain ⟨cell, cf, k, i, f, h1, h2, h3, h4, -, -, h7⟩ := F
  have hready := own_ready X hZ hown w via h2
  refine ⟨T, X, eT, fun target hrest => ?_⟩
  subst hg
  jvm_step X.here [hx, hd, getfield.wp_ready (e := e) (s := T) (f := g) X.here.top hready h3 hs (show T.heap[a]? = some cell by rw [eT]; exact h1) h4 h7]
  exact hrest
theorem own_putFR (X : Stand p l e R s m args below meth c T locs cells slots) (hx : p.tables.exec = Jvm.exec) (hZ : Z.Warmed39 s.vm) {own R0 O n d C : String} {index kk : Nat} {ty : FieldType} (hown : s.vm.findClass own = some m.cls) (w : (Jvm.Cond.fieldRef own index R0 n d).before a0 Z = true) (via : Via Z R0 O n d)
    (eT : T.heap = h) {a : Addr} {v old : Value} (F : Fld Z h a O n d old) (E : Exa Z h a C) (L : (Jvm.Cond.lays C O n d).before a0 Z = true ∨ ((Jvm.Cond.laysFinal C O n d).before a0 Z = true ∧ own = O ∧ meth.name = "<init>")) (wi : (Jvm.Cond.instantiable C kk).before a0 Z = true)
    (hty : parseFieldDescriptor d = some ty) (hn : narrow ty v = v) (hf : fits ty v = true) (hin : meth.name ≠ "<init>") {g : JFrame} (hg : g.method = m) {rest : List Value} (hs : g.stack = v :: .ref a :: rest) (hd : decode c.code g.pc = .ok (.putfield index, 3)) :
    ∃ T' h', Stand p l e R s m args below meth c T' (locs ++ [⟨a, Jvm.RoadKit.slotOf Z O n d⟩]) cells slots ∧ T'.heap = h' ∧ Wr h h' a (Jvm.RoadKit.slotOf Z O n d) v ∧ ∀ target, Steps p.tables e below (T'.setTop { g with pc := g.pc + 3, stack := rest }) target → Steps p.tables e below (T.setTop g) target := by
  obtain ⟨cell, cf, k, i, f, h1, h2, h3, h4, h5, -, h7⟩ := F
  obtain ⟨cell', kc, e1, e2, e3, -⟩ := E
  cases h1.symm.trans e1
  replace L : (Jvm.Cond.lays C O n d).before a0 Z = true := L.elim id fun q => absurd q.2.2 hin
  obtain ⟨c1, k1, cf1, kf1, i1, f1, a1, a2, a3, -, -, a6, -⟩ := Laid.spec (Z := Z) (a0 := a0) (Or.inl L)
  cases h2.symm.trans a3
  cases e2.symm.trans a1
  obtain ⟨c2, k2, i1, i2, i3, -⟩ := Cond.instantiable_spec wi
  cases e2.symm.trans i1
  cases a2.symm.trans i2
  have ht := (State.fieldFound?_type h2 hty).2
  have hU : Z.Warmed39 T.vm := wtrans hZ X.warmed
  have hfit : Z.fitsSlot cell.cls cell.vm f.slot v = true := by
    have q : Z.slotType? cell.cls cell.vm f.slot = some ty := by
      simp only [State.slotType?, a2, Option.bind_eq_bind, Option.bind_some, i3]
      cases hq : cell.vm <;> first | (rw [hq] at h5; exact Bool.noConfusion h5) | (rw [a6, ht])
    simp [State.fitsSlot, q, hf]
  have hfit' : T.fitsSlot cell.cls cell.vm f.slot v = true := by rw [← State.fitsSlot_setVm hU.alike] at hfit; exact hfit
  have hfin : hasFlag f.accessFlags Acc.final = false := by
    obtain ⟨_, _, _, _, _, _, -, -, b3, -, b5, -⟩ := Cond.lays_spec L
    cases h2.symm.trans b3
    exact b5
  have hready := own_ready X hZ hown w via h2
  have hlt := (Array.getElem?_eq_some_iff.mp h7).1
  have es : Jvm.RoadKit.slotOf Z O n d = f.slot := by simp [Jvm.RoadKit.slotOf, h2]
  rw [es]
  obtain ⟨X', st⟩ := X.putfieldReady hx hready h3 (Or.inl hfin) (by rw [eT]; exact h1) h4 hlt (by rw [ht]; exact hn) hfit' hg hs hd
  exact ⟨_, _, X', rfl, ⟨cell, h1, h5, hlt, by rw [← eT]; rfl⟩, st⟩
theorem own_mvRef {y : MethodName} {own : String} {index : Nat} (hZ : Z.Warmed39 s.vm) (w : (Jvm.Cond.methodRef own index y).before a0 Z = true) (wi : (Jvm.Cond.instanceMethod y).before a0 Z = true) (hy : y.cls ≠ "java/lang/invoke/MethodHandle" ∧ y.cls ≠ "java/lang/invoke/VarHandle") : (Jvm.Cond.methodRef own index y).before args s = true := by
  obtain ⟨obj, methO, hnO, -⟩ := Cond.instanceMethod_spec wi
  exact (Cond.methodRef_warmed39 hZ hnO hy w :)
theorem own_mvMN {y : MethodName} {own host : String} {index : Nat} (hZ : Z.Warmed39 s.vm) (w : (Jvm.Cond.methodLinkNest own index y host).before a0 Z = true) : (Jvm.Cond.methodLinkNest own index y host).before args s = true := (Cond.methodLinkNest_wide hZ w :)
/-- a constructor by its contract, through an entry that is resolved already -/
theorem own_specialBackR (X : Stand p l e R s m args below meth c T locs cells slots) (hexec : p.tables.exec = Jvm.exec) {own : String} {index : Nat} {y : MethodName} (hy1 : y.name = "<init>")
    (hown : s.vm.findClass own = some m.cls) (hlink : (Jvm.Cond.methodRef own index y).before args s = true) (hinst : (Jvm.Cond.instanceMethod y).before args s = true)
    {bytes : ByteArray} {maxL : Nat} (hcode : (Jvm.Cond.code y bytes maxL none).before args s = true)
    (hy : y.cls ≠ "java/lang/invoke/MethodHandle" ∧ y.cls ≠ "java/lang/invoke/VarHandle")
    {W : Nat} {Pre : Pt → Array Value → Prop} {Post : Pt → Array Value → Option Value → Pt → Prop} (hK : Back l R p e below s args y 3 W Pre Post)
    {g : JFrame} (hg : g.method = m) (hsize : g.locals.size = c.maxLocals) {s₀ : State} (hcome : Steps p.tables e below s₀ (T.setTop g)) {a : Addr} {argsL rest : List Value}
    (hlen : ∀ sig, parseMethodDescriptor y.desc = some sig → argsL.length = sig.parameters.length) (hstack : g.stack = argsL.reverse ++ .ref a :: rest) (hW : 2 * g.monitorRoom + (rest.map fun v => v.category).sum ≤ W)
    (hdg : decode c.code g.pc = .ok (.invokespecial index, 3)) (hpre : ∀ vm₁, s.WarmedH vm₁ → Pre ⟨T.setVm vm₁, locs, cells, slots⟩ (.ref a :: argsL).toArray) :
    ∃ (v : Option Value) (vm₁ : Vm) (B : Pt), s.WarmedH vm₁ ∧ Stand p l e R s m args below meth c B.U B.locs B.cells B.slots ∧ Post ⟨T.setVm vm₁, locs, cells, slots⟩ (.ref a :: argsL).toArray v B ∧
      Steps p.tables e below s₀ (B.U.setTop { g with pc := g.pc + 3, stack := v.toList ++ rest }) := by
  obtain ⟨obj, methO, hnO, hmO, hstO, habO⟩ := Cond.instanceMethod_spec hinst
  obtain ⟨methO', cO, hmO', hcO, hbO, hlO, -, hlockO, -, hsigO⟩ := Cond.code_spec hnO hcode
  cases hmO.symm.trans hmO'
  obtain ⟨kO, hkO, hnameO⟩ := className_of_methodNamed hnO
  obtain ⟨hnameMO, hdescO⟩ := name_of_methodNamed hnO hmO
  have hT : s.WarmedH T.vm := X.warmed
  have hlink' := Cond.methodRef_warmed hT hnO hy hlink
  obtain ⟨mf, c', hfound, hreadyM, hcls, hnamed⟩ := Cond.methodRef_named (s := s.setVm T.vm) e (cur := m.cls) (by show T.vm.findClass own = some m.cls; rw [hT.alike.findClass]; exact hown) hlink'
  have hf2 : (s.setVm T.vm).methodFound? y.cls y.name y.desc = some obj := by
    rw [State.methodFound?_setVm_of_named hT.alike hnO hy]; exact State.methodFound?_of_named hnO hy
  cases hfound.symm.trans hf2
  have hc' : c' = obj.cls := by
    have q1 : T.vm.findClass y.cls = some c' := hcls
    rw [hT.alike.findClass] at q1
    exact Option.some.inj (q1.symm.trans (findClass_of_methodNamed hnO))
  subst hc'
  obtain ⟨kO₂, hkO₂, heO₂⟩ := hT.alike.2.2 _ _ hkO
  have hmO₂ : T.vm.method? obj = some methO := by rw [hT.alike.method?]; exact hmO
  have hlook : lookupSpecial T.vm obj.cls "<init>" methO.desc = .method obj := by
    rw [hT.alike.lookupSpecial, hdescO, ← hy1]; exact lookupSpecial_of_named hnO hmO hstO
  have step : ∀ target, (∀ acts, Steps p.tables e below (doInvoke e (T.setTop { g with stack := rest }) acts obj (.ref a :: argsL).toArray).1 target) → Steps p.tables e below (T.setTop g) target := fun target hrest => by
    subst hg
    jvm_step X.here [hexec, hdg, invokespecial.wp_init (e := e) (s := T) (k := kO₂) (meth := methO) (m := obj) (a := a) (args := argsL) (rest := rest) (f := g)
      X.here.top hnamed hreadyM hkO₂ hmO₂ (by rw [hnameMO]; exact hy1) hstO habO hlook (hlen _ hsigO) hstack]
    exact hrest
  have X₁ : Stand p l e R s m args below meth c (T.setVm T.vm) locs cells slots := X
  obtain ⟨v, B, X', hpost, hsteps⟩ := hK m meth c ⟨T.setVm T.vm, locs, cells, slots⟩ { g with stack := rest } (.invokespecial index) obj (.ref a :: argsL).toArray X₁ hg hsize hdg hW (X₁.named hnO) (hpre T.vm hT)
  exact ⟨v, T.vm, B, hT, X', hpost, (hcome.trans (step _ fun acts => by rw [doInvoke_state]; exact Steps.refl _)).trans hsteps⟩
/-- a nest mate's private method by its contract -/
theorem own_privateBackN (X : Stand p l e R s m args below meth c T locs cells slots) (hexec : p.tables.exec = Jvm.exec) {own host : String} {index : Nat} {y : MethodName} {bytes : ByteArray} {maxL : Nat} {ret : Option FieldType}
    (hown : s.vm.findClass own = some m.cls) (hlink : (Jvm.Cond.methodLinkNest own index y host).before args s = true) (hinst : (Jvm.Cond.instanceMethod y).before args s = true) (hsel : (Jvm.Cond.selects y.cls y y).before args s = true)
    (hpriv : s.PrivateAt y) (hcode : (Jvm.Cond.code y bytes maxL ret).before args s = true) (hy : y.cls ≠ "java/lang/invoke/MethodHandle" ∧ y.cls ≠ "java/lang/invoke/VarHandle")
    {W : Nat} {Pre : Free.Pt → Array Value → Prop} {Post : Free.Pt → Array Value → Option Value → Free.Pt → Prop} (hK : Free.Back l R p e below s args y 3 W Pre Post)
    {g : JFrame} (hg : g.method = m) (hsize : g.locals.size = c.maxLocals) {s₀ : State} (hcome : Steps p.tables e below s₀ (T.setTop g)) {a : Addr} {cell : Cell} (hcell : T.heap[a]? = some cell) (hobj : ∀ q, cell.vm ≠ .statics q)
    {argsL rest : List Value} (hlen : ∀ sig, parseMethodDescriptor y.desc = some sig → argsL.length = sig.parameters.length)
    (hstack : g.stack = argsL.reverse ++ .ref a :: rest) (hW : 2 * g.monitorRoom + (rest.map fun v => v.category).sum ≤ W) (hdg : decode c.code g.pc = .ok (.invokevirtual index, 3))
    (hpre : ∀ vm₁, s.WarmedH vm₁ → Pre ⟨T.setVm vm₁, locs, cells, slots⟩ (.ref a :: argsL).toArray) :
    ∃ (v : Option Value) (vm₁ : Vm) (B : Free.Pt), s.WarmedH vm₁ ∧ Stand p l e R s m args below meth c B.U B.locs B.cells B.slots ∧ Post ⟨T.setVm vm₁, locs, cells, slots⟩ (.ref a :: argsL).toArray v B ∧
      Steps p.tables e below s₀ (B.U.setTop { g with pc := g.pc + 3, stack := v.toList ++ rest }) := by
  obtain ⟨mk, methM, hnamed, hmethM, hstM, habM⟩ := Cond.instanceMethod_spec hinst
  obtain ⟨methM', cM, hmethM', -, -, -, -, -, -, hsigM⟩ := Cond.code_spec hnamed hcode
  cases hmethM.symm.trans hmethM'
  obtain ⟨c2, r2, m2, -, -, q3, -, kP, hkP, hkPi⟩ := Cond.selects_spec hsel
  cases hnamed.symm.trans q3
  have hselP : selectMethod e.platform s.vm cell.cls mk = .method mk := selectMethod_private hmethM (hpriv mk methM hnamed hmethM)
  obtain ⟨vm₁, X₁, hstep₁⟩ := X.invokevirtualNest hexec hown hlink hnamed hmethM hstM hkP hkPi hy (a := a) (cell := cell) hcell hobj hselP hmethM habM hkP hkPi (g := g) hg (argsL := argsL) (rest := rest) (hlen _ hsigM) hstack hdg
  have hW₁ : s.WarmedH vm₁ := X₁.warmed
  obtain ⟨v, B, X', hpost, hsteps⟩ := hK m meth c ⟨T.setVm vm₁, locs, cells, slots⟩ { g with stack := rest } (.invokevirtual index) mk (.ref a :: argsL).toArray X₁ hg hsize hdg hW (X₁.named hnamed) (hpre vm₁ hW₁)
  exact ⟨v, vm₁, B, hW₁, X', hpost, (hcome.trans (hstep₁ _ fun acts => by rw [doInvoke_state]; exact Steps.refl _)).trans hsteps⟩
/-- the cell at a bears the monitor mo -/
def own_Mo (h : Heap) (a : Addr) (mo : Monitor) : Prop := ∃ c : Cell, h[a]? = some c ∧ c.monitor = mo
theorem own_Mo.ofU {a : Addr} (U : ∃ cell : Cell, h[a]? = some cell ∧ cell.vm = .none ∧ cell.monitor = {}) : own_Mo h a {} := by obtain ⟨c, h1, -, h2⟩ := U; exact ⟨c, h1, h2⟩
theorem own_Mo.ext {a : Addr} {mo : Monitor} (F : own_Mo h a mo) (E : Ext h h') : own_Mo h' a mo := by obtain ⟨c, h1, h2⟩ := F; exact ⟨c, E.2 _ _ h1, h2⟩
theorem own_Mo.keep {a : Addr} {mo : Monitor} {ws : List Addr} (F : own_Mo h a mo) (K : Keep h h' ws) (q : a ∉ ws) : own_Mo h' a mo := by obtain ⟨c, h1, h2⟩ := F; exact ⟨c, K.2.1 _ _ h1 q, h2⟩
theorem own_Mo.wr {a b : Addr} {mo : Monitor} {sl : Nat} {v : Value} (F : own_Mo h a mo) (W : Wr h h' b sl v) : own_Mo h' a mo := by
  obtain ⟨c, h1, h2⟩ := F
  obtain ⟨cb, k1, -, -, -, k5, -, k7⟩ := wr_at W h1
  by_cases q : a = b
  · obtain ⟨k8, -⟩ := k7 q
    exact ⟨cb, k1, by rw [k8]; exact h2⟩
  · exact ⟨cb, k1, by rw [k5 q]; exact h2⟩
theorem own_keep_mon {a : Addr} {cl : Cell} (mo : Monitor) (hc : h[a]? = some cl) : Keep h (h.setIfInBounds a { cl with monitor := mo }) [a] := by
  have hlt := (Array.getElem?_eq_some_iff.mp hc).1
  refine ⟨by simp, fun x c q r => ?_, fun x c q => ?_⟩
  · have hne : a ≠ x := fun z => r (by rw [z]; exact List.mem_singleton.mpr rfl)
    rw [Array.getElem?_setIfInBounds_ne hne]; exact q
  · by_cases z : a = x
    · subst z
      cases hc.symm.trans q
      exact ⟨{ cl with monitor := mo }, by simp [hlt], rfl, rfl, rfl⟩
    · exact ⟨c, by rw [Array.getElem?_setIfInBounds_ne z]; exact q, rfl, rfl, rfl⟩
def own_held (t : ThreadId) : Monitor := { owner := some t, count := 1, waitSet := [] }
theorem own_set_at {a : Addr} {cl : Cell} (mo : Monitor) (hc : h[a]? = some cl) : own_Mo (h.setIfInBounds a { cl with monitor := mo }) a mo := ⟨{ cl with monitor := mo }, by simp [(Array.getElem?_eq_some_iff.mp hc).1], rfl⟩
theorem own_left0 (c : Cell) : c.left = if c.monitor.count ≤ 1 then { c with monitor := { c.monitor with owner := none, count := 0 } } else { c with monitor := { c.monitor with count := c.monitor.count - 1 } } := rfl
theorem own_left {c : Cell} {t : ThreadId} (q : c.monitor = own_held t) : c.left = { c with monitor := {} } := by
  rw [own_left0, q]; rfl
theorem own_entry {c : Cell} {t : ThreadId} (q : c.monitor = {}) : c.withEntry t = { c with monitor := own_held t } := by
  show ({ c with monitor := { c.monitor with owner := some t, count := c.monitor.count + 1 } } : Cell) = _
  rw [q]; rfl
theorem own_sync (Lk : meth.locks = false) {nm : String} (hn : meth.name = nm) (hq : nm ≠ "<clinit>") : meth.isSynchronized = false := by
  have q : (meth.isSynchronized && meth.name != "<clinit>") = false := Lk
  rw [hn] at q
  have hb : (nm != "<clinit>") = true := by simpa using hq
  rw [hb, Bool.and_true] at q
  exact q
theorem own_retNg (X : Stand p l e R s m args below meth c T locs cells slots) (hx : p.tables.exec = Jvm.exec) {g : JFrame} (hg : g.method = m) (hlk : g.locked = none) (hen : g.entered = []) {z : Int32} {rest : List Value} (hs : g.stack = .int z :: rest) (hret : meth.sig.returnType = some .boolean)
    (hd : decode c.code g.pc = .ok (.ireturn, 1)) {fs : List Frame} (hl : ∀ (f : JFrame) (acts : List Action), f.method = m → f.locked = none → f.entered = [] → (doReturn e (T.setTop f) acts (some (.int (nar .boolean z)))).1 = T.setFrames fs) :
    Steps p.tables e below (T.setTop g) (T.setFrames fs) := by
  have hm' : T.vm.method? m = some meth := X.method'
  have hn : narrow .boolean (.int z) = .int (nar .boolean z) := rfl
  subst hg
  jvm_step X.here [X.here.top, hx, hd, hs, hm', hret, hn]
  intro acts
  rw [hl { g with stack := rest } acts rfl hlk hen]
  exact Steps.refl _
end OwnRef

theorem own_Sta_keep {Z : State} {h h' : Heap} {C n d : String} {v : Value} {ws : List Addr} (F : Sta Z h C n d v) (K : Keep h h' ws) (hw : ∀ x ∈ ws, ∀ cell : Cell, h[x]? = some cell → cell.vm.isStatics = false) : Sta Z h' C n d v := by
  obtain ⟨cf, i, k, f, st, cell, h1, h2, h3, h4, h5, h6, h7⟩ := F
  exact ⟨cf, i, k, f, st, cell, h1, h2, h3, h4, K.2.1 _ _ h5 (fun q => by have z := hw _ q _ h5; rw [h6] at z; cases z), h6, h7⟩
theorem own_empty {s : State} {args : Array Value} {t : Jvm.Term} {dd : Addr} {cd : Cell} {ty : FieldType} (hfit : Fit s) (hdd : t.eval args s none [] s = some (.ref dd)) (A : Arr s s.heap dd cd ty) (h : (Jvm.Cond.eq (Jvm.Term.length t) (Jvm.Term.int (0 : Int32))).value args s none s [] = some true) : Arv s s.heap dd cd.cls ty (0 : Int32) [] .null := by
  obtain ⟨x, y, hx, hy, -, -⟩ := cmp_v (Or.inl h)
  have ha := Arr.fin (Vm.Alike.refl s.vm) A
  have hl : cd.slots.size < 2 ^ 31 := by
    by_cases q : cd.slots.size < 2 ^ 31
    · exact q
    · exfalso
      simp [Term.eval, hdd, ha] at hx
      omega
  have hx' := len_f hdd ha hl
  have hi : (Jvm.Term.int (0 : Int32)).eval args s none [] s = some (.int 0) := rfl
  have e : cd.slots.size.toInt32 = 0 := by simpa [Cond.value, hx', hi] using h
  exact Arv.start hfit A hl e (by decide) rfl trivial
theorem own_nez {s : State} {args : Array Value} {t : Jvm.Term} {cs : Int32} (hcs : t.eval args s none [] s = some (.int cs)) (h : (Jvm.Cond.not (Jvm.Cond.eq t (Jvm.Term.int (0 : Int32)))).value args s none s [] = some true) : ¬ cs = (0 : Int32) := by
  have q := not_v h
  have hi : (Jvm.Term.int (0 : Int32)).eval args s none [] s = some (.int 0) := rfl
  simpa [Cond.value, hcs, hi] using q
theorem own_char (p : Int32) : ¬ (255 : Int32) < ((p &&& (255 : Int32)).toUInt32.toUInt16.toUInt32.toInt32) := by
  rw [i2c_mask]
  have q := c_and p (255 : Int32) (by decide)
  rw [show (255 : Int32).toInt = 255 from rfl] at q
  rw [Int32.lt_iff_toInt_lt, show (255 : Int32).toInt = 255 from rfl]; omega
theorem d22_0 : decode jdk_22_method_1_code 0 = .ok (.aload_n 0, 1) := by decide +kernel
theorem d22_1 : decode jdk_22_method_1_code 1 = .ok (.invokespecial 1, 3) := by decide +kernel
theorem d22_4 : decode jdk_22_method_1_code 4 = .ok (.return_, 1) := by decide +kernel
theorem pn_java_util_AbstractCollection : plainName "java/util/AbstractCollection" = true := by first | (simp [plainName, overriddenIn]; done) | decide +kernel
theorem ef_22 (m : MethodId) (o0 : Addr) : entryFrame m #[(.ref o0)] 1 = mkF m 0 #[.val (.ref o0)] [] := by first | (simp [entryFrame, mkF, argsToLocals, Value.category]; done) | rfl
def Q22 (Z : State) (o0 : Addr) (h0 : Heap) (n0 : Nat) (v : Option Value) (h : Heap) (L : List Loc) : Prop := v = none ∧ Fr n0 L ∧ Keep h0 h []
set_option maxRecDepth 65536 in
set_option maxHeartbeats 40000000 in
theorem rm22 (l : Launch) (Z : State) (a0 : Array Value) (hw : ∀ d ∈ tables_1, d.before a0 Z = true) (ws : List Jvm.Cond) (o0 : Addr) (h0 : Heap) (n0 : Nat) (Z0 : n0 ≤ h0.size) :
    MetFree l (⟨"java/util/AbstractCollection", "<init>", "()V"⟩ : MethodName) (head1 (Jvm.Cond.code (⟨"java/util/AbstractCollection", "<init>", "()V"⟩ : MethodName) jdk_22_method_1_code 1 none :: ws) ({ frames := 1, cells := 0, slots := 0, locals := 12 } : Room)) (fun a U => a = #[(.ref o0)] ∧ Z.Warmed39 U.vm ∧ U.heap = h0) (fun _ _ _ _ _ => True) (fun _ U o U' => ∃ v L, o = .returned v ∧ Q22 Z o0 h0 n0 v U'.heap L ∧ FrameEnd U o U' L ({ frames := 1, cells := 0, slots := 0, locals := 12 } : Room).cells ({ frames := 1, cells := 0, slots := 0, locals := 12 } : Room).slots) := by
  refine MetFree.of_bodySF (plainFor_of_name pn_java_util_AbstractCollection) hisR ?_
  intro p e s m args below meth c s₁ Bd hml0 hP hK
  obtain ⟨rfl, hZ, hh⟩ := hP
  have hx := Bd.exec
  have hby := Bd.bytes
  have hml : c.maxLocals = 1 := hml0
  have hown : s.vm.findClass "java/util/AbstractCollection" = some m.cls := findClass_of_methodNamed Bd.named
  have hnm := (name_of_methodNamed Bd.named Bd.method).1
  have X0 : Stand p l e ({ frames := 1, cells := 0, slots := 0, locals := 12 } : Room) s m #[(.ref o0)] below meth c s₁ [] 0 0 := Stand.of_body Bd
  have e0 : s₁.heap = h0 := by rw [← hh, Bd.state]; rfl
  have N0 := Fr.nil n0
  have pre0 : ∀ t, Steps p.tables e below (s₁.setTop (mkF m 0 #[.val (.ref o0)] [])) t → Steps p.tables e below (s₁.setTop (entryFrame m #[(.ref o0)] 1)) t := fun t k => castTop (ef_22 m o0) k
  obtain ⟨T1, X1, e1, st1⟩ := initO X0 hx hZ hown (hw _ (List.mem_of_getElem? (i := 35) rfl)) (hw _ (List.mem_of_getElem? (i := 15) rfl)) (hw _ (List.mem_of_getElem? (i := 16) rfl)) e0 (g := (mkF m 1 #[.val (.ref o0)] [(.ref o0)])) rfl (by rw [hml]; rfl) rfl (hb hby d22_1) (by decide) (W := 0) (by show 2 * 0 + _ ≤ _; exact Nat.le_of_eq rfl) (by decide)
  obtain ⟨fs, hr, hrun, hended, hW, hsame⟩ := X1.leave (v := none) (fun _ => rfl)
  refine ⟨_, _, pre0 _ ?_, hrun, hended, _, _, rfl, ?_, ⟨_, rfl⟩, hW, hsame.mono (by decide) (by decide)⟩
  · show Steps p.tables e below (s₁.setTop (mkF m 0 #[.val (.ref o0)] [])) _
    refine XS.aloadN X0.here hx rfl (hb hby d22_0) rfl rfl ?_
    show Steps p.tables e below (s₁.setTop (mkF m 1 #[.val (.ref o0)] [(.ref o0)])) _
    refine st1 _ ?_
    show Steps p.tables e below (T1.setTop (mkF m 4 #[.val (.ref o0)] [])) _
    exact X1.returnOut hx Bd.returns (hb hby d22_4) hr
  · show Q22 Z o0 h0 n0 _ T1.heap _
    rw [e1]
    exact ⟨rfl, N0, (Keep.refl h0 [])⟩
theorem d39_0 : decode jdk_39_method_1_code 0 = .ok (.aload_n 0, 1) := by decide +kernel
theorem d39_1 : decode jdk_39_method_1_code 1 = .ok (.invokespecial 1, 3) := by decide +kernel
theorem d39_4 : decode jdk_39_method_1_code 4 = .ok (.aload_n 0, 1) := by decide +kernel
theorem d39_5 : decode jdk_39_method_1_code 5 = .ok (.iconst 0, 1) := by decide +kernel
theorem d39_6 : decode jdk_39_method_1_code 6 = .ok (.putfield 7, 3) := by decide +kernel
theorem d39_9 : decode jdk_39_method_1_code 9 = .ok (.return_, 1) := by decide +kernel
theorem pn_java_util_AbstractList : plainName "java/util/AbstractList" = true := by first | (simp [plainName, overriddenIn]; done) | decide +kernel
theorem pd_0 : parseMethodDescriptor "()V" = some ⟨[], none⟩ := by decide +kernel
theorem ef_39 (m : MethodId) (o0 : Addr) : entryFrame m #[(.ref o0)] 1 = mkF m 0 #[.val (.ref o0)] [] := by first | (simp [entryFrame, mkF, argsToLocals, Value.category]; done) | rfl
def Q39 (Z : State) (o0 : Addr) (h0 : Heap) (n0 : Nat) (v : Option Value) (h : Heap) (L : List Loc) : Prop := v = none ∧ Fr n0 L ∧ Keep h0 h [o0] ∧ Fld Z h o0 "java/util/AbstractList" "modCount" "I" (.int (0 : Int32)) ∧ Fld Z h o0 "java/util/ArrayList" "size" "I" (.int (0 : Int32)) ∧ Fld Z h o0 "java/util/ArrayList" "elementData" "[Ljava/lang/Object;" .null
set_option maxRecDepth 65536 in
set_option maxHeartbeats 40000000 in
theorem rm39 (l : Launch) (Z : State) (a0 : Array Value) (hw : ∀ d ∈ tables_1, d.before a0 Z = true) (ws : List Jvm.Cond) (o0 : Addr) (h0 : Heap) (n0 : Nat) (Z0 : n0 ≤ h0.size) (E_o0 : Exa Z h0 o0 "java/util/ArrayList") (F_modCount_o0 : Fld Z h0 o0 "java/util/AbstractList" "modCount" "I" (.int (0 : Int32))) (g_o0 : n0 ≤ o0) (F_size_o0 : Fld Z h0 o0 "java/util/ArrayList" "size" "I" (.int (0 : Int32))) (F_elementData_o0 : Fld Z h0 o0 "java/util/ArrayList" "elementData" "[Ljava/lang/Object;" .null) :
    MetFree l (⟨"java/util/AbstractList", "<init>", "()V"⟩ : MethodName) (head1 (Jvm.Cond.code (⟨"java/util/AbstractList", "<init>", "()V"⟩ : MethodName) jdk_39_method_1_code 1 none :: ws) ({ frames := 2, cells := 0, slots := 0, locals := 24 } : Room)) (fun a U => a = #[(.ref o0)] ∧ Z.Warmed39 U.vm ∧ U.heap = h0) (fun _ _ _ _ _ => True) (fun _ U o U' => ∃ v L, o = .returned v ∧ Q39 Z o0 h0 n0 v U'.heap L ∧ FrameEnd U o U' L ({ frames := 2, cells := 0, slots := 0, locals := 24 } : Room).cells ({ frames := 2, cells := 0, slots := 0, locals := 24 } : Room).slots) := by
  refine MetFree.of_bodySF (plainFor_of_name pn_java_util_AbstractList) hisR ?_
  intro p e s m args below meth c s₁ Bd hml0 hP hK
  obtain ⟨rfl, hZ, hh⟩ := hP
  have hx := Bd.exec
  have hby := Bd.bytes
  have hml : c.maxLocals = 1 := hml0
  have hown : s.vm.findClass "java/util/AbstractList" = some m.cls := findClass_of_methodNamed Bd.named
  have hnm := (name_of_methodNamed Bd.named Bd.method).1
  have X0 : Stand p l e ({ frames := 2, cells := 0, slots := 0, locals := 24 } : Room) s m #[(.ref o0)] below meth c s₁ [] 0 0 := Stand.of_body Bd
  have e0 : s₁.heap = h0 := by rw [← hh, Bd.state]; rfl
  have N0 := Fr.nil n0
  have pre0 : ∀ t, Steps p.tables e below (s₁.setTop (mkF m 0 #[.val (.ref o0)] [])) t → Steps p.tables e below (s₁.setTop (entryFrame m #[(.ref o0)] 1)) t := fun t k => castTop (ef_39 m o0) k
  -- pc 1: AbstractCollection.<init> by rm22
  obtain ⟨_, _, ⟨T1, L1, k1, n1⟩, -, X1, ⟨Lc1, hQ1, l1, y1, z1'⟩, st1⟩ := X0.specialBack hx (y := (⟨"java/util/AbstractCollection", "<init>", "()V"⟩ : MethodName)) rfl hown (mvT hZ (hw _ (List.mem_of_getElem? (i := 29) rfl))) (mvT hZ (hw _ (List.mem_of_getElem? (i := 30) rfl))) (mvT hZ (hw _ (List.mem_of_getElem? (i := 34) rfl))) (by decide) (backOf (W := 0) (rm22 l Z a0 hw [] o0 h0 n0 Z0 ) hZ (hw _ (List.mem_of_getElem? (i := 34) rfl)) (hw _ (List.mem_of_getElem? (i := 33) rfl)) (by decide) (by decide)) (g := (mkF m 1 #[.val (.ref o0)] [(.ref o0)])) rfl (by rw [hml]; rfl) (Steps.refl _) (a := o0) (argsL := []) (rest := []) (lenOf pd_0 rfl) rfl (by show 2 * 0 + _ ≤ _; exact Nat.le_of_eq rfl) (hb hby d39_1) (fun _ _ => ⟨rfl, e0, (by decide : 0 + 0 ≤ _), (by decide : 0 + 0 ≤ _)⟩)
  dsimp only [Pt.U, Pt.locs, Pt.cells, Pt.slots] at X1 l1 y1 z1' st1 hQ1
  subst l1 y1 z1'
  obtain ⟨rfl, N1q, K1⟩ := hQ1
  have N1 := Fr.app N0 N1q
  have J1 : Keep h0 T1.heap [o0] := (Keep.refl h0 [o0]).trans K1 all0
  have c2 : Fld Z T1.heap o0 "java/util/AbstractList" "modCount" "I" (.int (0 : Int32)) := (F_modCount_o0.keep K1 nin0)
  have c3 : Exa Z T1.heap o0 "java/util/ArrayList" := (E_o0.keep K1)
  obtain ⟨T4, h4, X4, e4, W4, st4⟩ := putF X1 hx hZ hown (host := "") (Or.inl (hw _ (List.mem_of_getElem? (i := 36) rfl))) Via.refl rfl c2 c3 (Or.inl (hw _ (List.mem_of_getElem? (i := 37) rfl))) (hw _ (List.mem_of_getElem? (i := 18) rfl)) (ty := .int) (by decide) rfl rfl (g := (mkF m 6 #[.val (.ref o0)] [(.int (0 : Int32)), (.ref o0)])) rfl rfl (hb hby d39_6)
  have Fw4 : Fld Z h4 o0 "java/util/AbstractList" "modCount" "I" (.int (0 : Int32)) := c2.same W4
  have J4 : Keep h0 h4 [o0] := J1.wr W4 (Or.inl (List.mem_of_getElem? (i := 0) rfl))
  have N4 := Fr.snoc X4 N1 g_o0
  have c5 : Fld Z h4 o0 "java/util/ArrayList" "size" "I" (.int (0 : Int32)) := ((F_size_o0.keep K1 nin0).other W4 (Or.inr (slot_ne (Or.inl (hw _ (List.mem_of_getElem? (i := 107) rfl))) (Or.inl (hw _ (List.mem_of_getElem? (i := 37) rfl))) (by decide) (t := .int) (t' := .int) (by decide) (by decide))))
  have c6 : Fld Z h4 o0 "java/util/ArrayList" "elementData" "[Ljava/lang/Object;" .null := ((F_elementData_o0.keep K1 nin0).other W4 (Or.inr (slot_ne (Or.inl (hw _ (List.mem_of_getElem? (i := 40) rfl))) (Or.inl (hw _ (List.mem_of_getElem? (i := 37) rfl))) (by decide) (t := (.array (.object "java/lang/Object"))) (t' := .int) (by decide) (by decide))))
  obtain ⟨fs, hr, hrun, hended, hW, hsame⟩ := X4.leave (v := none) (fun _ => rfl)
  refine ⟨_, _, pre0 _ ?_, hrun, hended, _, _, rfl, ?_, ⟨_, rfl⟩, hW, hsame.mono (by decide) (by decide)⟩
  · show Steps p.tables e below (s₁.setTop (mkF m 0 #[.val (.ref o0)] [])) _
    refine XS.aloadN X0.here hx rfl (hb hby d39_0) rfl rfl ?_
    show Steps p.tables e below (s₁.setTop (mkF m 1 #[.val (.ref o0)] [(.ref o0)])) _
    refine st1.trans ?_
    show Steps p.tables e below (T1.setTop (mkF m 4 #[.val (.ref o0)] [])) _
    refine XS.aloadN X1.here hx rfl (hb hby d39_4) rfl rfl ?_
    show Steps p.tables e below (T1.setTop (mkF m 5 #[.val (.ref o0)] [(.ref o0)])) _
    refine XS.iconst X1.here hx rfl (hb hby d39_5) ?_
    show Steps p.tables e below (T1.setTop (mkF m 6 #[.val (.ref o0)] [(.int (0 : Int32)), (.ref o0)])) _
    refine st4 _ ?_
    show Steps p.tables e below (T4.setTop (mkF m 9 #[.val (.ref o0)] [])) _
    exact X4.returnOut hx Bd.returns (hb hby d39_9) hr
  · show Q39 Z o0 h0 n0 _ T4.heap _
    rw [e4]
    exact ⟨rfl, N4, J4, Fw4, c5, c6⟩
theorem d382_0 : decode jdk_38_method_2_code 0 = .ok (.aload_n 0, 1) := by decide +kernel
theorem d382_1 : decode jdk_38_method_2_code 1 = .ok (.invokespecial 1, 3) := by decide +kernel
theorem d382_4 : decode jdk_38_method_2_code 4 = .ok (.aload_n 0, 1) := by decide +kernel
theorem d382_5 : decode jdk_38_method_2_code 5 = .ok (.getstatic 39, 3) := by decide +kernel
theorem d382_8 : decode jdk_38_method_2_code 8 = .ok (.putfield 9, 3) := by decide +kernel
theorem d382_11 : decode jdk_38_method_2_code 11 = .ok (.return_, 1) := by decide +kernel
theorem pn_java_util_ArrayList : plainName "java/util/ArrayList" = true := by first | (simp [plainName, overriddenIn]; done) | decide +kernel
theorem ef_382 (m : MethodId) (o0 : Addr) : entryFrame m #[(.ref o0)] 1 = mkF m 0 #[.val (.ref o0)] [] := by first | (simp [entryFrame, mkF, argsToLocals, Value.category]; done) | rfl
def Q382 (Z : State) (o0 : Addr) (dd : Addr) (h0 : Heap) (n0 : Nat) (v : Option Value) (h : Heap) (L : List Loc) : Prop := v = none ∧ Fr n0 L ∧ Keep h0 h [o0] ∧ Fld Z h o0 "java/util/AbstractList" "modCount" "I" (.int (0 : Int32)) ∧ Fld Z h o0 "java/util/ArrayList" "size" "I" (.int (0 : Int32)) ∧ Fld Z h o0 "java/util/ArrayList" "elementData" "[Ljava/lang/Object;" (.ref dd)
set_option maxRecDepth 65536 in
set_option maxHeartbeats 40000000 in
theorem rm382 (l : Launch) (Z : State) (a0 : Array Value) (hw : ∀ d ∈ tables_1, d.before a0 Z = true) (ws : List Jvm.Cond) (o0 : Addr) (dd : Addr) (h0 : Heap) (n0 : Nat) (Z0 : n0 ≤ h0.size) (E_o0 : Exa Z h0 o0 "java/util/ArrayList") (F_modCount_o0 : Fld Z h0 o0 "java/util/AbstractList" "modCount" "I" (.int (0 : Int32))) (g_o0 : n0 ≤ o0) (S_DEFAULTCAPACITY_EMPTY_ELEMENTDATA : Sta Z h0 "java/util/ArrayList" "DEFAULTCAPACITY_EMPTY_ELEMENTDATA" "[Ljava/lang/Object;" (.ref dd)) (F_size_o0 : Fld Z h0 o0 "java/util/ArrayList" "size" "I" (.int (0 : Int32))) (F_elementData_o0 : Fld Z h0 o0 "java/util/ArrayList" "elementData" "[Ljava/lang/Object;" .null) :
    MetFree l (⟨"java/util/ArrayList", "<init>", "()V"⟩ : MethodName) (head1 (Jvm.Cond.code (⟨"java/util/ArrayList", "<init>", "()V"⟩ : MethodName) jdk_38_method_2_code 1 none :: ws) ({ frames := 3, cells := 0, slots := 0, locals := 36 } : Room)) (fun a U => a = #[(.ref o0)] ∧ Z.Warmed39 U.vm ∧ U.heap = h0) (fun _ _ _ _ _ => True) (fun _ U o U' => ∃ v L, o = .returned v ∧ Q382 Z o0 dd h0 n0 v U'.heap L ∧ FrameEnd U o U' L ({ frames := 3, cells := 0, slots := 0, locals := 36 } : Room).cells ({ frames := 3, cells := 0, slots := 0, locals := 36 } : Room).slots) := by
  refine MetFree.of_bodySF (plainFor_of_name pn_java_util_ArrayList) hisR ?_
  intro p e s m args below meth c s₁ Bd hml0 hP hK
  obtain ⟨rfl, hZ, hh⟩ := hP
  have hx := Bd.exec
  have hby := Bd.bytes
  have hml : c.maxLocals = 1 := hml0
  have hown : s.vm.findClass "java/util/ArrayList" = some m.cls := findClass_of_methodNamed Bd.named
  have hnm := (name_of_methodNamed Bd.named Bd.method).1
  have X0 : Stand p l e ({ frames := 3, cells := 0, slots := 0, locals := 36 } : Room) s m #[(.ref o0)] below meth c s₁ [] 0 0 := Stand.of_body Bd
  have e0 : s₁.heap = h0 := by rw [← hh, Bd.state]; rfl
  have N0 := Fr.nil n0
  have pre0 : ∀ t, Steps p.tables e below (s₁.setTop (mkF m 0 #[.val (.ref o0)] [])) t → Steps p.tables e below (s₁.setTop (entryFrame m #[(.ref o0)] 1)) t := fun t k => castTop (ef_382 m o0) k
  -- pc 1: AbstractList.<init> by rm39
  obtain ⟨_, _, ⟨T1, L1, k1, n1⟩, -, X1, ⟨Lc1, hQ1, l1, y1, z1'⟩, st1⟩ := X0.specialBack hx (y := (⟨"java/util/AbstractList", "<init>", "()V"⟩ : MethodName)) rfl hown (mvT hZ (hw _ (List.mem_of_getElem? (i := 23) rfl))) (mvT hZ (hw _ (List.mem_of_getElem? (i := 24) rfl))) (mvT hZ (hw _ (List.mem_of_getElem? (i := 28) rfl))) (by decide) (backOf (W := 0) (rm39 l Z a0 hw [] o0 h0 n0 Z0 E_o0 F_modCount_o0 g_o0 F_size_o0 F_elementData_o0) hZ (hw _ (List.mem_of_getElem? (i := 28) rfl)) (hw _ (List.mem_of_getElem? (i := 27) rfl)) (by decide) (by decide)) (g := (mkF m 1 #[.val (.ref o0)] [(.ref o0)])) rfl (by rw [hml]; rfl) (Steps.refl _) (a := o0) (argsL := []) (rest := []) (lenOf pd_0 rfl) rfl (by show 2 * 0 + _ ≤ _; exact Nat.le_of_eq rfl) (hb hby d382_1) (fun _ _ => ⟨rfl, e0, (by decide : 0 + 0 ≤ _), (by decide : 0 + 0 ≤ _)⟩)
  dsimp only [Pt.U, Pt.locs, Pt.cells, Pt.slots] at X1 l1 y1 z1' st1 hQ1
  subst l1 y1 z1'
  obtain ⟨rfl, N1q, K1, r0_1, r1_1, r2_1⟩ := hQ1
  have N1 := Fr.app N0 N1q
  have J1 : Keep h0 T1.heap [o0] := (Keep.refl h0 [o0]).trans K1 (allS (Or.inl (List.mem_of_getElem? (i := 0) rfl)) all0)
  have c2 : Sta Z T1.heap "java/util/ArrayList" "DEFAULTCAPACITY_EMPTY_ELEMENTDATA" "[Ljava/lang/Object;" (.ref dd) := (own_Sta_keep S_DEFAULTCAPACITY_EMPTY_ELEMENTDATA K1 (allS E_o0.nostat all0))
  obtain ⟨T3, X3, e3, st3⟩ := getS2 X1 hx hZ hown (host := "") (Or.inl (hw _ (List.mem_of_getElem? (i := 38) rfl))) Via.refl rfl c2 (g := (mkF m 5 #[.val (.ref o0)] [(.ref o0)])) rfl (hb hby d382_5)
  have c4 : Exa Z T1.heap o0 "java/util/ArrayList" := (E_o0.keep K1)
  obtain ⟨T5, h5, X5, e5, W5, st5⟩ := putF X3 hx hZ hown (host := "") (Or.inl (hw _ (List.mem_of_getElem? (i := 39) rfl))) Via.refl e3 r2_1 c4 (Or.inl (hw _ (List.mem_of_getElem? (i := 40) rfl))) (hw _ (List.mem_of_getElem? (i := 18) rfl)) (ty := (.array (.object "java/lang/Object"))) (by decide) rfl rfl (g := (mkF m 8 #[.val (.ref o0)] [(.ref dd), (.ref o0)])) rfl rfl (hb hby d382_8)
  have Fw5 : Fld Z h5 o0 "java/util/ArrayList" "elementData" "[Ljava/lang/Object;" (.ref dd) := r2_1.same W5
  have J5 : Keep h0 h5 [o0] := J1.wr W5 (Or.inl (List.mem_of_getElem? (i := 0) rfl))
  have N5 := Fr.snoc X5 N1 g_o0
  have c6 : Fld Z h5 o0 "java/util/AbstractList" "modCount" "I" (.int (0 : Int32)) := (r0_1.other W5 (Or.inr (slot_ne (Or.inl (hw _ (List.mem_of_getElem? (i := 37) rfl))) (Or.inl (hw _ (List.mem_of_getElem? (i := 40) rfl))) (by decide) (t := .int) (t' := (.array (.object "java/lang/Object"))) (by decide) (by decide))))
  have c7 : Fld Z h5 o0 "java/util/ArrayList" "size" "I" (.int (0 : Int32)) := (r1_1.other W5 (Or.inr (slot_ne (Or.inl (hw _ (List.mem_of_getElem? (i := 107) rfl))) (Or.inl (hw _ (List.mem_of_getElem? (i := 40) rfl))) (by decide) (t := .int) (t' := (.array (.object "java/lang/Object"))) (by decide) (by decide))))
  obtain ⟨fs, hr, hrun, hended, hW, hsame⟩ := X5.leave (v := none) (fun _ => rfl)
  refine ⟨_, _, pre0 _ ?_, hrun, hended, _, _, rfl, ?_, ⟨_, rfl⟩, hW, hsame.mono (by decide) (by decide)⟩
  · show Steps p.tables e below (s₁.setTop (mkF m 0 #[.val (.ref o0)] [])) _
    refine XS.aloadN X0.here hx rfl (hb hby d382_0) rfl rfl ?_
    show Steps p.tables e below (s₁.setTop (mkF m 1 #[.val (.ref o0)] [(.ref o0)])) _
    refine st1.trans ?_
    show Steps p.tables e below (T1.setTop (mkF m 4 #[.val (.ref o0)] [])) _
    refine XS.aloadN X1.here hx rfl (hb hby d382_4) rfl rfl ?_
    show Steps p.tables e below (T1.setTop (mkF m 5 #[.val (.ref o0)] [(.ref o0)])) _
    refine st3 _ ?_
    show Steps p.tables e below (T3.setTop (mkF m 8 #[.val (.ref o0)] [(.ref dd), (.ref o0)])) _
    refine st5 _ ?_
    show Steps p.tables e below (T5.setTop (mkF m 11 #[.val (.ref o0)] [])) _
    exact X5.returnOut hx Bd.returns (hb hby d382_11) hr
  · show Q382 Z o0 dd h0 n0 _ T5.heap _
    rw [e5]
    exact ⟨rfl, N5, J5, c6, c7, Fw5⟩
theorem d1_0 : decode prog_48_method_1_code 0 = .ok (.aload_n 0, 1) := by decide +kernel
theorem d1_1 : decode prog_48_method_1_code 1 = .ok (.invokespecial 1, 3) := by decide +kernel
theorem d1_4 : decode prog_48_method_1_code 4 = .ok (.aload_n 0, 1) := by decide +kernel
theorem d1_5 : decode prog_48_method_1_code 5 = .ok (.new 7, 3) := by decide +kernel
theorem d1_8 : decode prog_48_method_1_code 8 = .ok (.dup, 1) := by decide +kernel
theorem d1_9 : decode prog_48_method_1_code 9 = .ok (.invokespecial 9, 3) := by decide +kernel
theorem d1_12 : decode prog_48_method_1_code 12 = .ok (.putfield 10, 3) := by decide +kernel
theorem d1_15 : decode prog_48_method_1_code 15 = .ok (.aload_n 0, 1) := by decide +kernel
theorem d1_16 : decode prog_48_method_1_code 16 = .ok (.aload_n 1, 1) := by decide +kernel
theorem d1_17 : decode prog_48_method_1_code 17 = .ok (.putfield 16, 3) := by decide +kernel
theorem d1_20 : decode prog_48_method_1_code 20 = .ok (.return_, 1) := by decide +kernel
theorem pn_com_example_tierline_tierline_csv_LineProblems : plainName "com/example/tierline/tierline/csv/LineProblems" = true := by first | (simp [plainName, overriddenIn]; done) | decide +kernel
theorem ef_1 (m : MethodId) (o0 : Addr) (o1 : Addr) : entryFrame m #[(.ref o0), (.ref o1)] 2 = mkF m 0 #[.val (.ref o0), .val (.ref o1)] [] := by first | (simp [entryFrame, mkF, argsToLocals, Value.category]; done) | rfl
def Q1 (Z : State) (o0 : Addr) (o1 : Addr) (dd : Addr) (h0 : Heap) (n0 : Nat) (v : Option Value) (h : Heap) (L : List Loc) : Prop := ∃ li : Addr, v = none ∧ Fr n0 L ∧ Keep h0 h [o0] ∧ h0.size ≤ li ∧ Exa Z h li "java/util/ArrayList" ∧ Fld Z h o0 "com/example/tierline/tierline/csv/LineProblems" "listed" "Ljava/util/List;" (.ref li) ∧ Fld Z h o0 "com/example/tierline/tierline/csv/LineProblems" "count" "J" (.long (0 : Int64)) ∧ Fld Z h li "java/util/AbstractList" "modCount" "I" (.int (0 : Int32)) ∧ Fld Z h li "java/util/ArrayList" "size" "I" (.int (0 : Int32)) ∧ Fld Z h li "java/util/ArrayList" "elementData" "[Ljava/lang/Object;" (.ref dd)
set_option maxRecDepth 65536 in
set_option maxHeartbeats 40000000 in
theorem rm1 (l : Launch) (Z : State) (a0 : Array Value) (hw : ∀ d ∈ tables_1, d.before a0 Z = true) (ws : List Jvm.Cond) (o0 : Addr) (o1 : Addr) (dd : Addr) (h0 : Heap) (n0 : Nat) (Z0 : n0 ≤ h0.size) (E_o0 : Exa Z h0 o0 "com/example/tierline/tierline/csv/LineProblems") (F_listed_o0 : Fld Z h0 o0 "com/example/tierline/tierline/csv/LineProblems" "listed" "Ljava/util/List;" .null) (F_file_o0 : Fld Z h0 o0 "com/example/tierline/tierline/csv/LineProblems" "file" "Ljava/lang/String;" .null) (F_count_o0 : Fld Z h0 o0 "com/example/tierline/tierline/csv/LineProblems" "count" "J" (.long (0 : Int64))) (g_o0 : n0 ≤ o0) (S_DEFAULTCAPACITY_EMPTY_ELEMENTDATA : Sta Z h0 "java/util/ArrayList" "DEFAULTCAPACITY_EMPTY_ELEMENTDATA" "[Ljava/lang/Object;" (.ref dd)) :
    MetFree l (⟨"com/example/tierline/tierline/csv/LineProblems", "<init>", "(Ljava/lang/String;)V"⟩ : MethodName) (head1 (Jvm.Cond.code (⟨"com/example/tierline/tierline/csv/LineProblems", "<init>", "(Ljava/lang/String;)V"⟩ : MethodName) prog_48_method_1_code 2 none :: ws) ({ frames := 4, cells := 1, slots := 3, locals := 50 } : Room)) (fun a U => a = #[(.ref o0), (.ref o1)] ∧ Z.Warmed39 U.vm ∧ U.heap = h0) (fun _ _ _ _ _ => True) (fun _ U o U' => ∃ v L, o = .returned v ∧ Q1 Z o0 o1 dd h0 n0 v U'.heap L ∧ FrameEnd U o U' L ({ frames := 4, cells := 1, slots := 3, locals := 50 } : Room).cells ({ frames := 4, cells := 1, slots := 3, locals := 50 } : Room).slots) := by
  refine MetFree.of_bodySF (plainFor_of_name pn_com_example_tierline_tierline_csv_LineProblems) hisR ?_
  intro p e s m args below meth c s₁ Bd hml0 hP hK
  obtain ⟨rfl, hZ, hh⟩ := hP
  have hx := Bd.exec
  have hby := Bd.bytes
  have hml : c.maxLocals = 2 := hml0
  have hown : s.vm.findClass "com/example/tierline/tierline/csv/LineProblems" = some m.cls := findClass_of_methodNamed Bd.named
  have hnm := (name_of_methodNamed Bd.named Bd.method).1
  have X0 : Stand p l e ({ frames := 4, cells := 1, slots := 3, locals := 50 } : Room) s m #[(.ref o0), (.ref o1)] below meth c s₁ [] 0 0 := Stand.of_body Bd
  have e0 : s₁.heap = h0 := by rw [← hh, Bd.state]; rfl
  have N0 := Fr.nil n0
  have pre0 : ∀ t, Steps p.tables e below (s₁.setTop (mkF m 0 #[.val (.ref o0), .val (.ref o1)] [])) t → Steps p.tables e below (s₁.setTop (entryFrame m #[(.ref o0), (.ref o1)] 2)) t := fun t k => castTop (ef_1 m o0 o1) k
  obtain ⟨T1, X1, e1, st1⟩ := initO X0 hx hZ hown (hw _ (List.mem_of_getElem? (i := 14) rfl)) (hw _ (List.mem_of_getElem? (i := 15) rfl)) (hw _ (List.mem_of_getElem? (i := 16) rfl)) e0 (g := (mkF m 1 #[.val (.ref o0), .val (.ref o1)] [(.ref o0)])) rfl (by rw [hml]; rfl) rfl (hb hby d1_1) (by decide) (W := 0) (by show 2 * 0 + _ ≤ _; exact Nat.le_of_eq rfl) (by decide)
  obtain ⟨T2, h2, X2, e2, E2, A2, D2, U2, st2⟩ := newO X1 hx hZ hown (hw _ (List.mem_of_getElem? (i := 17) rfl)) (hw _ (List.mem_of_getElem? (i := 18) rfl)) (hw _ (List.mem_of_getElem? (i := 19) rfl)) e1 (g := (mkF m 5 #[.val (.ref o0), .val (.ref o1)] [(.ref o0)])) rfl (hb hby d1_5) (by decide) (by decide)
  obtain ⟨b2, g2⟩ : ∃ z, z = h0.size := ⟨_, rfl⟩
  rw [← g2] at A2 D2 U2 st2
  have g_b2 : n0 ≤ b2 := Nat.le_trans Z0 (Nat.le_of_eq g2.symm)
  have sz_b2 : h0.size ≤ b2 := Nat.le_trans (Keep.refl h0 [o0]).1 (Nat.le_of_eq g2.symm)
  have ne3 : o0 ≠ b2 := Nat.ne_of_lt (Nat.lt_of_lt_of_le E_o0.lt (Nat.le_of_eq g2.symm))
  have F_modCount_b2 : Fld Z h2 b2 "java/util/AbstractList" "modCount" "I" (.int (0 : Int32)) := D2 (Or.inl (hw _ (List.mem_of_getElem? (i := 37) rfl))) (ty := .int) (by decide)
  have F_elementData_b2 : Fld Z h2 b2 "java/util/ArrayList" "elementData" "[Ljava/lang/Object;" .null := D2 (Or.inl (hw _ (List.mem_of_getElem? (i := 40) rfl))) (ty := (.array (.object "java/lang/Object"))) (by decide)
  have F_size_b2 : Fld Z h2 b2 "java/util/ArrayList" "size" "I" (.int (0 : Int32)) := D2 (Or.inl (hw _ (List.mem_of_getElem? (i := 107) rfl))) (ty := .int) (by decide)
  have J2 : Keep h0 h2 [o0] := (Keep.refl h0 [o0]).ext E2
  have c4 : Sta Z h2 "java/util/ArrayList" "DEFAULTCAPACITY_EMPTY_ELEMENTDATA" "[Ljava/lang/Object;" (.ref dd) := (S_DEFAULTCAPACITY_EMPTY_ELEMENTDATA.ext E2)
  have z5 : n0 ≤ h2.size := (Nat.le_trans Z0 E2.1)
  -- pc 9: ArrayList.<init> by rm382
  obtain ⟨_, _, ⟨T6, L6, k6, n6⟩, -, X6, ⟨Lc6, hQ6, l6, y6, z6'⟩, st6⟩ := X2.specialBack hx (y := (⟨"java/util/ArrayList", "<init>", "()V"⟩ : MethodName)) rfl hown (mvT hZ (hw _ (List.mem_of_getElem? (i := 20) rfl))) (mvT hZ (hw _ (List.mem_of_getElem? (i := 21) rfl))) (mvT hZ (hw _ (List.mem_of_getElem? (i := 22) rfl))) (by decide) (backOf (W := 2) (rm382 l Z a0 hw [] b2 dd h2 n0 z5 A2 F_modCount_b2 g_b2 c4 F_size_b2 F_elementData_b2) hZ (hw _ (List.mem_of_getElem? (i := 22) rfl)) (hw _ (List.mem_of_getElem? (i := 19) rfl)) (by decide) (by decide)) (g := (mkF m 9 #[.val (.ref o0), .val (.ref o1)] [(.ref b2), (.ref b2), (.ref o0)])) rfl (by rw [hml]; rfl) (Steps.refl _) (a := b2) (argsL := []) (rest := [(.ref b2), (.ref o0)]) (lenOf pd_0 rfl) rfl (by show 2 * 0 + _ ≤ _; exact Nat.le_of_eq rfl) (hb hby d1_9) (fun _ _ => ⟨rfl, e2, (by decide : 1 + 0 ≤ _), (by decide : 3 + 0 ≤ _)⟩)
  dsimp only [Pt.U, Pt.locs, Pt.cells, Pt.slots] at X6 l6 y6 z6' st6 hQ6
  subst l6 y6 z6'
  obtain ⟨rfl, N6q, K6, r0_6, r1_6, r2_6⟩ := hQ6
  have N6 := Fr.app N0 N6q
  have J6 : Keep h0 T6.heap [o0] := J2.trans K6 (allS (Or.inr sz_b2) all0)
  have c7 : Fld Z T6.heap o0 "com/example/tierline/tierline/csv/LineProblems" "listed" "Ljava/util/List;" .null := ((F_listed_o0.ext E2).keep K6 (ninS ne3 nin0))
  have c8 : Exa Z T6.heap o0 "com/example/tierline/tierline/csv/LineProblems" := ((E_o0.ext E2).keep K6)
  obtain ⟨T9, h9, X9, e9, W9, st9⟩ := putF X6 hx hZ hown (host := "") (Or.inl (hw _ (List.mem_of_getElem? (i := 41) rfl))) Via.refl rfl c7 c8 (Or.inr ⟨(hw _ (List.mem_of_getElem? (i := 42) rfl)), rfl, hnm⟩) (hw _ (List.mem_of_getElem? (i := 1) rfl)) (ty := (.object "java/util/List")) (by decide) rfl rfl (g := (mkF m 12 #[.val (.ref o0), .val (.ref o1)] [(.ref b2), (.ref o0)])) rfl rfl (hb hby d1_12)
  have Fw9 : Fld Z h9 o0 "com/example/tierline/tierline/csv/LineProblems" "listed" "Ljava/util/List;" (.ref b2) := c7.same W9
  have J9 : Keep h0 h9 [o0] := J6.wr W9 (Or.inl (List.mem_of_getElem? (i := 0) rfl))
  have N9 := Fr.snoc X9 N6 g_o0
  have c10 : Fld Z h9 o0 "com/example/tierline/tierline/csv/LineProblems" "file" "Ljava/lang/String;" .null := (((F_file_o0.ext E2).keep K6 (ninS ne3 nin0)).other W9 (Or.inr (slot_ne (Or.inr (hw _ (List.mem_of_getElem? (i := 44) rfl))) (Or.inr (hw _ (List.mem_of_getElem? (i := 42) rfl))) (by decide) (t := (.object "java/lang/String")) (t' := (.object "java/util/List")) (by decide) (by decide))))
  have c11 : Exa Z h9 o0 "com/example/tierline/tierline/csv/LineProblems" := (c8.wr W9)
  obtain ⟨T12, h12, X12, e12, W12, st12⟩ := putF X9 hx hZ hown (host := "") (Or.inl (hw _ (List.mem_of_getElem? (i := 43) rfl))) Via.refl e9 c10 c11 (Or.inr ⟨(hw _ (List.mem_of_getElem? (i := 44) rfl)), rfl, hnm⟩) (hw _ (List.mem_of_getElem? (i := 1) rfl)) (ty := (.object "java/lang/String")) (by decide) rfl rfl (g := (mkF m 17 #[.val (.ref o0), .val (.ref o1)] [(.ref o1), (.ref o0)])) rfl rfl (hb hby d1_17)
  have Fw12 : Fld Z h12 o0 "com/example/tierline/tierline/csv/LineProblems" "file" "Ljava/lang/String;" (.ref o1) := c10.same W12
  have J12 : Keep h0 h12 [o0] := J9.wr W12 (Or.inl (List.mem_of_getElem? (i := 0) rfl))
  have N12 := Fr.snoc X12 N9 g_o0
  have c13 : Exa Z h12 b2 "java/util/ArrayList" := (((A2.keep K6).wr W9).wr W12)
  have c14 : Fld Z h12 o0 "com/example/tierline/tierline/csv/LineProblems" "listed" "Ljava/util/List;" (.ref b2) := (Fw9.other W12 (Or.inr (slot_ne (Or.inr (hw _ (List.mem_of_getElem? (i := 42) rfl))) (Or.inr (hw _ (List.mem_of_getElem? (i := 44) rfl))) (by decide) (t := (.object "java/util/List")) (t' := (.object "java/lang/String")) (by decide) (by decide))))
  have c15 : Fld Z h12 o0 "com/example/tierline/tierline/csv/LineProblems" "count" "J" (.long (0 : Int64)) := ((((F_count_o0.ext E2).keep K6 (ninS ne3 nin0)).other W9 (Or.inr (slot_ne (Or.inl (hw _ (List.mem_of_getElem? (i := 51) rfl))) (Or.inr (hw _ (List.mem_of_getElem? (i := 42) rfl))) (by decide) (t := .long) (t' := (.object "java/util/List")) (by decide) (by decide)))).other W12 (Or.inr (slot_ne (Or.inl (hw _ (List.mem_of_getElem? (i := 51) rfl))) (Or.inr (hw _ (List.mem_of_getElem? (i := 44) rfl))) (by decide) (t := .long) (t' := (.object "java/lang/String")) (by decide) (by decide))))
  have c16 : Fld Z h12 b2 "java/util/AbstractList" "modCount" "I" (.int (0 : Int32)) := ((r0_6.other W9 (Or.inl (Ne.symm ne3))).other W12 (Or.inl (Ne.symm ne3)))
  have c17 : Fld Z h12 b2 "java/util/ArrayList" "size" "I" (.int (0 : Int32)) := ((r1_6.other W9 (Or.inl (Ne.symm ne3))).other W12 (Or.inl (Ne.symm ne3)))
  have c18 : Fld Z h12 b2 "java/util/ArrayList" "elementData" "[Ljava/lang/Object;" (.ref dd) := ((r2_6.other W9 (Or.inl (Ne.symm ne3))).other W12 (Or.inl (Ne.symm ne3)))
  obtain ⟨fs, hr, hrun, hended, hW, hsame⟩ := X12.leave (v := none) (fun _ => rfl)
  refine ⟨_, _, pre0 _ ?_, hrun, hended, _, _, rfl, ?_, ⟨_, rfl⟩, hW, hsame.mono (by decide) (by decide)⟩
  · show Steps p.tables e below (s₁.setTop (mkF m 0 #[.val (.ref o0), .val (.ref o1)] [])) _
    refine XS.aloadN X0.here hx rfl (hb hby d1_0) rfl rfl ?_
    show Steps p.tables e below (s₁.setTop (mkF m 1 #[.val (.ref o0), .val (.ref o1)] [(.ref o0)])) _
    refine st1 _ ?_
    show Steps p.tables e below (T1.setTop (mkF m 4 #[.val (.ref o0), .val (.ref o1)] [])) _
    refine XS.aloadN X1.here hx rfl (hb hby d1_4) rfl rfl ?_
    show Steps p.tables e below (T1.setTop (mkF m 5 #[.val (.ref o0), .val (.ref o1)] [(.ref o0)])) _
    refine st2 _ ?_
    show Steps p.tables e below (T2.setTop (mkF m 8 #[.val (.ref o0), .val (.ref o1)] [(.ref b2), (.ref o0)])) _
    refine XS.dup X2.here hx rfl (hb hby d1_8) rfl rfl ?_
    show Steps p.tables e below (T2.setTop (mkF m 9 #[.val (.ref o0), .val (.ref o1)] [(.ref b2), (.ref b2), (.ref o0)])) _
    refine st6.trans ?_
    show Steps p.tables e below (T6.setTop (mkF m 12 #[.val (.ref o0), .val (.ref o1)] [(.ref b2), (.ref o0)])) _
    refine st9 _ ?_
    show Steps p.tables e below (T9.setTop (mkF m 15 #[.val (.ref o0), .val (.ref o1)] [])) _
    refine XS.aloadN X9.here hx rfl (hb hby d1_15) rfl rfl ?_
    show Steps p.tables e below (T9.setTop (mkF m 16 #[.val (.ref o0), .val (.ref o1)] [(.ref o0)])) _
    refine XS.aloadN X9.here hx rfl (hb hby d1_16) rfl rfl ?_
    show Steps p.tables e below (T9.setTop (mkF m 17 #[.val (.ref o0), .val (.ref o1)] [(.ref o1), (.ref o0)])) _
    refine st12 _ ?_
    show Steps p.tables e below (T12.setTop (mkF m 20 #[.val (.ref o0), .val (.ref o1)] [])) _
    exact X12.returnOut hx Bd.returns (hb hby d1_20) hr
  · show Q1 Z o0 o1 dd h0 n0 _ T12.heap _
    rw [e12]
    exact ⟨b2, rfl, N12, J12, sz_b2, c13, c14, c15, c16, c17, c18⟩
theorem d7_0 : decode prog_48_method_7_code 0 = .ok (.aload_n 0, 1) := by decide +kernel
theorem d7_1 : decode prog_48_method_7_code 1 = .ok (.getfield 29, 3) := by decide +kernel
theorem d7_4 : decode prog_48_method_7_code 4 = .ok (.lconst 0, 1) := by decide +kernel
theorem d7_5 : decode prog_48_method_7_code 5 = .ok (.lcmp, 1) := by decide +kernel
theorem d7_6 : decode prog_48_method_7_code 6 = .ok (.ifCond .ne 7, 3) := by decide +kernel
theorem d7_9 : decode prog_48_method_7_code 9 = .ok (.iconst 1, 1) := by decide +kernel
theorem d7_10 : decode prog_48_method_7_code 10 = .ok (.goto 4, 3) := by decide +kernel
theorem d7_13 : decode prog_48_method_7_code 13 = .ok (.iconst 0, 1) := by decide +kernel
theorem d7_14 : decode prog_48_method_7_code 14 = .ok (.ireturn, 1) := by decide +kernel
theorem ef_7 (m : MethodId) (o0 : Addr) : entryFrame m #[(.ref o0)] 1 = mkF m 0 #[.val (.ref o0)] [] := by first | (simp [entryFrame, mkF, argsToLocals, Value.category]; done) | rfl
def Q7 (Z : State) (o0 : Addr) (cn : Int64) (h0 : Heap) (n0 : Nat) (v : Option Value) (h : Heap) (L : List Loc) : Prop := v = some (.int (if cn = (0 : Int64) then (1 : Int32) else 0)) ∧ Fr n0 L ∧ Keep h0 h []
set_option maxRecDepth 65536 in
set_option maxHeartbeats 40000000 in
theorem rm7 (l : Launch) (Z : State) (a0 : Array Value) (hw : ∀ d ∈ tables_1, d.before a0 Z = true) (ws : List Jvm.Cond) (o0 : Addr) (cn : Int64) (h0 : Heap) (n0 : Nat) (Z0 : n0 ≤ h0.size) (F_count_o0 : Fld Z h0 o0 "com/example/tierline/tierline/csv/LineProblems" "count" "J" (.long cn)) :
    MetFree l (⟨"com/example/tierline/tierline/csv/LineProblems", "isEmpty", "()Z"⟩ : MethodName) (head1 (Jvm.Cond.code (⟨"com/example/tierline/tierline/csv/LineProblems", "isEmpty", "()Z"⟩ : MethodName) prog_48_method_7_code 1 (some .boolean) :: ws) ({ frames := 0, cells := 0, slots := 0, locals := 0 } : Room)) (fun a U => a = #[(.ref o0)] ∧ Z.Warmed39 U.vm ∧ U.heap = h0) (fun _ _ _ _ _ => True) (fun _ U o U' => ∃ v L, o = .returned v ∧ Q7 Z o0 cn h0 n0 v U'.heap L ∧ FrameEnd U o U' L ({ frames := 0, cells := 0, slots := 0, locals := 0 } : Room).cells ({ frames := 0, cells := 0, slots := 0, locals := 0 } : Room).slots) := by
  refine MetFree.of_bodySF (plainFor_of_name pn_com_example_tierline_tierline_csv_LineProblems) hisR ?_
  intro p e s m args below meth c s₁ Bd hml0 hP hK
  obtain ⟨rfl, hZ, hh⟩ := hP
  have hx := Bd.exec
  have hby := Bd.bytes
  have hml : c.maxLocals = 1 := hml0
  have hown : s.vm.findClass "com/example/tierline/tierline/csv/LineProblems" = some m.cls := findClass_of_methodNamed Bd.named
  have hnm := (name_of_methodNamed Bd.named Bd.method).1
  have X0 : Stand p l e ({ frames := 0, cells := 0, slots := 0, locals := 0 } : Room) s m #[(.ref o0)] below meth c s₁ [] 0 0 := Stand.of_body Bd
  have e0 : s₁.heap = h0 := by rw [← hh, Bd.state]; rfl
  have N0 := Fr.nil n0
  have pre0 : ∀ t, Steps p.tables e below (s₁.setTop (mkF m 0 #[.val (.ref o0)] [])) t → Steps p.tables e below (s₁.setTop (entryFrame m #[(.ref o0)] 1)) t := fun t k => castTop (ef_7 m o0) k
  obtain ⟨T1, X1, e1, st1⟩ := getF X0 hx hZ hown (host := "") (Or.inl (hw _ (List.mem_of_getElem? (i := 50) rfl))) Via.refl e0 F_count_o0 (g := (mkF m 1 #[.val (.ref o0)] [(.ref o0)])) rfl rfl (hb hby d7_1)
  obtain ⟨fs, hr, hrun, hended, hW, hsame⟩ := X1.leave (v := some (.int (nar .boolean (if cn = (0 : Int64) then (1 : Int32) else 0)))) (fun h => by rw [Bd.returns] at h; cases h)
  refine ⟨_, _, pre0 _ ?_, hrun, hended, _, _, rfl, ?_, ⟨_, rfl⟩, hW, hsame.mono (by decide) (by decide)⟩
  · show Steps p.tables e below (s₁.setTop (mkF m 0 #[.val (.ref o0)] [])) _
    refine XS.aloadN X0.here hx rfl (hb hby d7_0) rfl rfl ?_
    show Steps p.tables e below (s₁.setTop (mkF m 1 #[.val (.ref o0)] [(.ref o0)])) _
    refine st1 _ ?_
    show Steps p.tables e below (T1.setTop (mkF m 4 #[.val (.ref o0)] [(.long cn)])) _
    refine XS.lconst X1.here hx rfl (hb hby d7_4) ?_
    show Steps p.tables e below (T1.setTop (mkF m 5 #[.val (.ref o0)] [(.long (0 : Int64)), (.long cn)])) _
    refine XS.lcmp X1.here hx rfl (hb hby d7_5) rfl ?_
    show Steps p.tables e below (T1.setTop (mkF m 6 #[.val (.ref o0)] [(.int (lcmpW cn (0 : Int64)))])) _
    refine own_diaF X1.here hx rfl (pc0 := 6) rfl (hb hby d7_6) (hb hby d7_9) (hb hby d7_10) (hb hby d7_13) rfl (fun hq => ((if0 _ _).trans (teq ((lw_eq _ _).mpr hq)).2)) (fun hq => ((if0 _ _).trans (feq (mt (lw_eq _ _).mp hq)).2)) ?_
    show Steps p.tables e below (T1.setTop (mkF m 14 #[.val (.ref o0)] [(.int (if cn = (0 : Int64) then (1 : Int32) else 0))])) _
    exact retN X1 hx (t := .boolean) Bd.returns (by simp) (hb hby d7_14) hr
  · show Q7 Z o0 cn h0 n0 _ T1.heap _
    rw [e1]
    exact ⟨by rw [own_nb10], N0, (Keep.refl h0 [])⟩
theorem d433_0 : decode jdk_43_method_3_code 0 = .ok (.iload_n 0, 1) := by decide +kernel
theorem d433_1 : decode jdk_43_method_3_code 1 = .ok (.sipush 255, 3) := by decide +kernel
theorem d433_4 : decode jdk_43_method_3_code 4 = .ok (.if_icmp .gt 7, 3) := by decide +kernel
theorem d433_7 : decode jdk_43_method_3_code 7 = .ok (.iconst 1, 1) := by decide +kernel
theorem d433_8 : decode jdk_43_method_3_code 8 = .ok (.goto 4, 3) := by decide +kernel
theorem d433_11 : decode jdk_43_method_3_code 11 = .ok (.iconst 0, 1) := by decide +kernel
theorem d433_12 : decode jdk_43_method_3_code 12 = .ok (.ireturn, 1) := by decide +kernel
theorem pn_java_lang_StringLatin1 : plainName "java/lang/StringLatin1" = true := by first | (simp [plainName, overriddenIn]; done) | decide +kernel
theorem ef_433 (m : MethodId) (p0 : Int32) : entryFrame m #[(.int p0)] 1 = mkF m 0 #[.val (.int p0)] [] := by first | (simp [entryFrame, mkF, argsToLocals, Value.category]; done) | rfl
def Q433 (Z : State) (p0 : Int32) (h0 : Heap) (n0 : Nat) (v : Option Value) (h : Heap) (L : List Loc) : Prop := v = some (.int (if (255 : Int32) < p0 then (0 : Int32) else 1)) ∧ Fr n0 L ∧ Keep h0 h []
set_option maxRecDepth 65536 in
set_option maxHeartbeats 40000000 in
theorem rm433 (l : Launch) (Z : State) (a0 : Array Value) (hw : ∀ d ∈ tables_1, d.before a0 Z = true) (ws : List Jvm.Cond) (p0 : Int32) (h0 : Heap) (n0 : Nat) (Z0 : n0 ≤ h0.size) :
    MetFree l (⟨"java/lang/StringLatin1", "canEncode", "(C)Z"⟩ : MethodName) (head1 (Jvm.Cond.code (⟨"java/lang/StringLatin1", "canEncode", "(C)Z"⟩ : MethodName) jdk_43_method_3_code 1 (some .boolean) :: ws) ({ frames := 0, cells := 0, slots := 0, locals := 0 } : Room)) (fun a U => a = #[(.int p0)] ∧ Z.Warmed39 U.vm ∧ U.heap = h0) (fun _ _ _ _ _ => True) (fun _ U o U' => ∃ v L, o = .returned v ∧ Q433 Z p0 h0 n0 v U'.heap L ∧ FrameEnd U o U' L ({ frames := 0, cells := 0, slots := 0, locals := 0 } : Room).cells ({ frames := 0, cells := 0, slots := 0, locals := 0 } : Room).slots) := by
  refine MetFree.of_bodySF (plainFor_of_name pn_java_lang_StringLatin1) hisR ?_
  intro p e s m args below meth c s₁ Bd hml0 hP hK
  obtain ⟨rfl, hZ, hh⟩ := hP
  have hx := Bd.exec
  have hby := Bd.bytes
  have hml : c.maxLocals = 1 := hml0
  have hown : s.vm.findClass "java/lang/StringLatin1" = some m.cls := findClass_of_methodNamed Bd.named
  have hnm := (name_of_methodNamed Bd.named Bd.method).1
  have X0 : Stand p l e ({ frames := 0, cells := 0, slots := 0, locals := 0 } : Room) s m #[(.int p0)] below meth c s₁ [] 0 0 := Stand.of_body Bd
  have e0 : s₁.heap = h0 := by rw [← hh, Bd.state]; rfl
  have N0 := Fr.nil n0
  have pre0 : ∀ t, Steps p.tables e below (s₁.setTop (mkF m 0 #[.val (.int p0)] [])) t → Steps p.tables e below (s₁.setTop (entryFrame m #[(.int p0)] 1)) t := fun t k => castTop (ef_433 m p0) k
  obtain ⟨fs, hr, hrun, hended, hW, hsame⟩ := X0.leave (v := some (.int (nar .boolean (if (255 : Int32) < p0 then (0 : Int32) else 1)))) (fun h => by rw [Bd.returns] at h; cases h)
  refine ⟨_, _, pre0 _ ?_, hrun, hended, _, _, rfl, ?_, ⟨_, rfl⟩, hW, hsame.mono (by decide) (by decide)⟩
  · show Steps p.tables e below (s₁.setTop (mkF m 0 #[.val (.int p0)] [])) _
    refine XS.iloadN X0.here hx rfl (hb hby d433_0) rfl ?_
    show Steps p.tables e below (s₁.setTop (mkF m 1 #[.val (.int p0)] [(.int p0)])) _
    refine XS.sipush X0.here hx rfl (hb hby d433_1) ?_
    show Steps p.tables e below (s₁.setTop (mkF m 4 #[.val (.int p0)] [(.int (255 : Int32)), (.int p0)])) _
    refine own_diaT2 X0.here hx rfl (pc0 := 4) rfl (hb hby d433_4) (hb hby d433_7) (hb hby d433_8) (hb hby d433_11) rfl (fun hq => (tlt hq).2.2.1) (fun hq => (flt hq).2.2.1) ?_
    show Steps p.tables e below (s₁.setTop (mkF m 12 #[.val (.int p0)] [(.int (if (255 : Int32) < p0 then (0 : Int32) else 1))])) _
    exact retN X0 hx (t := .boolean) Bd.returns (by simp) (hb hby d433_12) hr
  · show Q433 Z p0 h0 n0 _ s₁.heap _
    rw [e0]
    exact ⟨by rw [own_nb01], N0, (Keep.refl h0 [])⟩
theorem d4346_0 : decode jdk_43_method_46_code 0 = .ok (.iconst 1, 1) := by decide +kernel
theorem d4346_1 : decode jdk_43_method_46_code 1 = .ok (.newarray .byte, 2) := by decide +kernel
theorem d4346_3 : decode jdk_43_method_46_code 3 = .ok (.dup, 1) := by decide +kernel
theorem d4346_4 : decode jdk_43_method_46_code 4 = .ok (.iconst 0, 1) := by decide +kernel
theorem d4346_5 : decode jdk_43_method_46_code 5 = .ok (.iload_n 0, 1) := by decide +kernel
theorem d4346_6 : decode jdk_43_method_46_code 6 = .ok (.i2b, 1) := by decide +kernel
theorem d4346_7 : decode jdk_43_method_46_code 7 = .ok (.bastore, 1) := by decide +kernel
theorem d4346_8 : decode jdk_43_method_46_code 8 = .ok (.areturn, 1) := by decide +kernel
theorem ef_4346 (m : MethodId) (p0 : Int32) : entryFrame m #[(.int p0)] 1 = mkF m 0 #[.val (.int p0)] [] := by first | (simp [entryFrame, mkF, argsToLocals, Value.category]; done) | rfl
def Q4346 (Z : State) (p0 : Int32) (h0 : Heap) (n0 : Nat) (v : Option Value) (h : Heap) (L : List Loc) : Prop := ∃ b : Addr, v = some (.ref b) ∧ Fr n0 L ∧ Keep h0 h [] ∧ h0.size ≤ b
set_option maxRecDepth 65536 in
set_option maxHeartbeats 40000000 in
theorem rm4346 (l : Launch) (Z : State) (a0 : Array Value) (hw : ∀ d ∈ tables_1, d.before a0 Z = true) (ws : List Jvm.Cond) (p0 : Int32) (h0 : Heap) (n0 : Nat) (Z0 : n0 ≤ h0.size) :
    MetFree l (⟨"java/lang/StringLatin1", "toBytes", "(C)[B"⟩ : MethodName) (head1 (Jvm.Cond.code (⟨"java/lang/StringLatin1", "toBytes", "(C)[B"⟩ : MethodName) jdk_43_method_46_code 1 (some (.array .byte)) :: ws) ({ frames := 0, cells := 1, slots := 1, locals := 0 } : Room)) (fun a U => a = #[(.int p0)] ∧ Z.Warmed39 U.vm ∧ U.heap = h0) (fun _ _ _ _ _ => True) (fun _ U o U' => ∃ v L, o = .returned v ∧ Q4346 Z p0 h0 n0 v U'.heap L ∧ FrameEnd U o U' L ({ frames := 0, cells := 1, slots := 1, locals := 0 } : Room).cells ({ frames := 0, cells := 1, slots := 1, locals := 0 } : Room).slots) := by
  refine MetFree.of_bodySF (plainFor_of_name pn_java_lang_StringLatin1) hisR ?_
  intro p e s m args below meth c s₁ Bd hml0 hP hK
  obtain ⟨rfl, hZ, hh⟩ := hP
  have hx := Bd.exec
  have hby := Bd.bytes
  have hml : c.maxLocals = 1 := hml0
  have hown : s.vm.findClass "java/lang/StringLatin1" = some m.cls := findClass_of_methodNamed Bd.named
  have hnm := (name_of_methodNamed Bd.named Bd.method).1
  have X0 : Stand p l e ({ frames := 0, cells := 1, slots := 1, locals := 0 } : Room) s m #[(.int p0)] below meth c s₁ [] 0 0 := Stand.of_body Bd
  have e0 : s₁.heap = h0 := by rw [← hh, Bd.state]; rfl
  have N0 := Fr.nil n0
  have pre0 : ∀ t, Steps p.tables e below (s₁.setTop (mkF m 0 #[.val (.int p0)] [])) t → Steps p.tables e below (s₁.setTop (entryFrame m #[(.int p0)] 1)) t := fun t k => castTop (ef_4346 m p0) k
  obtain ⟨T1, h1, k1, X1, e1, E1, A1, st1⟩ := newP X0 hx hZ (hw _ (List.mem_of_getElem? (i := 6) rfl)) e0 (g := (mkF m 1 #[.val (.int p0)] [(.int (1 : Int32))])) rfl (hb hby d4346_1) rfl (by decide) (cap := 1) (by decide) (by decide) (by decide) (by decide)
  obtain ⟨b1, g1⟩ : ∃ z, z = h0.size := ⟨_, rfl⟩
  rw [← g1] at A1 st1
  have g_b1 : n0 ≤ b1 := Nat.le_trans Z0 (Nat.le_of_eq g1.symm)
  have sz_b1 : h0.size ≤ b1 := Nat.le_trans (Keep.refl h0 []).1 (Nat.le_of_eq g1.symm)
  have V_b1 : Arv Z h1 b1 k1 .byte (1 : Int32) [] (.int (0 : Int32)) := Arv.new A1 (by decide)
  have J1 : Keep h0 h1 [] := (Keep.refl h0 []).ext E1
  obtain ⟨cl2, Ar2, qk2, Sz2, Nn2, Hs2, Gs2⟩ := id (V_b1.pad (pad_rep _ _ 1))
  have hin2 : ¬ ((0 : Int32) < 0 ∨ cl2.slots.size ≤ ((0 : Int32)).toNatClampNeg) := inb_of Sz2 ⟨by decide, by decide⟩
  obtain ⟨T3, h3, X3, e3, W3, st3⟩ := stB X1 hx hZ e1 Ar2 (j := (0 : Int32)) hin2 (g := (mkF m 7 #[.val (.int p0)] [(.int (p0.toInt8.toInt32)), (.int (0 : Int32)), (.ref b1), (.ref b1)])) rfl rfl (hb hby d4346_7)
  have V3 : Arv Z h3 b1 k1 .byte (1 : Int32) ([(.int (0 : Int32))].set 0 (.int (nar .byte (p0.toInt8.toInt32)))) (.int (0 : Int32)) := Arv.set Ar2 qk2 Sz2 Nn2 Hs2 Gs2 (fits_nar_byte _) W3 0 rfl (by decide)
  have J3 : Keep h0 h3 [] := J1.wr W3 (Or.inr sz_b1)
  have N3 := Fr.snoc X3 N0 g_b1
  obtain ⟨fs, hr, hrun, hended, hW, hsame⟩ := X3.leave (v := some (.ref b1)) (fun h => by rw [Bd.returns] at h; cases h)
  refine ⟨_, _, pre0 _ ?_, hrun, hended, _, _, rfl, ?_, ⟨_, rfl⟩, hW, hsame.mono (by decide) (by decide)⟩
  · show Steps p.tables e below (s₁.setTop (mkF m 0 #[.val (.int p0)] [])) _
    refine XS.iconst X0.here hx rfl (hb hby d4346_0) ?_
    show Steps p.tables e below (s₁.setTop (mkF m 1 #[.val (.int p0)] [(.int (1 : Int32))])) _
    refine st1 _ ?_
    show Steps p.tables e below (T1.setTop (mkF m 3 #[.val (.int p0)] [(.ref b1)])) _
    refine XS.dup X1.here hx rfl (hb hby d4346_3) rfl rfl ?_
    show Steps p.tables e below (T1.setTop (mkF m 4 #[.val (.int p0)] [(.ref b1), (.ref b1)])) _
    refine XS.iconst X1.here hx rfl (hb hby d4346_4) ?_
    show Steps p.tables e below (T1.setTop (mkF m 5 #[.val (.int p0)] [(.int (0 : Int32)), (.ref b1), (.ref b1)])) _
    refine XS.iloadN X1.here hx rfl (hb hby d4346_5) rfl ?_
    show Steps p.tables e below (T1.setTop (mkF m 6 #[.val (.int p0)] [(.int p0), (.int (0 : Int32)), (.ref b1), (.ref b1)])) _
    refine XS.i2b X1.here hx rfl (hb hby d4346_6) rfl ?_
    show Steps p.tables e below (T1.setTop (mkF m 7 #[.val (.int p0)] [(.int (p0.toInt8.toInt32)), (.int (0 : Int32)), (.ref b1), (.ref b1)])) _
    refine st3 _ ?_
    show Steps p.tables e below (T3.setTop (mkF m 8 #[.val (.int p0)] [(.ref b1)])) _
    jvm_step X3.here [X3.here.top, hx, (hb hby d4346_8), X3.method', Bd.returns, Value.isRef, FieldType.isReference]
    first | (intro acts; rw [hr _ acts rfl rfl rfl]) | rw [hr _ _ rfl rfl rfl]
    exact Steps.refl _
  · show Q4346 Z p0 h0 n0 _ T3.heap _
    rw [e3]
    exact ⟨b1, rfl, N3, J3, sz_b1⟩
theorem d151_0 : decode jdk_42_method_151_code 0 = .ok (.aload_n 0, 1) := by decide +kernel
theorem d151_1 : decode jdk_42_method_151_code 1 = .ok (.invokespecial 1, 3) := by decide +kernel
theorem d151_4 : decode jdk_42_method_151_code 4 = .ok (.aload_n 0, 1) := by decide +kernel
theorem d151_5 : decode jdk_42_method_151_code 5 = .ok (.aload_n 1, 1) := by decide +kernel
theorem d151_6 : decode jdk_42_method_151_code 6 = .ok (.putfield 9, 3) := by decide +kernel
theorem d151_9 : decode jdk_42_method_151_code 9 = .ok (.aload_n 0, 1) := by decide +kernel
theorem d151_10 : decode jdk_42_method_151_code 10 = .ok (.iload_n 2, 1) := by decide +kernel
theorem d151_11 : decode jdk_42_method_151_code 11 = .ok (.putfield 15, 3) := by decide +kernel
theorem d151_14 : decode jdk_42_method_151_code 14 = .ok (.return_, 1) := by decide +kernel
theorem pn_java_lang_String : plainName "java/lang/String" = true := by first | (simp [plainName, overriddenIn]; done) | decide +kernel
theorem ef_151 (m : MethodId) (o0 : Addr) (o1 : Addr) (p2 : Int32) : entryFrame m #[(.ref o0), (.ref o1), (.int p2)] 3 = mkF m 0 #[.val (.ref o0), .val (.ref o1), .val (.int p2)] [] := by first | (simp [entryFrame, mkF, argsToLocals, Value.category]; done) | rfl
def Q151 (Z : State) (o0 : Addr) (o1 : Addr) (p2 : Int32) (h0 : Heap) (n0 : Nat) (v : Option Value) (h : Heap) (L : List Loc) : Prop := v = none ∧ Fr n0 L ∧ Keep h0 h [o0]
set_option maxRecDepth 65536 in
set_option maxHeartbeats 40000000 in
theorem rm151 (l : Launch) (Z : State) (a0 : Array Value) (hw : ∀ d ∈ tables_1, d.before a0 Z = true) (ws : List Jvm.Cond) (o0 : Addr) (o1 : Addr) (p2 : Int32) (h0 : Heap) (n0 : Nat) (Z0 : n0 ≤ h0.size) (E_o0 : Exa Z h0 o0 "java/lang/String") (F_value_o0 : Fld Z h0 o0 "java/lang/String" "value" "[B" .null) (F_coder_o0 : Fld Z h0 o0 "java/lang/String" "coder" "B" (.int (0 : Int32))) (g_o0 : n0 ≤ o0) :
    MetFree l (⟨"java/lang/String", "<init>", "([BB)V"⟩ : MethodName) (head1 (Jvm.Cond.code (⟨"java/lang/String", "<init>", "([BB)V"⟩ : MethodName) jdk_42_method_151_code 3 none :: ws) ({ frames := 1, cells := 0, slots := 0, locals := 12 } : Room)) (fun a U => a = #[(.ref o0), (.ref o1), (.int p2)] ∧ Z.Warmed39 U.vm ∧ U.heap = h0) (fun _ _ _ _ _ => True) (fun _ U o U' => ∃ v L, o = .returned v ∧ Q151 Z o0 o1 p2 h0 n0 v U'.heap L ∧ FrameEnd U o U' L ({ frames := 1, cells := 0, slots := 0, locals := 12 } : Room).cells ({ frames := 1, cells := 0, slots := 0, locals := 12 } : Room).slots) := by
  refine MetFree.of_bodySF (plainFor_of_name pn_java_lang_String) hisR ?_
  intro p e s m args below meth c s₁ Bd hml0 hP hK
  obtain ⟨rfl, hZ, hh⟩ := hP
  have hx := Bd.exec
  have hby := Bd.bytes
  have hml : c.maxLocals = 3 := hml0
  have hown : s.vm.findClass "java/lang/String" = some m.cls := findClass_of_methodNamed Bd.named
  have hnm := (name_of_methodNamed Bd.named Bd.method).1
  have X0 : Stand p l e ({ frames := 1, cells := 0, slots := 0, locals := 12 } : Room) s m #[(.ref o0), (.ref o1), (.int p2)] below meth c s₁ [] 0 0 := Stand.of_body Bd
  have e0 : s₁.heap = h0 := by rw [← hh, Bd.state]; rfl
  have N0 := Fr.nil n0
  have pre0 : ∀ t, Steps p.tables e below (s₁.setTop (mkF m 0 #[.val (.ref o0), .val (.ref o1), .val (.int p2)] [])) t → Steps p.tables e below (s₁.setTop (entryFrame m #[(.ref o0), (.ref o1), (.int p2)] 3)) t := fun t k => castTop (ef_151 m o0 o1 p2) k
  obtain ⟨T1, X1, e1, st1⟩ := initO X0 hx hZ hown (hw _ (List.mem_of_getElem? (i := 72) rfl)) (hw _ (List.mem_of_getElem? (i := 15) rfl)) (hw _ (List.mem_of_getElem? (i := 16) rfl)) e0 (g := (mkF m 1 #[.val (.ref o0), .val (.ref o1), .val (.int p2)] [(.ref o0)])) rfl (by rw [hml]; rfl) rfl (hb hby d151_1) (by decide) (W := 0) (by show 2 * 0 + _ ≤ _; exact Nat.le_of_eq rfl) (by decide)
  obtain ⟨T2, h2, X2, e2, W2, st2⟩ := putF X1 hx hZ hown (host := "") (Or.inl (hw _ (List.mem_of_getElem? (i := 73) rfl))) Via.refl e1 F_value_o0 E_o0 (Or.inr ⟨(hw _ (List.mem_of_getElem? (i := 7) rfl)), rfl, hnm⟩) (hw _ (List.mem_of_getElem? (i := 5) rfl)) (ty := (.array .byte)) (by decide) rfl rfl (g := (mkF m 6 #[.val (.ref o0), .val (.ref o1), .val (.int p2)] [(.ref o1), (.ref o0)])) rfl rfl (hb hby d151_6)
  have Fw2 : Fld Z h2 o0 "java/lang/String" "value" "[B" (.ref o1) := F_value_o0.same W2
  have J2 : Keep h0 h2 [o0] := (Keep.refl h0 [o0]).wr W2 (Or.inl (List.mem_of_getElem? (i := 0) rfl))
  have N2 := Fr.snoc X2 N0 g_o0
  have c3 : Fld Z h2 o0 "java/lang/String" "coder" "B" (.int (0 : Int32)) := (F_coder_o0.other W2 (Or.inr (slot_ne (Or.inr (hw _ (List.mem_of_getElem? (i := 8) rfl))) (Or.inr (hw _ (List.mem_of_getElem? (i := 7) rfl))) (by decide) (t := .byte) (t' := (.array .byte)) (by decide) (by decide))))
  have c4 : Exa Z h2 o0 "java/lang/String" := (E_o0.wr W2)
  obtain ⟨T5, h5, X5, e5, W5, st5⟩ := putFN X2 hx hZ hown (hw _ (List.mem_of_getElem? (i := 74) rfl)) Via.refl e2 c3 c4 (Or.inr ⟨(hw _ (List.mem_of_getElem? (i := 8) rfl)), rfl, hnm⟩) (hw _ (List.mem_of_getElem? (i := 5) rfl)) (ty := .byte) (v' := (.int (nar .byte p2))) (by decide) rfl (fits_nar_byte _) (g := (mkF m 11 #[.val (.ref o0), .val (.ref o1), .val (.int p2)] [(.int p2), (.ref o0)])) rfl rfl (hb hby d151_11)
  have Fw5 : Fld Z h5 o0 "java/lang/String" "coder" "B" (.int (nar .byte p2)) := c3.same W5
  have J5 : Keep h0 h5 [o0] := J2.wr W5 (Or.inl (List.mem_of_getElem? (i := 0) rfl))
  have N5 := Fr.snoc X5 N2 g_o0
  obtain ⟨fs, hr, hrun, hended, hW, hsame⟩ := X5.leave (v := none) (fun _ => rfl)
  refine ⟨_, _, pre0 _ ?_, hrun, hended, _, _, rfl, ?_, ⟨_, rfl⟩, hW, hsame.mono (by decide) (by decide)⟩
  · show Steps p.tables e below (s₁.setTop (mkF m 0 #[.val (.ref o0), .val (.ref o1), .val (.int p2)] [])) _
    refine XS.aloadN X0.here hx rfl (hb hby d151_0) rfl rfl ?_
    show Steps p.tables e below (s₁.setTop (mkF m 1 #[.val (.ref o0), .val (.ref o1), .val (.int p2)] [(.ref o0)])) _
    refine st1 _ ?_
    show Steps p.tables e below (T1.setTop (mkF m 4 #[.val (.ref o0), .val (.ref o1), .val (.int p2)] [])) _
    refine XS.aloadN X1.here hx rfl (hb hby d151_4) rfl rfl ?_
    show Steps p.tables e below (T1.setTop (mkF m 5 #[.val (.ref o0), .val (.ref o1), .val (.int p2)] [(.ref o0)])) _
    refine XS.aloadN X1.here hx rfl (hb hby d151_5) rfl rfl ?_
    show Steps p.tables e below (T1.setTop (mkF m 6 #[.val (.ref o0), .val (.ref o1), .val (.int p2)] [(.ref o1), (.ref o0)])) _
    refine st2 _ ?_
    show Steps p.tables e below (T2.setTop (mkF m 9 #[.val (.ref o0), .val (.ref o1), .val (.int p2)] [])) _
    refine XS.aloadN X2.here hx rfl (hb hby d151_9) rfl rfl ?_
    show Steps p.tables e below (T2.setTop (mkF m 10 #[.val (.ref o0), .val (.ref o1), .val (.int p2)] [(.ref o0)])) _
    refine XS.iloadN X2.here hx rfl (hb hby d151_10) rfl ?_
    show Steps p.tables e below (T2.setTop (mkF m 11 #[.val (.ref o0), .val (.ref o1), .val (.int p2)] [(.int p2), (.ref o0)])) _
    refine st5 _ ?_
    show Steps p.tables e below (T5.setTop (mkF m 14 #[.val (.ref o0), .val (.ref o1), .val (.int p2)] [])) _
    exact X5.returnOut hx Bd.returns (hb hby d151_14) hr
  · show Q151 Z o0 o1 p2 h0 n0 _ T5.heap _
    rw [e5]
    exact ⟨rfl, N5, J5⟩
theorem d139_0 : decode jdk_42_method_139_code 0 = .ok (.getstatic 38, 3) := by decide +kernel
theorem d139_3 : decode jdk_42_method_139_code 3 = .ok (.ifCond .eq 23, 3) := by decide +kernel
theorem d139_6 : decode jdk_42_method_139_code 6 = .ok (.iload_n 0, 1) := by decide +kernel
theorem d139_7 : decode jdk_42_method_139_code 7 = .ok (.invokestatic 1015, 3) := by decide +kernel
theorem d139_10 : decode jdk_42_method_139_code 10 = .ok (.ifCond .eq 16, 3) := by decide +kernel
theorem d139_13 : decode jdk_42_method_139_code 13 = .ok (.new 10, 3) := by decide +kernel
theorem d139_16 : decode jdk_42_method_139_code 16 = .ok (.dup, 1) := by decide +kernel
theorem d139_17 : decode jdk_42_method_139_code 17 = .ok (.iload_n 0, 1) := by decide +kernel
theorem d139_18 : decode jdk_42_method_139_code 18 = .ok (.invokestatic 1018, 3) := by decide +kernel
theorem d139_21 : decode jdk_42_method_139_code 21 = .ok (.iconst 0, 1) := by decide +kernel
theorem d139_22 : decode jdk_42_method_139_code 22 = .ok (.invokespecial 209, 3) := by decide +kernel
theorem d139_25 : decode jdk_42_method_139_code 25 = .ok (.areturn, 1) := by decide +kernel
theorem pd_1 : parseMethodDescriptor "(C)Z" = some ⟨[.char], some .boolean⟩ := by decide +kernel
theorem pd_2 : parseMethodDescriptor "(C)[B" = some ⟨[.char], some (.array .byte)⟩ := by decide +kernel
theorem pd_3 : parseMethodDescriptor "([BB)V" = some ⟨[(.array .byte), .byte], none⟩ := by decide +kernel
theorem ef_139 (m : MethodId) (p0 : Int32) : entryFrame m #[(.int p0)] 1 = mkF m 0 #[.val (.int p0)] [] := by first | (simp [entryFrame, mkF, argsToLocals, Value.category]; done) | rfl
def Q139 (Z : State) (p0 : Int32) (cs : Int32) (h0 : Heap) (n0 : Nat) (v : Option Value) (h : Heap) (L : List Loc) : Prop := ∃ b : Addr, v = some (.ref b) ∧ Fr n0 L ∧ Keep h0 h [] ∧ h0.size ≤ b
set_option maxRecDepth 65536 in
set_option maxHeartbeats 40000000 in
theorem rm139 (l : Launch) (Z : State) (a0 : Array Value) (hw : ∀ d ∈ tables_1, d.before a0 Z = true) (ws : List Jvm.Cond) (p0 : Int32) (cs : Int32) (h0 : Heap) (n0 : Nat) (Z0 : n0 ≤ h0.size) (S_COMPACT_STRINGS : Sta Z h0 "java/lang/String" "COMPACT_STRINGS" "Z" (.int cs)) (hcs : ¬ cs = (0 : Int32)) (hch : ¬ (255 : Int32) < p0) :
    MetFree l (⟨"java/lang/String", "valueOf", "(C)Ljava/lang/String;"⟩ : MethodName) (head1 (Jvm.Cond.code (⟨"java/lang/String", "valueOf", "(C)Ljava/lang/String;"⟩ : MethodName) jdk_42_method_139_code 1 (some (.object "java/lang/String")) :: ws) ({ frames := 2, cells := 2, slots := 5, locals := 27 } : Room)) (fun a U => a = #[(.int p0)] ∧ Z.Warmed39 U.vm ∧ U.heap = h0) (fun _ _ _ _ _ => True) (fun _ U o U' => ∃ v L, o = .returned v ∧ Q139 Z p0 cs h0 n0 v U'.heap L ∧ FrameEnd U o U' L ({ frames := 2, cells := 2, slots := 5, locals := 27 } : Room).cells ({ frames := 2, cells := 2, slots := 5, locals := 27 } : Room).slots) := by
  refine MetFree.of_bodySF (plainFor_of_name pn_java_lang_String) hisR ?_
  intro p e s m args below meth c s₁ Bd hml0 hP hK
  obtain ⟨rfl, hZ, hh⟩ := hP
  have hx := Bd.exec
  have hby := Bd.bytes
  have hml : c.maxLocals = 1 := hml0
  have hown : s.vm.findClass "java/lang/String" = some m.cls := findClass_of_methodNamed Bd.named
  have hnm := (name_of_methodNamed Bd.named Bd.method).1
  have X0 : Stand p l e ({ frames := 2, cells := 2, slots := 5, locals := 27 } : Room) s m #[(.int p0)] below meth c s₁ [] 0 0 := Stand.of_body Bd
  have e0 : s₁.heap = h0 := by rw [← hh, Bd.state]; rfl
  have N0 := Fr.nil n0
  have pre0 : ∀ t, Steps p.tables e below (s₁.setTop (mkF m 0 #[.val (.int p0)] [])) t → Steps p.tables e below (s₁.setTop (entryFrame m #[(.int p0)] 1)) t := fun t k => castTop (ef_139 m p0) k
  obtain ⟨T1, X1, e1, st1⟩ := getS2 X0 hx hZ hown (host := "") (Or.inl (hw _ (List.mem_of_getElem? (i := 59) rfl))) Via.refl e0 S_COMPACT_STRINGS (g := (mkF m 0 #[.val (.int p0)] [])) rfl (hb hby d139_0)
  -- pc 7: StringLatin1.canEncode by rm433
  obtain ⟨_, _, ⟨T2, L2, k2, n2⟩, -, X2, ⟨Lc2, hQ2, l2, y2, z2'⟩, st2⟩ := Jvm.LawKit.callS X1 hx (y := (⟨"java/lang/StringLatin1", "canEncode", "(C)Z"⟩ : MethodName)) hown (mvT hZ (hw _ (List.mem_of_getElem? (i := 60) rfl))) (mvT hZ (hw _ (List.mem_of_getElem? (i := 61) rfl))) (mvT hZ (hw _ (List.mem_of_getElem? (i := 62) rfl))) (mvT hZ (hw _ (List.mem_of_getElem? (i := 63) rfl))) (by decide) (backOf (W := 0) (rm433 l Z a0 hw [] p0 h0 n0 Z0 ) hZ (hw _ (List.mem_of_getElem? (i := 63) rfl)) (hw _ (List.mem_of_getElem? (i := 62) rfl)) (by decide) (by decide)) (g := (mkF m 7 #[.val (.int p0)] [(.int p0)])) rfl (by rw [hml]; rfl) (argsL := [(.int p0)]) (rest := []) (lenOf pd_1 rfl) rfl (by show 2 * 0 + _ ≤ _; exact Nat.le_of_eq rfl) (hb hby d139_7) (fun _ _ => ⟨rfl, e1, (by decide : 0 + 0 ≤ _), (by decide : 0 + 0 ≤ _)⟩)
  dsimp only [Pt.U, Pt.locs, Pt.cells, Pt.slots] at X2 l2 y2 z2' st2 hQ2
  subst l2 y2 z2'
  obtain ⟨rfl, N2q, K2⟩ := hQ2
  have N2 := Fr.app N0 N2q
  have J2 : Keep h0 T2.heap [] := (Keep.refl h0 []).trans K2 all0
  have z3 : n0 ≤ T2.heap.size := (Nat.le_trans Z0 K2.1)
  obtain ⟨T4, h4, X4, e4, E4, A4, D4, U4, st4⟩ := newO X2 hx hZ hown (hw _ (List.mem_of_getElem? (i := 64) rfl)) (hw _ (List.mem_of_getElem? (i := 5) rfl)) (hw _ (List.mem_of_getElem? (i := 4) rfl)) rfl (g := (mkF m 13 #[.val (.int p0)] [])) rfl (hb hby d139_13) (by decide) (by decide)
  obtain ⟨b4, g4⟩ : ∃ z, z = T2.heap.size := ⟨_, rfl⟩
  rw [← g4] at A4 D4 U4 st4
  have g_b4 : n0 ≤ b4 := Nat.le_trans z3 (Nat.le_of_eq g4.symm)
  have sz_b4 : h0.size ≤ b4 := Nat.le_trans J2.1 (Nat.le_of_eq g4.symm)
  have F_value_b4 : Fld Z h4 b4 "java/lang/String" "value" "[B" .null := D4 (Or.inr (hw _ (List.mem_of_getElem? (i := 7) rfl))) (ty := (.array .byte)) (by decide)
  have F_coder_b4 : Fld Z h4 b4 "java/lang/String" "coder" "B" (.int (0 : Int32)) := D4 (Or.inr (hw _ (List.mem_of_getElem? (i := 8) rfl))) (ty := .byte) (by decide)
  have J4 : Keep h0 h4 [] := J2.ext E4
  have z5 : n0 ≤ h4.size := (Nat.le_trans z3 E4.1)
  -- pc 18: StringLatin1.toBytes by rm4346
  obtain ⟨_, _, ⟨T6, L6, k6, n6⟩, -, X6, ⟨Lc6, hQ6, l6, y6, z6'⟩, st6⟩ := Jvm.LawKit.callS X4 hx (y := (⟨"java/lang/StringLatin1", "toBytes", "(C)[B"⟩ : MethodName)) hown (mvT hZ (hw _ (List.mem_of_getElem? (i := 65) rfl))) (mvT hZ (hw _ (List.mem_of_getElem? (i := 66) rfl))) (mvT hZ (hw _ (List.mem_of_getElem? (i := 62) rfl))) (mvT hZ (hw _ (List.mem_of_getElem? (i := 67) rfl))) (by decide) (backOf (W := 2) (rm4346 l Z a0 hw [] p0 h4 n0 z5 ) hZ (hw _ (List.mem_of_getElem? (i := 67) rfl)) (hw _ (List.mem_of_getElem? (i := 62) rfl)) (by decide) (by decide)) (g := (mkF m 18 #[.val (.int p0)] [(.int p0), (.ref b4), (.ref b4)])) rfl (by rw [hml]; rfl) (argsL := [(.int p0)]) (rest := [(.ref b4), (.ref b4)]) (lenOf pd_2 rfl) rfl (by show 2 * 0 + _ ≤ _; exact Nat.le_of_eq rfl) (hb hby d139_18) (fun _ _ => ⟨rfl, e4, (by decide : 1 + 1 ≤ _), (by decide : 4 + 1 ≤ _)⟩)
  dsimp only [Pt.U, Pt.locs, Pt.cells, Pt.slots] at X6 l6 y6 z6' st6 hQ6
  subst l6 y6 z6'
  obtain ⟨b_6, rfl, N6q, K6, r0_6⟩ := hQ6
  have N6 := Fr.app N2 N6q
  have J6 : Keep h0 T6.heap [] := J4.trans K6 all0
  have g_b_6 : n0 ≤ b_6 := Nat.le_trans z5 r0_6
  have sz_b_6 : h0.size ≤ b_6 := Nat.le_trans J4.1 r0_6
  have ne7 : b4 ≠ b_6 := Nat.ne_of_lt (Nat.lt_of_lt_of_le A4.lt r0_6)
  have c8 : Exa Z T6.heap b4 "java/lang/String" := (A4.keep K6)
  have c9 : Fld Z T6.heap b4 "java/lang/String" "value" "[B" .null := (F_value_b4.keep K6 nin0)
  have c10 : Fld Z T6.heap b4 "java/lang/String" "coder" "B" (.int (0 : Int32)) := (F_coder_b4.keep K6 nin0)
  have z11 : n0 ≤ T6.heap.size := (Nat.le_trans z5 K6.1)
  -- pc 22: String.<init> by rm151
  obtain ⟨_, _, ⟨T12, L12, k12, n12⟩, -, X12, ⟨Lc12, hQ12, l12, y12, z12'⟩, st12⟩ := X6.specialBack hx (y := (⟨"java/lang/String", "<init>", "([BB)V"⟩ : MethodName)) rfl hown (mvT hZ (hw _ (List.mem_of_getElem? (i := 68) rfl))) (mvT hZ (hw _ (List.mem_of_getElem? (i := 69) rfl))) (mvT hZ (hw _ (List.mem_of_getElem? (i := 71) rfl))) (by decide) (backOf (W := 1) (rm151 l Z a0 hw [] b4 b_6 (0 : Int32) T6.heap n0 z11 c8 c9 c10 g_b4) hZ (hw _ (List.mem_of_getElem? (i := 71) rfl)) (hw _ (List.mem_of_getElem? (i := 4) rfl)) (by decide) (by decide)) (g := (mkF m 22 #[.val (.int p0)] [(.int (0 : Int32)), (.ref b_6), (.ref b4), (.ref b4)])) rfl (by rw [hml]; rfl) (Steps.refl _) (a := b4) (argsL := [(.ref b_6), (.int (0 : Int32))]) (rest := [(.ref b4)]) (lenOf pd_3 rfl) rfl (by show 2 * 0 + _ ≤ _; exact Nat.le_of_eq rfl) (hb hby d139_22) (fun _ _ => ⟨rfl, rfl, (by decide : 2 + 0 ≤ _), (by decide : 5 + 0 ≤ _)⟩)
  dsimp only [Pt.U, Pt.locs, Pt.cells, Pt.slots] at X12 l12 y12 z12' st12 hQ12
  subst l12 y12 z12'
  obtain ⟨rfl, N12q, K12⟩ := hQ12
  have N12 := Fr.app N6 N12q
  have J12 : Keep h0 T12.heap [] := J6.trans K12 (allS (Or.inr sz_b4) all0)
  obtain ⟨fs, hr, hrun, hended, hW, hsame⟩ := X12.leave (v := some (.ref b4)) (fun h => by rw [Bd.returns] at h; cases h)
  refine ⟨_, _, pre0 _ ?_, hrun, hended, _, _, rfl, ?_, ⟨_, rfl⟩, hW, hsame.mono (by decide) (by decide)⟩
  · show Steps p.tables e below (s₁.setTop (mkF m 0 #[.val (.int p0)] [])) _
    refine st1 _ ?_
    show Steps p.tables e below (T1.setTop (mkF m 3 #[.val (.int p0)] [(.int cs)])) _
    refine XS.ifNo X1.here hx rfl (hb hby d139_3) rfl ((if0 _ _).trans (feq hcs).1) ?_
    show Steps p.tables e below (T1.setTop (mkF m 6 #[.val (.int p0)] [])) _
    refine XS.iloadN X1.here hx rfl (hb hby d139_6) rfl ?_
    show Steps p.tables e below (T1.setTop (mkF m 7 #[.val (.int p0)] [(.int p0)])) _
    refine st2 _ ?_
    show Steps p.tables e below (T2.setTop (mkF m 10 #[.val (.int p0)] [(.int (if (255 : Int32) < p0 then (0 : Int32) else 1))])) _
    refine XS.ifNo X2.here hx rfl (hb hby d139_10) rfl ((if0 _ _).trans (feq (own_b01n hch)).1) ?_
    show Steps p.tables e below (T2.setTop (mkF m 13 #[.val (.int p0)] [])) _
    refine st4 _ ?_
    show Steps p.tables e below (T4.setTop (mkF m 16 #[.val (.int p0)] [(.ref b4)])) _
    refine XS.dup X4.here hx rfl (hb hby d139_16) rfl rfl ?_
    show Steps p.tables e below (T4.setTop (mkF m 17 #[.val (.int p0)] [(.ref b4), (.ref b4)])) _
    refine XS.iloadN X4.here hx rfl (hb hby d139_17) rfl ?_
    show Steps p.tables e below (T4.setTop (mkF m 18 #[.val (.int p0)] [(.int p0), (.ref b4), (.ref b4)])) _
    refine st6 _ ?_
    show Steps p.tables e below (T6.setTop (mkF m 21 #[.val (.int p0)] [(.ref b_6), (.ref b4), (.ref b4)])) _
    refine XS.iconst X6.here hx rfl (hb hby d139_21) ?_
    show Steps p.tables e below (T6.setTop (mkF m 22 #[.val (.int p0)] [(.int (0 : Int32)), (.ref b_6), (.ref b4), (.ref b4)])) _
    refine st12.trans ?_
    show Steps p.tables e below (T12.setTop (mkF m 25 #[.val (.int p0)] [(.ref b4)])) _
    jvm_step X12.here [X12.here.top, hx, (hb hby d139_25), X12.method', Bd.returns, Value.isRef, FieldType.isReference]
    first | (intro acts; rw [hr _ acts rfl rfl rfl]) | rw [hr _ _ rfl rfl rfl]
    exact Steps.refl _
  · show Q139 Z p0 cs h0 n0 _ T12.heap _
    exact ⟨b4, rfl, N12, J12, sz_b4⟩
theorem d49_0 : decode prog_49_method_1_code 0 = .ok (.aload_n 0, 1) := by decide +kernel
theorem d49_1 : decode prog_49_method_1_code 1 = .ok (.invokespecial 1, 3) := by decide +kernel
theorem d49_4 : decode prog_49_method_1_code 4 = .ok (.aload_n 0, 1) := by decide +kernel
theorem d49_5 : decode prog_49_method_1_code 5 = .ok (.iload_n 1, 1) := by decide +kernel
theorem d49_6 : decode prog_49_method_1_code 6 = .ok (.putfield 7, 3) := by decide +kernel
theorem d49_9 : decode prog_49_method_1_code 9 = .ok (.aload_n 0, 1) := by decide +kernel
theorem d49_10 : decode prog_49_method_1_code 10 = .ok (.aload_n 2, 1) := by decide +kernel
theorem d49_11 : decode prog_49_method_1_code 11 = .ok (.putfield 13, 3) := by decide +kernel
theorem d49_14 : decode prog_49_method_1_code 14 = .ok (.aload_n 0, 1) := by decide +kernel
theorem d49_15 : decode prog_49_method_1_code 15 = .ok (.iload_n 3, 1) := by decide +kernel
theorem d49_16 : decode prog_49_method_1_code 16 = .ok (.putfield 17, 3) := by decide +kernel
theorem d49_19 : decode prog_49_method_1_code 19 = .ok (.return_, 1) := by decide +kernel
theorem pn_com_example_tierline_tierline_csv_LineProblems_Problem : plainName "com/example/tierline/tierline/csv/LineProblems$Problem" = true := by first | (simp [plainName, overriddenIn]; done) | decide +kernel
theorem ef_49 (m : MethodId) (o0 : Addr) (p1 : Int32) (o2 : Addr) (p3 : Int32) : entryFrame m #[(.ref o0), (.int p1), (.ref o2), (.int p3)] 4 = mkF m 0 #[.val (.ref o0), .val (.int p1), .val (.ref o2), .val (.int p3)] [] := by first | (simp [entryFrame, mkF, argsToLocals, Value.category]; done) | rfl
def Q49 (Z : State) (o0 : Addr) (p1 : Int32) (o2 : Addr) (p3 : Int32) (h0 : Heap) (n0 : Nat) (v : Option Value) (h : Heap) (L : List Loc) : Prop := v = none ∧ Fr n0 L ∧ Keep h0 h [o0] ∧ Fld Z h o0 "com/example/tierline/tierline/csv/LineProblems$Problem" "line" "I" (.int p1) ∧ Fld Z h o0 "com/example/tierline/tierline/csv/LineProblems$Problem" "conflict" "Z" (.int (nar .boolean p3))
set_option maxRecDepth 65536 in
set_option maxHeartbeats 40000000 in
theorem rm49 (l : Launch) (Z : State) (a0 : Array Value) (hw : ∀ d ∈ tables_1, d.before a0 Z = true) (ws : List Jvm.Cond) (o0 : Addr) (p1 : Int32) (o2 : Addr) (p3 : Int32) (h0 : Heap) (n0 : Nat) (Z0 : n0 ≤ h0.size) (E_o0 : Exa Z h0 o0 "com/example/tierline/tierline/csv/LineProblems$Problem") (F_line_o0 : Fld Z h0 o0 "com/example/tierline/tierline/csv/LineProblems$Problem" "line" "I" (.int (0 : Int32))) (F_reason_o0 : Fld Z h0 o0 "com/example/tierline/tierline/csv/LineProblems$Problem" "reason" "Ljava/lang/String;" .null) (F_conflict_o0 : Fld Z h0 o0 "com/example/tierline/tierline/csv/LineProblems$Problem" "conflict" "Z" (.int (0 : Int32))) (g_o0 : n0 ≤ o0) :
    MetFree l (⟨"com/example/tierline/tierline/csv/LineProblems$Problem", "<init>", "(ILjava/lang/String;Z)V"⟩ : MethodName) (head1 (Jvm.Cond.code (⟨"com/example/tierline/tierline/csv/LineProblems$Problem", "<init>", "(ILjava/lang/String;Z)V"⟩ : MethodName) prog_49_method_1_code 4 none :: ws) ({ frames := 1, cells := 0, slots := 0, locals := 12 } : Room)) (fun a U => a = #[(.ref o0), (.int p1), (.ref o2), (.int p3)] ∧ Z.Warmed39 U.vm ∧ U.heap = h0) (fun _ _ _ _ _ => True) (fun _ U o U' => ∃ v L, o = .returned v ∧ Q49 Z o0 p1 o2 p3 h0 n0 v U'.heap L ∧ FrameEnd U o U' L ({ frames := 1, cells := 0, slots := 0, locals := 12 } : Room).cells ({ frames := 1, cells := 0, slots := 0, locals := 12 } : Room).slots) := by
  refine MetFree.of_bodySF (plainFor_of_name pn_com_example_tierline_tierline_csv_LineProblems_Problem) hisR ?_
  intro p e s m args below meth c s₁ Bd hml0 hP hK
  obtain ⟨rfl, hZ, hh⟩ := hP
  have hx := Bd.exec
  have hby := Bd.bytes
  have hml : c.maxLocals = 4 := hml0
  have hown : s.vm.findClass "com/example/tierline/tierline/csv/LineProblems$Problem" = some m.cls := findClass_of_methodNamed Bd.named
  have hnm := (name_of_methodNamed Bd.named Bd.method).1
  have X0 : Stand p l e ({ frames := 1, cells := 0, slots := 0, locals := 12 } : Room) s m #[(.ref o0), (.int p1), (.ref o2), (.int p3)] below meth c s₁ [] 0 0 := Stand.of_body Bd
  have e0 : s₁.heap = h0 := by rw [← hh, Bd.state]; rfl
  have N0 := Fr.nil n0
  have pre0 : ∀ t, Steps p.tables e below (s₁.setTop (mkF m 0 #[.val (.ref o0), .val (.int p1), .val (.ref o2), .val (.int p3)] [])) t → Steps p.tables e below (s₁.setTop (entryFrame m #[(.ref o0), (.int p1), (.ref o2), (.int p3)] 4)) t := fun t k => castTop (ef_49 m o0 p1 o2 p3) k
  obtain ⟨T1, X1, e1, st1⟩ := initO X0 hx hZ hown (hw _ (List.mem_of_getElem? (i := 86) rfl)) (hw _ (List.mem_of_getElem? (i := 15) rfl)) (hw _ (List.mem_of_getElem? (i := 16) rfl)) e0 (g := (mkF m 1 #[.val (.ref o0), .val (.int p1), .val (.ref o2), .val (.int p3)] [(.ref o0)])) rfl (by rw [hml]; rfl) rfl (hb hby d49_1) (by decide) (W := 0) (by show 2 * 0 + _ ≤ _; exact Nat.le_of_eq rfl) (by decide)
  obtain ⟨T2, h2, X2, e2, W2, st2⟩ := putF X1 hx hZ hown (host := "") (Or.inl (hw _ (List.mem_of_getElem? (i := 87) rfl))) Via.refl e1 F_line_o0 E_o0 (Or.inr ⟨(hw _ (List.mem_of_getElem? (i := 88) rfl)), rfl, hnm⟩) (hw _ (List.mem_of_getElem? (i := 81) rfl)) (ty := .int) (by decide) rfl rfl (g := (mkF m 6 #[.val (.ref o0), .val (.int p1), .val (.ref o2), .val (.int p3)] [(.int p1), (.ref o0)])) rfl rfl (hb hby d49_6)
  have Fw2 : Fld Z h2 o0 "com/example/tierline/tierline/csv/LineProblems$Problem" "line" "I" (.int p1) := F_line_o0.same W2
  have J2 : Keep h0 h2 [o0] := (Keep.refl h0 [o0]).wr W2 (Or.inl (List.mem_of_getElem? (i := 0) rfl))
  have N2 := Fr.snoc X2 N0 g_o0
  have c3 : Fld Z h2 o0 "com/example/tierline/tierline/csv/LineProblems$Problem" "reason" "Ljava/lang/String;" .null := (F_reason_o0.other W2 (Or.inr (slot_ne (Or.inr (hw _ (List.mem_of_getElem? (i := 90) rfl))) (Or.inr (hw _ (List.mem_of_getElem? (i := 88) rfl))) (by decide) (t := (.object "java/lang/String")) (t' := .int) (by decide) (by decide))))
  have c4 : Exa Z h2 o0 "com/example/tierline/tierline/csv/LineProblems$Problem" := (E_o0.wr W2)
  obtain ⟨T5, h5, X5, e5, W5, st5⟩ := putF X2 hx hZ hown (host := "") (Or.inl (hw _ (List.mem_of_getElem? (i := 89) rfl))) Via.refl e2 c3 c4 (Or.inr ⟨(hw _ (List.mem_of_getElem? (i := 90) rfl)), rfl, hnm⟩) (hw _ (List.mem_of_getElem? (i := 81) rfl)) (ty := (.object "java/lang/String")) (by decide) rfl rfl (g := (mkF m 11 #[.val (.ref o0), .val (.int p1), .val (.ref o2), .val (.int p3)] [(.ref o2), (.ref o0)])) rfl rfl (hb hby d49_11)
  have Fw5 : Fld Z h5 o0 "com/example/tierline/tierline/csv/LineProblems$Problem" "reason" "Ljava/lang/String;" (.ref o2) := c3.same W5
  have J5 : Keep h0 h5 [o0] := J2.wr W5 (Or.inl (List.mem_of_getElem? (i := 0) rfl))
  have N5 := Fr.snoc X5 N2 g_o0
  have c6 : Fld Z h5 o0 "com/example/tierline/tierline/csv/LineProblems$Problem" "conflict" "Z" (.int (0 : Int32)) := ((F_conflict_o0.other W2 (Or.inr (slot_ne (Or.inr (hw _ (List.mem_of_getElem? (i := 92) rfl))) (Or.inr (hw _ (List.mem_of_getElem? (i := 88) rfl))) (by decide) (t := .boolean) (t' := .int) (by decide) (by decide)))).other W5 (Or.inr (slot_ne (Or.inr (hw _ (List.mem_of_getElem? (i := 92) rfl))) (Or.inr (hw _ (List.mem_of_getElem? (i := 90) rfl))) (by decide) (t := .boolean) (t' := (.object "java/lang/String")) (by decide) (by decide))))
  have c7 : Exa Z h5 o0 "com/example/tierline/tierline/csv/LineProblems$Problem" := (c4.wr W5)
  obtain ⟨T8, h8, X8, e8, W8, st8⟩ := putFN X5 hx hZ hown (hw _ (List.mem_of_getElem? (i := 91) rfl)) Via.refl e5 c6 c7 (Or.inr ⟨(hw _ (List.mem_of_getElem? (i := 92) rfl)), rfl, hnm⟩) (hw _ (List.mem_of_getElem? (i := 81) rfl)) (ty := .boolean) (v' := (.int (nar .boolean p3))) (by decide) rfl (fits_nar_bool _) (g := (mkF m 16 #[.val (.ref o0), .val (.int p1), .val (.ref o2), .val (.int p3)] [(.int p3), (.ref o0)])) rfl rfl (hb hby d49_16)
  have Fw8 : Fld Z h8 o0 "com/example/tierline/tierline/csv/LineProblems$Problem" "conflict" "Z" (.int (nar .boolean p3)) := c6.same W8
  have J8 : Keep h0 h8 [o0] := J5.wr W8 (Or.inl (List.mem_of_getElem? (i := 0) rfl))
  have N8 := Fr.snoc X8 N5 g_o0
  have c9 : Fld Z h8 o0 "com/example/tierline/tierline/csv/LineProblems$Problem" "line" "I" (.int p1) := ((Fw2.other W5 (Or.inr (slot_ne (Or.inr (hw _ (List.mem_of_getElem? (i := 88) rfl))) (Or.inr (hw _ (List.mem_of_getElem? (i := 90) rfl))) (by decide) (t := .int) (t' := (.object "java/lang/String")) (by decide) (by decide)))).other W8 (Or.inr (slot_ne (Or.inr (hw _ (List.mem_of_getElem? (i := 88) rfl))) (Or.inr (hw _ (List.mem_of_getElem? (i := 92) rfl))) (by decide) (t := .int) (t' := .boolean) (by decide) (by decide))))
  obtain ⟨fs, hr, hrun, hended, hW, hsame⟩ := X8.leave (v := none) (fun _ => rfl)
  refine ⟨_, _, pre0 _ ?_, hrun, hended, _, _, rfl, ?_, ⟨_, rfl⟩, hW, hsame.mono (by decide) (by decide)⟩
  · show Steps p.tables e below (s₁.setTop (mkF m 0 #[.val (.ref o0), .val (.int p1), .val (.ref o2), .val (.int p3)] [])) _
    refine XS.aloadN X0.here hx rfl (hb hby d49_0) rfl rfl ?_
    show Steps p.tables e below (s₁.setTop (mkF m 1 #[.val (.ref o0), .val (.int p1), .val (.ref o2), .val (.int p3)] [(.ref o0)])) _
    refine st1 _ ?_
    show Steps p.tables e below (T1.setTop (mkF m 4 #[.val (.ref o0), .val (.int p1), .val (.ref o2), .val (.int p3)] [])) _
    refine XS.aloadN X1.here hx rfl (hb hby d49_4) rfl rfl ?_
    show Steps p.tables e below (T1.setTop (mkF m 5 #[.val (.ref o0), .val (.int p1), .val (.ref o2), .val (.int p3)] [(.ref o0)])) _
    refine XS.iloadN X1.here hx rfl (hb hby d49_5) rfl ?_
    show Steps p.tables e below (T1.setTop (mkF m 6 #[.val (.ref o0), .val (.int p1), .val (.ref o2), .val (.int p3)] [(.int p1), (.ref o0)])) _
    refine st2 _ ?_
    show Steps p.tables e below (T2.setTop (mkF m 9 #[.val (.ref o0), .val (.int p1), .val (.ref o2), .val (.int p3)] [])) _
    refine XS.aloadN X2.here hx rfl (hb hby d49_9) rfl rfl ?_
    show Steps p.tables e below (T2.setTop (mkF m 10 #[.val (.ref o0), .val (.int p1), .val (.ref o2), .val (.int p3)] [(.ref o0)])) _
    refine XS.aloadN X2.here hx rfl (hb hby d49_10) rfl rfl ?_
    show Steps p.tables e below (T2.setTop (mkF m 11 #[.val (.ref o0), .val (.int p1), .val (.ref o2), .val (.int p3)] [(.ref o2), (.ref o0)])) _
    refine st5 _ ?_
    show Steps p.tables e below (T5.setTop (mkF m 14 #[.val (.ref o0), .val (.int p1), .val (.ref o2), .val (.int p3)] [])) _
    refine XS.aloadN X5.here hx rfl (hb hby d49_14) rfl rfl ?_
    show Steps p.tables e below (T5.setTop (mkF m 15 #[.val (.ref o0), .val (.int p1), .val (.ref o2), .val (.int p3)] [(.ref o0)])) _
    refine XS.iloadN X5.here hx rfl (hb hby d49_15) rfl ?_
    show Steps p.tables e below (T5.setTop (mkF m 16 #[.val (.ref o0), .val (.int p1), .val (.ref o2), .val (.int p3)] [(.int p3), (.ref o0)])) _
    refine st8 _ ?_
    show Steps p.tables e below (T8.setTop (mkF m 19 #[.val (.ref o0), .val (.int p1), .val (.ref o2), .val (.int p3)] [])) _
    exact X8.returnOut hx Bd.returns (hb hby d49_19) hr
  · show Q49 Z o0 p1 o2 p3 h0 n0 _ T8.heap _
    rw [e8]
    exact ⟨rfl, N8, J8, c9, Fw8⟩
theorem d486_0 : decode prog_48_method_6_code 0 = .ok (.aload_n 0, 1) := by decide +kernel
theorem d486_1 : decode prog_48_method_6_code 1 = .ok (.getfield 53, 3) := by decide +kernel
theorem d486_4 : decode prog_48_method_6_code 4 = .ok (.aload_n 1, 1) := by decide +kernel
theorem d486_5 : decode prog_48_method_6_code 5 = .ok (.getfield 53, 3) := by decide +kernel
theorem d486_8 : decode prog_48_method_6_code 8 = .ok (.if_icmp .eq 8, 3) := by decide +kernel
theorem d486_11 : decode prog_48_method_6_code 11 = .ok (.aload_n 0, 1) := by decide +kernel
theorem d486_12 : decode prog_48_method_6_code 12 = .ok (.getfield 53, 3) := by decide +kernel
theorem d486_15 : decode prog_48_method_6_code 15 = .ok (.ireturn, 1) := by decide +kernel
theorem d486_16 : decode prog_48_method_6_code 16 = .ok (.aload_n 0, 1) := by decide +kernel
theorem d486_17 : decode prog_48_method_6_code 17 = .ok (.getfield 57, 3) := by decide +kernel
theorem d486_20 : decode prog_48_method_6_code 20 = .ok (.aload_n 1, 1) := by decide +kernel
theorem d486_21 : decode prog_48_method_6_code 21 = .ok (.getfield 57, 3) := by decide +kernel
theorem d486_24 : decode prog_48_method_6_code 24 = .ok (.if_icmp .gt 18, 3) := by decide +kernel
theorem d486_27 : decode prog_48_method_6_code 27 = .ok (.iload_n 2, 1) := by decide +kernel
theorem d486_28 : decode prog_48_method_6_code 28 = .ok (.ifCond .eq 18, 3) := by decide +kernel
theorem d486_31 : decode prog_48_method_6_code 31 = .ok (.aload_n 0, 1) := by decide +kernel
theorem d486_32 : decode prog_48_method_6_code 32 = .ok (.getfield 57, 3) := by decide +kernel
theorem d486_35 : decode prog_48_method_6_code 35 = .ok (.aload_n 1, 1) := by decide +kernel
theorem d486_36 : decode prog_48_method_6_code 36 = .ok (.getfield 57, 3) := by decide +kernel
theorem d486_39 : decode prog_48_method_6_code 39 = .ok (.if_icmp .ne 7, 3) := by decide +kernel
theorem d486_42 : decode prog_48_method_6_code 42 = .ok (.iconst 1, 1) := by decide +kernel
theorem d486_43 : decode prog_48_method_6_code 43 = .ok (.goto 4, 3) := by decide +kernel
theorem d486_46 : decode prog_48_method_6_code 46 = .ok (.iconst 0, 1) := by decide +kernel
theorem d486_47 : decode prog_48_method_6_code 47 = .ok (.ireturn, 1) := by decide +kernel
theorem ef_486 (m : MethodId) (o0 : Addr) (o1 : Addr) (p2 : Int32) : entryFrame m #[(.ref o0), (.ref o1), (.int p2)] 3 = mkF m 0 #[.val (.ref o0), .val (.ref o1), .val (.int p2)] [] := by first | (simp [entryFrame, mkF, argsToLocals, Value.category]; done) | rfl
def Q486 (Z : State) (o0 : Addr) (o1 : Addr) (p2 : Int32) (l0 : Int32) (c0 : Int32) (l1 : Int32) (c1 : Int32) (h0 : Heap) (n0 : Nat) (v : Option Value) (h : Heap) (L : List Loc) : Prop := ∃ rv : Int32, v = some (.int rv) ∧ Fr n0 L ∧ Keep h0 h []
set_option maxRecDepth 65536 in
set_option maxHeartbeats 40000000 in
theorem rm486 (l : Launch) (Z : State) (a0 : Array Value) (hw : ∀ d ∈ tables_1, d.before a0 Z = true) (ws : List Jvm.Cond) (o0 : Addr) (o1 : Addr) (p2 : Int32) (l0 : Int32) (c0 : Int32) (l1 : Int32) (c1 : Int32) (h0 : Heap) (n0 : Nat) (Z0 : n0 ≤ h0.size) (F_line_o0 : Fld Z h0 o0 "com/example/tierline/tierline/csv/LineProblems$Problem" "line" "I" (.int l0)) (F_conflict_o0 : Fld Z h0 o0 "com/example/tierline/tierline/csv/LineProblems$Problem" "conflict" "Z" (.int c0)) (F_line_o1 : Fld Z h0 o1 "com/example/tierline/tierline/csv/LineProblems$Problem" "line" "I" (.int l1)) (F_conflict_o1 : Fld Z h0 o1 "com/example/tierline/tierline/csv/LineProblems$Problem" "conflict" "Z" (.int c1)) :
    MetFree l (⟨"com/example/tierline/tierline/csv/LineProblems", "listsAfter", "(Lcom/example/tierline/tierline/csv/LineProblems$Problem;Lcom/example/tierline/tierline/csv/LineProblems$Problem;Z)Z"⟩ : MethodName) (head1 (Jvm.Cond.code (⟨"com/example/tierline/tierline/csv/LineProblems", "listsAfter", "(Lcom/example/tierline/tierline/csv/LineProblems$Problem;Lcom/example/tierline/tierline/csv/LineProblems$Problem;Z)Z"⟩ : MethodName) prog_48_method_6_code 3 (some .boolean) :: ws) ({ frames := 0, cells := 0, slots := 0, locals := 0 } : Room)) (fun a U => a = #[(.ref o0), (.ref o1), (.int p2)] ∧ Z.Warmed39 U.vm ∧ U.heap = h0) (fun _ _ _ _ _ => True) (fun _ U o U' => ∃ v L, o = .returned v ∧ Q486 Z o0 o1 p2 l0 c0 l1 c1 h0 n0 v U'.heap L ∧ FrameEnd U o U' L ({ frames := 0, cells := 0, slots := 0, locals := 0 } : Room).cells ({ frames := 0, cells := 0, slots := 0, locals := 0 } : Room).slots) := by
  refine MetFree.of_bodySF (plainFor_of_name pn_com_example_tierline_tierline_csv_LineProblems) hisR ?_
  intro p e s m args below meth c s₁ Bd hml0 hP hK
  obtain ⟨rfl, hZ, hh⟩ := hP
  have hx := Bd.exec
  have hby := Bd.bytes
  have hml : c.maxLocals = 3 := hml0
  have hown : s.vm.findClass "com/example/tierline/tierline/csv/LineProblems" = some m.cls := findClass_of_methodNamed Bd.named
  have hnm := (name_of_methodNamed Bd.named Bd.method).1
  have X0 : Stand p l e ({ frames := 0, cells := 0, slots := 0, locals := 0 } : Room) s m #[(.ref o0), (.ref o1), (.int p2)] below meth c s₁ [] 0 0 := Stand.of_body Bd
  have e0 : s₁.heap = h0 := by rw [← hh, Bd.state]; rfl
  have N0 := Fr.nil n0
  have pre0 : ∀ t, Steps p.tables e below (s₁.setTop (mkF m 0 #[.val (.ref o0), .val (.ref o1), .val (.int p2)] [])) t → Steps p.tables e below (s₁.setTop (entryFrame m #[(.ref o0), (.ref o1), (.int p2)] 3)) t := fun t k => castTop (ef_486 m o0 o1 p2) k
  obtain ⟨T1, X1, e1, st1⟩ := own_getFR X0 hx hZ hown (hw _ (List.mem_of_getElem? (i := 174) rfl)) Via.refl e0 F_conflict_o0 (g := (mkF m 1 #[.val (.ref o0), .val (.ref o1), .val (.int p2)] [(.ref o0)])) rfl rfl (hb hby d486_1)
  obtain ⟨T2, X2, e2, st2⟩ := own_getFR X1 hx hZ hown (hw _ (List.mem_of_getElem? (i := 174) rfl)) Via.refl e1 F_conflict_o1 (g := (mkF m 5 #[.val (.ref o0), .val (.ref o1), .val (.int p2)] [(.ref o1), (.int c0)])) rfl rfl (hb hby d486_5)
  have pre3 : ∀ t, Steps p.tables e below (T2.setTop (mkF m 8 #[.val (.ref o0), .val (.ref o1), .val (.int p2)] [(.int c1), (.int c0)])) t → Steps p.tables e below (s₁.setTop (entryFrame m #[(.ref o0), (.ref o1), (.int p2)] 3)) t := by
    intro t kt
    refine pre0 _ ?_
    show Steps p.tables e below (s₁.setTop (mkF m 0 #[.val (.ref o0), .val (.ref o1), .val (.int p2)] [])) _
    refine XS.aloadN X0.here hx rfl (hb hby d486_0) rfl rfl ?_
    show Steps p.tables e below (s₁.setTop (mkF m 1 #[.val (.ref o0), .val (.ref o1), .val (.int p2)] [(.ref o0)])) _
    refine st1 _ ?_
    show Steps p.tables e below (T1.setTop (mkF m 4 #[.val (.ref o0), .val (.ref o1), .val (.int p2)] [(.int c0)])) _
    refine XS.aloadN X1.here hx rfl (hb hby d486_4) rfl rfl ?_
    show Steps p.tables e below (T1.setTop (mkF m 5 #[.val (.ref o0), .val (.ref o1), .val (.int p2)] [(.ref o1), (.int c0)])) _
    refine st2 _ ?_
    exact kt
  by_cases hc8_4 : c0 = c1
  · skip
    obtain ⟨T5, X5, e5, st5⟩ := own_getFR X2 hx hZ hown (hw _ (List.mem_of_getElem? (i := 175) rfl)) Via.refl e2 F_line_o0 (g := (mkF m 17 #[.val (.ref o0), .val (.ref o1), .val (.int p2)] [(.ref o0)])) rfl rfl (hb hby d486_17)
    obtain ⟨T6, X6, e6, st6⟩ := own_getFR X5 hx hZ hown (hw _ (List.mem_of_getElem? (i := 175) rfl)) Via.refl e5 F_line_o1 (g := (mkF m 21 #[.val (.ref o0), .val (.ref o1), .val (.int p2)] [(.ref o1), (.int l0)])) rfl rfl (hb hby d486_21)
    have pre7 : ∀ t, Steps p.tables e below (T6.setTop (mkF m 24 #[.val (.ref o0), .val (.ref o1), .val (.int p2)] [(.int l1), (.int l0)])) t → Steps p.tables e below (s₁.setTop (entryFrame m #[(.ref o0), (.ref o1), (.int p2)] 3)) t := by
      intro t kt
      refine pre3 _ ?_
      show Steps p.tables e below (T2.setTop (mkF m 8 #[.val (.ref o0), .val (.ref o1), .val (.int p2)] [(.int c1), (.int c0)])) _
      refine XS.icmpYes X2.here hx rfl (pc0 := 8) (pc' := 16) rfl (hb hby d486_8) rfl (teq hc8_4).1 (by decide) (by decide) ?_
      show Steps p.tables e below (T2.setTop (mkF m 16 #[.val (.ref o0), .val (.ref o1), .val (.int p2)] [])) _
      refine XS.aloadN X2.here hx rfl (hb hby d486_16) rfl rfl ?_
      show Steps p.tables e below (T2.setTop (mkF m 17 #[.val (.ref o0), .val (.ref o1), .val (.int p2)] [(.ref o0)])) _
      refine st5 _ ?_
      show Steps p.tables e below (T5.setTop (mkF m 20 #[.val (.ref o0), .val (.ref o1), .val (.int p2)] [(.int l0)])) _
      refine XS.aloadN X5.here hx rfl (hb hby d486_20) rfl rfl ?_
      show Steps p.tables e below (T5.setTop (mkF m 21 #[.val (.ref o0), .val (.ref o1), .val (.int p2)] [(.ref o1), (.int l0)])) _
      refine st6 _ ?_
      exact kt
    by_cases hc24_8 : l1 < l0
    · skip
      obtain ⟨fs, hr, hrun, hended, hW, hsame⟩ := X6.leave (v := some (.int (1 : Int32))) (fun h => by rw [Bd.returns] at h; cases h)
      refine ⟨_, _, pre7 _ ?_, hrun, hended, _, _, rfl, ?_, ⟨_, rfl⟩, hW, hsame.mono (by decide) (by decide)⟩
      · show Steps p.tables e below (T6.setTop (mkF m 24 #[.val (.ref o0), .val (.ref o1), .val (.int p2)] [(.int l1), (.int l0)])) _
        refine XS.icmpYes X6.here hx rfl (pc0 := 24) (pc' := 42) rfl (hb hby d486_24) rfl (tlt hc24_8).2.2.1 (by decide) (by decide) ?_
        show Steps p.tables e below (T6.setTop (mkF m 42 #[.val (.ref o0), .val (.ref o1), .val (.int p2)] [])) _
        refine XS.iconst X6.here hx rfl (hb hby d486_42) ?_
        show Steps p.tables e below (T6.setTop (mkF m 43 #[.val (.ref o0), .val (.ref o1), .val (.int p2)] [(.int (1 : Int32))])) _
        refine XS.goto X6.here hx rfl (pc0 := 43) (pc' := 47) rfl (hb hby d486_43) (by decide) (by decide) ?_
        show Steps p.tables e below (T6.setTop (mkF m 47 #[.val (.ref o0), .val (.ref o1), .val (.int p2)] [(.int (1 : Int32))])) _
        exact retN X6 hx (t := .boolean) Bd.returns (by simp) (hb hby d486_47) hr
      · show Q486 Z o0 o1 p2 l0 c0 l1 c1 h0 n0 _ T6.heap _
        rw [e6]
        exact ⟨(1 : Int32), rfl, N0, (Keep.refl h0 [])⟩
    · skip
      have pre9 : ∀ t, Steps p.tables e below (T6.setTop (mkF m 28 #[.val (.ref o0), .val (.ref o1), .val (.int p2)] [(.int p2)])) t → Steps p.tables e below (s₁.setTop (entryFrame m #[(.ref o0), (.ref o1), (.int p2)] 3)) t := by
        intro t kt
        refine pre7 _ ?_
        show Steps p.tables e below (T6.setTop (mkF m 24 #[.val (.ref o0), .val (.ref o1), .val (.int p2)] [(.int l1), (.int l0)])) _
        refine XS.icmpNo X6.here hx rfl (hb hby d486_24) rfl (flt hc24_8).2.2.1 ?_
        show Steps p.tables e below (T6.setTop (mkF m 27 #[.val (.ref o0), .val (.ref o1), .val (.int p2)] [])) _
        refine XS.iloadN X6.here hx rfl (hb hby d486_27) rfl ?_
        exact kt
      by_cases hc28_10 : p2 = (0 : Int32)
      · skip
        obtain ⟨fs, hr, hrun, hended, hW, hsame⟩ := X6.leave (v := some (.int (0 : Int32))) (fun h => by rw [Bd.returns] at h; cases h)
        refine ⟨_, _, pre9 _ ?_, hrun, hended, _, _, rfl, ?_, ⟨_, rfl⟩, hW, hsame.mono (by decide) (by decide)⟩
        · show Steps p.tables e below (T6.setTop (mkF m 28 #[.val (.ref o0), .val (.ref o1), .val (.int p2)] [(.int p2)])) _
          refine XS.ifYes X6.here hx rfl (pc0 := 28) (pc' := 46) rfl (hb hby d486_28) rfl ((if0 _ _).trans (teq hc28_10).1) (by decide) (by decide) ?_
          show Steps p.tables e below (T6.setTop (mkF m 46 #[.val (.ref o0), .val (.ref o1), .val (.int p2)] [])) _
          refine XS.iconst X6.here hx rfl (hb hby d486_46) ?_
          show Steps p.tables e below (T6.setTop (mkF m 47 #[.val (.ref o0), .val (.ref o1), .val (.int p2)] [(.int (0 : Int32))])) _
          exact retN X6 hx (t := .boolean) Bd.returns (by simp) (hb hby d486_47) hr
        · show Q486 Z o0 o1 p2 l0 c0 l1 c1 h0 n0 _ T6.heap _
          rw [e6]
          exact ⟨(0 : Int32), rfl, N0, (Keep.refl h0 [])⟩
      · skip
        obtain ⟨T11, X11, e11, st11⟩ := own_getFR X6 hx hZ hown (hw _ (List.mem_of_getElem? (i := 175) rfl)) Via.refl e6 F_line_o0 (g := (mkF m 32 #[.val (.ref o0), .val (.ref o1), .val (.int p2)] [(.ref o0)])) rfl rfl (hb hby d486_32)
        obtain ⟨T12, X12, e12, st12⟩ := own_getFR X11 hx hZ hown (hw _ (List.mem_of_getElem? (i := 175) rfl)) Via.refl e11 F_line_o1 (g := (mkF m 36 #[.val (.ref o0), .val (.ref o1), .val (.int p2)] [(.ref o1), (.int l0)])) rfl rfl (hb hby d486_36)
        obtain ⟨fs, hr, hrun, hended, hW, hsame⟩ := X12.leave (v := some (.int (nar .boolean (if l0 = l1 then (1 : Int32) else 0)))) (fun h => by rw [Bd.returns] at h; cases h)
        refine ⟨_, _, pre9 _ ?_, hrun, hended, _, _, rfl, ?_, ⟨_, rfl⟩, hW, hsame.mono (by decide) (by decide)⟩
        · show Steps p.tables e below (T6.setTop (mkF m 28 #[.val (.ref o0), .val (.ref o1), .val (.int p2)] [(.int p2)])) _
          refine XS.ifNo X6.here hx rfl (hb hby d486_28) rfl ((if0 _ _).trans (feq hc28_10).1) ?_
          show Steps p.tables e below (T6.setTop (mkF m 31 #[.val (.ref o0), .val (.ref o1), .val (.int p2)] [])) _
          refine XS.aloadN X6.here hx rfl (hb hby d486_31) rfl rfl ?_
          show Steps p.tables e below (T6.setTop (mkF m 32 #[.val (.ref o0), .val (.ref o1), .val (.int p2)] [(.ref o0)])) _
          refine st11 _ ?_
          show Steps p.tables e below (T11.setTop (mkF m 35 #[.val (.ref o0), .val (.ref o1), .val (.int p2)] [(.int l0)])) _
          refine XS.aloadN X11.here hx rfl (hb hby d486_35) rfl rfl ?_
          show Steps p.tables e below (T11.setTop (mkF m 36 #[.val (.ref o0), .val (.ref o1), .val (.int p2)] [(.ref o1), (.int l0)])) _
          refine st12 _ ?_
          show Steps p.tables e below (T12.setTop (mkF m 39 #[.val (.ref o0), .val (.ref o1), .val (.int p2)] [(.int l1), (.int l0)])) _
          refine own_diaF2 X12.here hx rfl (pc0 := 39) rfl (hb hby d486_39) (hb hby d486_42) (hb hby d486_43) (hb hby d486_46) rfl (fun hq => (teq hq).2) (fun hq => (feq hq).2) ?_
          show Steps p.tables e below (T12.setTop (mkF m 47 #[.val (.ref o0), .val (.ref o1), .val (.int p2)] [(.int (if l0 = l1 then (1 : Int32) else 0))])) _
          exact retN X12 hx (t := .boolean) Bd.returns (by simp) (hb hby d486_47) hr
        · show Q486 Z o0 o1 p2 l0 c0 l1 c1 h0 n0 _ T12.heap _
          rw [e12]
          exact ⟨(nar .boolean (if l0 = l1 then (1 : Int32) else 0)), by rw [own_nb10], N0, (Keep.refl h0 [])⟩
  · skip
    obtain ⟨T13, X13, e13, st13⟩ := own_getFR X2 hx hZ hown (hw _ (List.mem_of_getElem? (i := 174) rfl)) Via.refl e2 F_conflict_o0 (g := (mkF m 12 #[.val (.ref o0), .val (.ref o1), .val (.int p2)] [(.ref o0)])) rfl rfl (hb hby d486_12)
    obtain ⟨fs, hr, hrun, hended, hW, hsame⟩ := X13.leave (v := some (.int (nar .boolean c0))) (fun h => by rw [Bd.returns] at h; cases h)
    refine ⟨_, _, pre3 _ ?_, hrun, hended, _, _, rfl, ?_, ⟨_, rfl⟩, hW, hsame.mono (by decide) (by decide)⟩
    · show Steps p.tables e below (T2.setTop (mkF m 8 #[.val (.ref o0), .val (.ref o1), .val (.int p2)] [(.int c1), (.int c0)])) _
      refine XS.icmpNo X2.here hx rfl (hb hby d486_8) rfl (feq hc8_4).1 ?_
      show Steps p.tables e below (T2.setTop (mkF m 11 #[.val (.ref o0), .val (.ref o1), .val (.int p2)] [])) _
      refine XS.aloadN X2.here hx rfl (hb hby d486_11) rfl rfl ?_
      show Steps p.tables e below (T2.setTop (mkF m 12 #[.val (.ref o0), .val (.ref o1), .val (.int p2)] [(.ref o0)])) _
      refine st13 _ ?_
      show Steps p.tables e below (T13.setTop (mkF m 15 #[.val (.ref o0), .val (.ref o1), .val (.int p2)] [(.int c0)])) _
      exact retN X13 hx (t := .boolean) Bd.returns (by simp) (hb hby d486_15) hr
    · show Q486 Z o0 o1 p2 l0 c0 l1 c1 h0 n0 _ T13.heap _
      rw [e13]
      exact ⟨(nar .boolean c0), rfl, N0, (Keep.refl h0 [])⟩
theorem d388_0 : decode jdk_38_method_8_code 0 = .ok (.aload_n 0, 1) := by decide +kernel
theorem d388_1 : decode jdk_38_method_8_code 1 = .ok (.getfield 48, 3) := by decide +kernel
theorem d388_4 : decode jdk_38_method_8_code 4 = .ok (.ireturn, 1) := by decide +kernel
theorem ef_388 (m : MethodId) (o0 : Addr) : entryFrame m #[(.ref o0)] 1 = mkF m 0 #[.val (.ref o0)] [] := by first | (simp [entryFrame, mkF, argsToLocals, Value.category]; done) | rfl
def Q388 (Z : State) (o0 : Addr) (sz : Int32) (h0 : Heap) (n0 : Nat) (v : Option Value) (h : Heap) (L : List Loc) : Prop := v = some (.int sz) ∧ Fr n0 L ∧ Keep h0 h []
set_option maxRecDepth 65536 in
set_option maxHeartbeats 40000000 in
theorem rm388 (l : Launch) (Z : State) (a0 : Array Value) (hw : ∀ d ∈ tables_1, d.before a0 Z = true) (ws : List Jvm.Cond) (o0 : Addr) (sz : Int32) (h0 : Heap) (n0 : Nat) (Z0 : n0 ≤ h0.size) (F_size_o0 : Fld Z h0 o0 "java/util/ArrayList" "size" "I" (.int sz)) :
    MetFree l (⟨"java/util/ArrayList", "size", "()I"⟩ : MethodName) (head1 (Jvm.Cond.code (⟨"java/util/ArrayList", "size", "()I"⟩ : MethodName) jdk_38_method_8_code 1 (some .int) :: ws) ({ frames := 0, cells := 0, slots := 0, locals := 0 } : Room)) (fun a U => a = #[(.ref o0)] ∧ Z.Warmed39 U.vm ∧ U.heap = h0) (fun _ _ _ _ _ => True) (fun _ U o U' => ∃ v L, o = .returned v ∧ Q388 Z o0 sz h0 n0 v U'.heap L ∧ FrameEnd U o U' L ({ frames := 0, cells := 0, slots := 0, locals := 0 } : Room).cells ({ frames := 0, cells := 0, slots := 0, locals := 0 } : Room).slots) := by
  refine MetFree.of_bodySF (plainFor_of_name pn_java_util_ArrayList) hisR ?_
  intro p e s m args below meth c s₁ Bd hml0 hP hK
  obtain ⟨rfl, hZ, hh⟩ := hP
  have hx := Bd.exec
  have hby := Bd.bytes
  have hml : c.maxLocals = 1 := hml0
  have hown : s.vm.findClass "java/util/ArrayList" = some m.cls := findClass_of_methodNamed Bd.named
  have hnm := (name_of_methodNamed Bd.named Bd.method).1
  have X0 : Stand p l e ({ frames := 0, cells := 0, slots := 0, locals := 0 } : Room) s m #[(.ref o0)] below meth c s₁ [] 0 0 := Stand.of_body Bd
  have e0 : s₁.heap = h0 := by rw [← hh, Bd.state]; rfl
  have N0 := Fr.nil n0
  have pre0 : ∀ t, Steps p.tables e below (s₁.setTop (mkF m 0 #[.val (.ref o0)] [])) t → Steps p.tables e below (s₁.setTop (entryFrame m #[(.ref o0)] 1)) t := fun t k => castTop (ef_388 m o0) k
  obtain ⟨T1, X1, e1, st1⟩ := getF X0 hx hZ hown (host := "") (Or.inl (hw _ (List.mem_of_getElem? (i := 106) rfl))) Via.refl e0 F_size_o0 (g := (mkF m 1 #[.val (.ref o0)] [(.ref o0)])) rfl rfl (hb hby d388_1)
  obtain ⟨fs, hr, hrun, hended, hW, hsame⟩ := X1.leave (v := some (.int sz)) (fun h => by rw [Bd.returns] at h; cases h)
  refine ⟨_, _, pre0 _ ?_, hrun, hended, _, _, rfl, ?_, ⟨_, rfl⟩, hW, hsame.mono (by decide) (by decide)⟩
  · show Steps p.tables e below (s₁.setTop (mkF m 0 #[.val (.ref o0)] [])) _
    refine XS.aloadN X0.here hx rfl (hb hby d388_0) rfl rfl ?_
    show Steps p.tables e below (s₁.setTop (mkF m 1 #[.val (.ref o0)] [(.ref o0)])) _
    refine st1 _ ?_
    show Steps p.tables e below (T1.setTop (mkF m 4 #[.val (.ref o0)] [(.int sz)])) _
    exact retI X1 hx Bd.returns (hb hby d388_4) hr
  · show Q388 Z o0 sz h0 n0 _ T1.heap _
    rw [e1]
    exact ⟨rfl, N0, (Keep.refl h0 [])⟩
theorem d3845_0 : decode jdk_38_method_45_code 0 = .ok (.iload_n 1, 1) := by decide +kernel
theorem d3845_1 : decode jdk_38_method_45_code 1 = .ok (.aload_n 0, 1) := by decide +kernel
theorem d3845_2 : decode jdk_38_method_45_code 2 = .ok (.getfield 48, 3) := by decide +kernel
theorem d3845_5 : decode jdk_38_method_45_code 5 = .ok (.if_icmp .gt 7, 3) := by decide +kernel
theorem d3845_8 : decode jdk_38_method_45_code 8 = .ok (.iload_n 1, 1) := by decide +kernel
theorem d3845_9 : decode jdk_38_method_45_code 9 = .ok (.ifCond .ge 16, 3) := by decide +kernel
theorem d3845_25 : decode jdk_38_method_45_code 25 = .ok (.return_, 1) := by decide +kernel
theorem ef_3845 (m : MethodId) (o0 : Addr) (p1 : Int32) : entryFrame m #[(.ref o0), (.int p1)] 2 = mkF m 0 #[.val (.ref o0), .val (.int p1)] [] := by first | (simp [entryFrame, mkF, argsToLocals, Value.category]; done) | rfl
def Q3845 (Z : State) (o0 : Addr) (p1 : Int32) (sz : Int32) (h0 : Heap) (n0 : Nat) (v : Option Value) (h : Heap) (L : List Loc) : Prop := v = none ∧ Fr n0 L ∧ Keep h0 h []
set_option maxRecDepth 65536 in
set_option maxHeartbeats 40000000 in
theorem rm3845 (l : Launch) (Z : State) (a0 : Array Value) (hw : ∀ d ∈ tables_1, d.before a0 Z = true) (ws : List Jvm.Cond) (o0 : Addr) (p1 : Int32) (sz : Int32) (h0 : Heap) (n0 : Nat) (Z0 : n0 ≤ h0.size) (F_size_o0 : Fld Z h0 o0 "java/util/ArrayList" "size" "I" (.int sz)) (hgt : ¬ sz < p1) (hlt : ¬ p1 < (0 : Int32)) :
    MetFree l (⟨"java/util/ArrayList", "rangeCheckForAdd", "(I)V"⟩ : MethodName) (head1 (Jvm.Cond.code (⟨"java/util/ArrayList", "rangeCheckForAdd", "(I)V"⟩ : MethodName) jdk_38_method_45_code 2 none :: ws) ({ frames := 0, cells := 0, slots := 0, locals := 0 } : Room)) (fun a U => a = #[(.ref o0), (.int p1)] ∧ Z.Warmed39 U.vm ∧ U.heap = h0) (fun _ _ _ _ _ => True) (fun _ U o U' => ∃ v L, o = .returned v ∧ Q3845 Z o0 p1 sz h0 n0 v U'.heap L ∧ FrameEnd U o U' L ({ frames := 0, cells := 0, slots := 0, locals := 0 } : Room).cells ({ frames := 0, cells := 0, slots := 0, locals := 0 } : Room).slots) := by
  refine MetFree.of_bodySF (plainFor_of_name pn_java_util_ArrayList) hisR ?_
  intro p e s m args below meth c s₁ Bd hml0 hP hK
  obtain ⟨rfl, hZ, hh⟩ := hP
  have hx := Bd.exec
  have hby := Bd.bytes
  have hml : c.maxLocals = 2 := hml0
  have hown : s.vm.findClass "java/util/ArrayList" = some m.cls := findClass_of_methodNamed Bd.named
  have hnm := (name_of_methodNamed Bd.named Bd.method).1
  have X0 : Stand p l e ({ frames := 0, cells := 0, slots := 0, locals := 0 } : Room) s m #[(.ref o0), (.int p1)] below meth c s₁ [] 0 0 := Stand.of_body Bd
  have e0 : s₁.heap = h0 := by rw [← hh, Bd.state]; rfl
  have N0 := Fr.nil n0
  have pre0 : ∀ t, Steps p.tables e below (s₁.setTop (mkF m 0 #[.val (.ref o0), .val (.int p1)] [])) t → Steps p.tables e below (s₁.setTop (entryFrame m #[(.ref o0), (.int p1)] 2)) t := fun t k => castTop (ef_3845 m o0 p1) k
  obtain ⟨T1, X1, e1, st1⟩ := getF X0 hx hZ hown (host := "") (Or.inl (hw _ (List.mem_of_getElem? (i := 106) rfl))) Via.refl e0 F_size_o0 (g := (mkF m 2 #[.val (.ref o0), .val (.int p1)] [(.ref o0), (.int p1)])) rfl rfl (hb hby d3845_2)
  obtain ⟨fs, hr, hrun, hended, hW, hsame⟩ := X1.leave (v := none) (fun _ => rfl)
  refine ⟨_, _, pre0 _ ?_, hrun, hended, _, _, rfl, ?_, ⟨_, rfl⟩, hW, hsame.mono (by decide) (by decide)⟩
  · show Steps p.tables e below (s₁.setTop (mkF m 0 #[.val (.ref o0), .val (.int p1)] [])) _
    refine XS.iloadN X0.here hx rfl (hb hby d3845_0) rfl ?_
    show Steps p.tables e below (s₁.setTop (mkF m 1 #[.val (.ref o0), .val (.int p1)] [(.int p1)])) _
    refine XS.aloadN X0.here hx rfl (hb hby d3845_1) rfl rfl ?_
    show Steps p.tables e below (s₁.setTop (mkF m 2 #[.val (.ref o0), .val (.int p1)] [(.ref o0), (.int p1)])) _
    refine st1 _ ?_
    show Steps p.tables e below (T1.setTop (mkF m 5 #[.val (.ref o0), .val (.int p1)] [(.int sz), (.int p1)])) _
    refine XS.icmpNo X1.here hx rfl (hb hby d3845_5) rfl (flt hgt).2.2.1 ?_
    show Steps p.tables e below (T1.setTop (mkF m 8 #[.val (.ref o0), .val (.int p1)] [])) _
    refine XS.iloadN X1.here hx rfl (hb hby d3845_8) rfl ?_
    show Steps p.tables e below (T1.setTop (mkF m 9 #[.val (.ref o0), .val (.int p1)] [(.int p1)])) _
    refine XS.ifYes X1.here hx rfl (pc0 := 9) (pc' := 25) rfl (hb hby d3845_9) rfl ((if0 _ _).trans (flt hlt).2.1) (by decide) (by decide) ?_
    show Steps p.tables e below (T1.setTop (mkF m 25 #[.val (.ref o0), .val (.int p1)] [])) _
    exact X1.returnOut hx Bd.returns (hb hby d3845_25) hr
  · show Q3845 Z o0 p1 sz h0 n0 _ T1.heap _
    rw [e1]
    exact ⟨rfl, N0, (Keep.refl h0 [])⟩
theorem d65_0 : decode jdk_29_method_65_code 0 = .ok (.iload_n 0, 1) := by decide +kernel
theorem d65_1 : decode jdk_29_method_65_code 1 = .ok (.iload_n 1, 1) := by decide +kernel
theorem d65_2 : decode jdk_29_method_65_code 2 = .ok (.if_icmp .lt 7, 3) := by decide +kernel
theorem d65_5 : decode jdk_29_method_65_code 5 = .ok (.iload_n 0, 1) := by decide +kernel
theorem d65_6 : decode jdk_29_method_65_code 6 = .ok (.goto 4, 3) := by decide +kernel
theorem d65_10 : decode jdk_29_method_65_code 10 = .ok (.ireturn, 1) := by decide +kernel
theorem ef_65 (m : MethodId)  : entryFrame m #[(.int (10 : Int32)), (.int (1 : Int32))] 2 = mkF m 0 #[.val (.int (10 : Int32)), .val (.int (1 : Int32))] [] := by first | (simp [entryFrame, mkF, argsToLocals, Value.category]; done) | rfl
def Q65 (Z : State)  (h0 : Heap) (n0 : Nat) (v : Option Value) (h : Heap) (L : List Loc) : Prop := v = some (.int (10 : Int32)) ∧ Fr n0 L ∧ Keep h0 h []
set_option maxRecDepth 65536 in
set_option maxHeartbeats 40000000 in
theorem rm65 (l : Launch) (Z : State) (a0 : Array Value) (hw : ∀ d ∈ tables_1, d.before a0 Z = true) (ws : List Jvm.Cond)  (h0 : Heap) (n0 : Nat) (Z0 : n0 ≤ h0.size) :
    MetFree l (⟨"java/lang/Math", "max", "(II)I"⟩ : MethodName) (head1 (Jvm.Cond.code (⟨"java/lang/Math", "max", "(II)I"⟩ : MethodName) jdk_29_method_65_code 2 (some .int) :: ws) ({ frames := 0, cells := 0, slots := 0, locals := 0 } : Room)) (fun a U => a = #[(.int (10 : Int32)), (.int (1 : Int32))] ∧ Z.Warmed39 U.vm ∧ U.heap = h0) (fun _ _ _ _ _ => True) (fun _ U o U' => ∃ v L, o = .returned v ∧ Q65 Z  h0 n0 v U'.heap L ∧ FrameEnd U o U' L ({ frames := 0, cells := 0, slots := 0, locals := 0 } : Room).cells ({ frames := 0, cells := 0, slots := 0, locals := 0 } : Room).slots) := by
  refine MetFree.of_bodySF (Jvm.Free.JP.mathPlain rfl (by decide +kernel)) hisR ?_
  intro p e s m args below meth c s₁ Bd hml0 hP hK
  obtain ⟨rfl, hZ, hh⟩ := hP
  have hx := Bd.exec
  have hby := Bd.bytes
  have hml : c.maxLocals = 2 := hml0
  have hown : s.vm.findClass "java/lang/Math" = some m.cls := findClass_of_methodNamed Bd.named
  have hnm := (name_of_methodNamed Bd.named Bd.method).1
  have X0 : Stand p l e ({ frames := 0, cells := 0, slots := 0, locals := 0 } : Room) s m #[(.int (10 : Int32)), (.int (1 : Int32))] below meth c s₁ [] 0 0 := Stand.of_body Bd
  have e0 : s₁.heap = h0 := by rw [← hh, Bd.state]; rfl
  have N0 := Fr.nil n0
  have pre0 : ∀ t, Steps p.tables e below (s₁.setTop (mkF m 0 #[.val (.int (10 : Int32)), .val (.int (1 : Int32))] [])) t → Steps p.tables e below (s₁.setTop (entryFrame m #[(.int (10 : Int32)), (.int (1 : Int32))] 2)) t := fun t k => castTop (ef_65 m ) k
  obtain ⟨fs, hr, hrun, hended, hW, hsame⟩ := X0.leave (v := some (.int (10 : Int32))) (fun h => by rw [Bd.returns] at h; cases h)
  refine ⟨_, _, pre0 _ ?_, hrun, hended, _, _, rfl, ?_, ⟨_, rfl⟩, hW, hsame.mono (by decide) (by decide)⟩
  · show Steps p.tables e below (s₁.setTop (mkF m 0 #[.val (.int (10 : Int32)), .val (.int (1 : Int32))] [])) _
    refine XS.iloadN X0.here hx rfl (hb hby d65_0) rfl ?_
    show Steps p.tables e below (s₁.setTop (mkF m 1 #[.val (.int (10 : Int32)), .val (.int (1 : Int32))] [(.int (10 : Int32))])) _
    refine XS.iloadN X0.here hx rfl (hb hby d65_1) rfl ?_
    show Steps p.tables e below (s₁.setTop (mkF m 2 #[.val (.int (10 : Int32)), .val (.int (1 : Int32))] [(.int (1 : Int32)), (.int (10 : Int32))])) _
    refine XS.icmpNo X0.here hx rfl (hb hby d65_2) rfl (flt (by decide)).1 ?_
    show Steps p.tables e below (s₁.setTop (mkF m 5 #[.val (.int (10 : Int32)), .val (.int (1 : Int32))] [])) _
    refine XS.iloadN X0.here hx rfl (hb hby d65_5) rfl ?_
    show Steps p.tables e below (s₁.setTop (mkF m 6 #[.val (.int (10 : Int32)), .val (.int (1 : Int32))] [(.int (10 : Int32))])) _
    refine XS.goto X0.here hx rfl (pc0 := 6) (pc' := 10) rfl (hb hby d65_6) (by decide) (by decide) ?_
    show Steps p.tables e below (s₁.setTop (mkF m 10 #[.val (.int (10 : Int32)), .val (.int (1 : Int32))] [(.int (10 : Int32))])) _
    exact retI X0 hx Bd.returns (hb hby d65_10) hr
  · show Q65 Z  h0 n0 _ s₁.heap _
    rw [e0]
    exact ⟨rfl, N0, (Keep.refl h0 [])⟩
theorem d386_0 : decode jdk_38_method_6_code 0 = .ok (.aload_n 0, 1) := by decide +kernel
theorem d386_1 : decode jdk_38_method_6_code 1 = .ok (.getfield 9, 3) := by decide +kernel
theorem d386_4 : decode jdk_38_method_6_code 4 = .ok (.arraylength, 1) := by decide +kernel
theorem d386_5 : decode jdk_38_method_6_code 5 = .ok (.istore_n 2, 1) := by decide +kernel
theorem d386_6 : decode jdk_38_method_6_code 6 = .ok (.iload_n 2, 1) := by decide +kernel
theorem d386_7 : decode jdk_38_method_6_code 7 = .ok (.ifCond .gt 13, 3) := by decide +kernel
theorem d386_10 : decode jdk_38_method_6_code 10 = .ok (.aload_n 0, 1) := by decide +kernel
theorem d386_11 : decode jdk_38_method_6_code 11 = .ok (.getfield 9, 3) := by decide +kernel
theorem d386_14 : decode jdk_38_method_6_code 14 = .ok (.getstatic 39, 3) := by decide +kernel
theorem d386_17 : decode jdk_38_method_6_code 17 = .ok (.if_acmp .eq 28, 3) := by decide +kernel
theorem d386_45 : decode jdk_38_method_6_code 45 = .ok (.aload_n 0, 1) := by decide +kernel
theorem d386_46 : decode jdk_38_method_6_code 46 = .ok (.bipush 10, 2) := by decide +kernel
theorem d386_48 : decode jdk_38_method_6_code 48 = .ok (.iload_n 1, 1) := by decide +kernel
theorem d386_49 : decode jdk_38_method_6_code 49 = .ok (.invokestatic 79, 3) := by decide +kernel
theorem d386_52 : decode jdk_38_method_6_code 52 = .ok (.anewarray 7, 3) := by decide +kernel
theorem d386_55 : decode jdk_38_method_6_code 55 = .ok (.dup_x1, 1) := by decide +kernel
theorem d386_56 : decode jdk_38_method_6_code 56 = .ok (.putfield 9, 3) := by decide +kernel
theorem d386_59 : decode jdk_38_method_6_code 59 = .ok (.areturn, 1) := by decide +kernel
theorem pd_4 : parseMethodDescriptor "(II)I" = some ⟨[.int, .int], some .int⟩ := by decide +kernel
theorem ef_386 (m : MethodId) (o0 : Addr) : entryFrame m #[(.ref o0), (.int (1 : Int32))] 4 = mkF m 0 #[.val (.ref o0), .val (.int (1 : Int32)), .unset, .unset] [] := by first | (simp [entryFrame, mkF, argsToLocals, Value.category]; done) | rfl
def Q386 (Z : State) (o0 : Addr) (dd : Addr) (kd : ClassId) (mc : Int32) (h0 : Heap) (n0 : Nat) (v : Option Value) (h : Heap) (L : List Loc) : Prop := ∃ b : Addr, ∃ kb : ClassId, v = some (.ref b) ∧ Fr n0 L ∧ Keep h0 h [o0] ∧ h0.size ≤ b ∧ Fld Z h o0 "java/util/ArrayList" "elementData" "[Ljava/lang/Object;" (.ref b) ∧ Arv Z h b kb (.object "java/lang/Object") (10 : Int32) [] .null ∧ Ovr Z kb "java/lang/Object" ∧ Fld Z h o0 "java/util/ArrayList" "size" "I" (.int (0 : Int32)) ∧ Fld Z h o0 "java/util/AbstractList" "modCount" "I" (.int mc)
set_option maxRecDepth 65536 in
set_option maxHeartbeats 40000000 in
theorem rm386 (l : Launch) (Z : State) (a0 : Array Value) (hw : ∀ d ∈ tables_1, d.before a0 Z = true) (ws : List Jvm.Cond) (o0 : Addr) (dd : Addr) (kd : ClassId) (mc : Int32) (h0 : Heap) (n0 : Nat) (Z0 : n0 ≤ h0.size) (E_o0 : Exa Z h0 o0 "java/util/ArrayList") (F_elementData_o0 : Fld Z h0 o0 "java/util/ArrayList" "elementData" "[Ljava/lang/Object;" (.ref dd)) (V_dd : Arv Z h0 dd kd (.object "java/lang/Object") (0 : Int32) [] .null) (S_DEFAULTCAPACITY_EMPTY_ELEMENTDATA : Sta Z h0 "java/util/ArrayList" "DEFAULTCAPACITY_EMPTY_ELEMENTDATA" "[Ljava/lang/Object;" (.ref dd)) (F_size_o0 : Fld Z h0 o0 "java/util/ArrayList" "size" "I" (.int (0 : Int32))) (F_modCount_o0 : Fld Z h0 o0 "java/util/AbstractList" "modCount" "I" (.int mc)) (g_o0 : n0 ≤ o0) :
    MetFree l (⟨"java/util/ArrayList", "grow", "(I)[Ljava/lang/Object;"⟩ : MethodName) (head1 (Jvm.Cond.code (⟨"java/util/ArrayList", "grow", "(I)[Ljava/lang/Object;"⟩ : MethodName) jdk_38_method_6_code 4 (some (.array (.object "java/lang/Object"))) :: ws) ({ frames := 1, cells := 1, slots := 10, locals := 14 } : Room)) (fun a U => a = #[(.ref o0), (.int (1 : Int32))] ∧ Z.Warmed39 U.vm ∧ U.heap = h0) (fun _ _ _ _ _ => True) (fun _ U o U' => ∃ v L, o = .returned v ∧ Q386 Z o0 dd kd mc h0 n0 v U'.heap L ∧ FrameEnd U o U' L ({ frames := 1, cells := 1, slots := 10, locals := 14 } : Room).cells ({ frames := 1, cells := 1, slots := 10, locals := 14 } : Room).slots) := by
  refine MetFree.of_bodySF (plainFor_of_name pn_java_util_ArrayList) hisR ?_
  intro p e s m args below meth c s₁ Bd hml0 hP hK
  obtain ⟨rfl, hZ, hh⟩ := hP
  have hx := Bd.exec
  have hby := Bd.bytes
  have hml : c.maxLocals = 4 := hml0
  have hown : s.vm.findClass "java/util/ArrayList" = some m.cls := findClass_of_methodNamed Bd.named
  have hnm := (name_of_methodNamed Bd.named Bd.method).1
  have X0 : Stand p l e ({ frames := 1, cells := 1, slots := 10, locals := 14 } : Room) s m #[(.ref o0), (.int (1 : Int32))] below meth c s₁ [] 0 0 := Stand.of_body Bd
  have e0 : s₁.heap = h0 := by rw [← hh, Bd.state]; rfl
  have N0 := Fr.nil n0
  have pre0 : ∀ t, Steps p.tables e below (s₁.setTop (mkF m 0 #[.val (.ref o0), .val (.int (1 : Int32)), .unset, .unset] [])) t → Steps p.tables e below (s₁.setTop (entryFrame m #[(.ref o0), (.int (1 : Int32))] 4)) t := fun t k => castTop (ef_386 m o0) k
  obtain ⟨T1, X1, e1, st1⟩ := getF X0 hx hZ hown (host := "") (Or.inl (hw _ (List.mem_of_getElem? (i := 39) rfl))) Via.refl e0 F_elementData_o0 (g := (mkF m 1 #[.val (.ref o0), .val (.int (1 : Int32)), .unset, .unset] [(.ref o0)])) rfl rfl (hb hby d386_1)
  obtain ⟨cl2, Ar2, -, Sz2, Nn2, -, -⟩ := id V_dd
  obtain ⟨T3, X3, e3, st3⟩ := getF X1 hx hZ hown (host := "") (Or.inl (hw _ (List.mem_of_getElem? (i := 39) rfl))) Via.refl e1 F_elementData_o0 (g := (mkF m 11 #[.val (.ref o0), .val (.int (1 : Int32)), .val (.int (0 : Int32)), .unset] [(.ref o0)])) rfl rfl (hb hby d386_11)
  obtain ⟨T4, X4, e4, st4⟩ := getS2 X3 hx hZ hown (host := "") (Or.inl (hw _ (List.mem_of_getElem? (i := 38) rfl))) Via.refl e3 S_DEFAULTCAPACITY_EMPTY_ELEMENTDATA (g := (mkF m 14 #[.val (.ref o0), .val (.int (1 : Int32)), .val (.int (0 : Int32)), .unset] [(.ref dd)])) rfl (hb hby d386_14)
  -- pc 49: Math.max by rm65
  obtain ⟨_, _, ⟨T5, L5, k5, n5⟩, -, X5, ⟨Lc5, hQ5, l5, y5, z5'⟩, st5⟩ := Jvm.LawKit.callS X4 hx (y := (⟨"java/lang/Math", "max", "(II)I"⟩ : MethodName)) hown (mvT hZ (hw _ (List.mem_of_getElem? (i := 133) rfl))) (mvT hZ (hw _ (List.mem_of_getElem? (i := 134) rfl))) (mvT hZ (hw _ (List.mem_of_getElem? (i := 135) rfl))) (mvT hZ (hw _ (List.mem_of_getElem? (i := 136) rfl))) (by decide) (backOf (W := 1) (rm65 l Z a0 hw []  h0 n0 Z0 ) hZ (hw _ (List.mem_of_getElem? (i := 136) rfl)) (hw _ (List.mem_of_getElem? (i := 135) rfl)) (by decide) (by decide)) (g := (mkF m 49 #[.val (.ref o0), .val (.int (1 : Int32)), .val (.int (0 : Int32)), .unset] [(.int (1 : Int32)), (.int (10 : Int32)), (.ref o0)])) rfl (by rw [hml]; rfl) (argsL := [(.int (10 : Int32)), (.int (1 : Int32))]) (rest := [(.ref o0)]) (lenOf pd_4 rfl) rfl (by show 2 * 0 + _ ≤ _; exact Nat.le_of_eq rfl) (hb hby d386_49) (fun _ _ => ⟨rfl, e4, (by decide : 0 + 0 ≤ _), (by decide : 0 + 0 ≤ _)⟩)
  dsimp only [Pt.U, Pt.locs, Pt.cells, Pt.slots] at X5 l5 y5 z5' st5 hQ5
  subst l5 y5 z5'
  obtain ⟨rfl, N5q, K5⟩ := hQ5
  have N5 := Fr.app N0 N5q
  have J5 : Keep h0 T5.heap [o0] := (Keep.refl h0 [o0]).trans K5 all0
  have z6 : n0 ≤ T5.heap.size := (Nat.le_trans Z0 K5.1)
  have c7 : Exa Z T5.heap o0 "java/util/ArrayList" := (E_o0.keep K5)
  have c8 : Arv Z T5.heap dd kd (.object "java/lang/Object") (0 : Int32) [] .null := (V_dd.keep K5 nin0)
  obtain ⟨T9, h9, k9, X9, e9, E9, A9, O9, st9⟩ := newR X5 hx hZ hown (hw _ (List.mem_of_getElem? (i := 137) rfl)) (hw _ (List.mem_of_getElem? (i := 138) rfl)) rfl (g := (mkF m 52 #[.val (.ref o0), .val (.int (1 : Int32)), .val (.int (0 : Int32)), .unset] [(.int (10 : Int32)), (.ref o0)])) rfl (hb hby d386_52) rfl (by decide) (cap := 10) (by decide) (by decide) (by decide) (by decide)
  obtain ⟨b9, g9⟩ : ∃ z, z = T5.heap.size := ⟨_, rfl⟩
  rw [← g9] at A9 st9
  have g_b9 : n0 ≤ b9 := Nat.le_trans z6 (Nat.le_of_eq g9.symm)
  have sz_b9 : h0.size ≤ b9 := Nat.le_trans J5.1 (Nat.le_of_eq g9.symm)
  have ne10 : o0 ≠ b9 := Nat.ne_of_lt (Nat.lt_of_lt_of_le c7.lt (Nat.le_of_eq g9.symm))
  have ne11 : dd ≠ b9 := Nat.ne_of_lt (Nat.lt_of_lt_of_le c8.lt (Nat.le_of_eq g9.symm))
  have V_b9 : Arv Z h9 b9 k9 (.object "java/lang/Object") (10 : Int32) [] .null := Arv.new A9 (by decide)
  have J9 : Keep h0 h9 [o0] := J5.ext E9
  have c12 : Exa Z h9 o0 "java/util/ArrayList" := (c7.ext E9)
  have c13 : Arv Z h9 dd kd (.object "java/lang/Object") (0 : Int32) [] .null := (c8.ext E9)
  have ne14 : dd ≠ o0 := (Ne.symm (Exa.neArv c12 c13 (hw _ (List.mem_of_getElem? (i := 18) rfl))))
  have c15 : Fld Z h9 o0 "java/util/ArrayList" "elementData" "[Ljava/lang/Object;" (.ref dd) := ((F_elementData_o0.keep K5 nin0).ext E9)
  obtain ⟨T16, h16, X16, e16, W16, st16⟩ := putF X9 hx hZ hown (host := "") (Or.inl (hw _ (List.mem_of_getElem? (i := 39) rfl))) Via.refl e9 c15 c12 (Or.inl (hw _ (List.mem_of_getElem? (i := 40) rfl))) (hw _ (List.mem_of_getElem? (i := 18) rfl)) (ty := (.array (.object "java/lang/Object"))) (by decide) rfl rfl (g := (mkF m 56 #[.val (.ref o0), .val (.int (1 : Int32)), .val (.int (0 : Int32)), .unset] [(.ref b9), (.ref o0), (.ref b9)])) rfl rfl (hb hby d386_56)
  have Fw16 : Fld Z h16 o0 "java/util/ArrayList" "elementData" "[Ljava/lang/Object;" (.ref b9) := c15.same W16
  have J16 : Keep h0 h16 [o0] := J9.wr W16 (Or.inl (List.mem_of_getElem? (i := 0) rfl))
  have N16 := Fr.snoc X16 N5 g_o0
  have c17 : Arv Z h16 b9 k9 (.object "java/lang/Object") (10 : Int32) [] .null := (V_b9.other W16 (Ne.symm ne10))
  have c18 : Fld Z h16 o0 "java/util/ArrayList" "size" "I" (.int (0 : Int32)) := (((F_size_o0.keep K5 nin0).ext E9).other W16 (Or.inr (slot_ne (Or.inl (hw _ (List.mem_of_getElem? (i := 107) rfl))) (Or.inl (hw _ (List.mem_of_getElem? (i := 40) rfl))) (by decide) (t := .int) (t' := (.array (.object "java/lang/Object"))) (by decide) (by decide))))
  have c19 : Fld Z h16 o0 "java/util/AbstractList" "modCount" "I" (.int mc) := (((F_modCount_o0.keep K5 nin0).ext E9).other W16 (Or.inr (slot_ne (Or.inl (hw _ (List.mem_of_getElem? (i := 37) rfl))) (Or.inl (hw _ (List.mem_of_getElem? (i := 40) rfl))) (by decide) (t := .int) (t' := (.array (.object "java/lang/Object"))) (by decide) (by decide))))
  obtain ⟨fs, hr, hrun, hended, hW, hsame⟩ := X16.leave (v := some (.ref b9)) (fun h => by rw [Bd.returns] at h; cases h)
  refine ⟨_, _, pre0 _ ?_, hrun, hended, _, _, rfl, ?_, ⟨_, rfl⟩, hW, hsame.mono (by decide) (by decide)⟩
  · show Steps p.tables e below (s₁.setTop (mkF m 0 #[.val (.ref o0), .val (.int (1 : Int32)), .unset, .unset] [])) _
    refine XS.aloadN X0.here hx rfl (hb hby d386_0) rfl rfl ?_
    show Steps p.tables e below (s₁.setTop (mkF m 1 #[.val (.ref o0), .val (.int (1 : Int32)), .unset, .unset] [(.ref o0)])) _
    refine st1 _ ?_
    show Steps p.tables e below (T1.setTop (mkF m 4 #[.val (.ref o0), .val (.int (1 : Int32)), .unset, .unset] [(.ref dd)])) _
    refine X1.arraylength hx (by rw [e1]; exact Ar2.1) (State.isArrayOf_alike hZ.alike Ar2.2.1) (g := (mkF m 4 #[.val (.ref o0), .val (.int (1 : Int32)), .unset, .unset] [(.ref dd)])) rfl rfl (hb hby d386_4) _ ?_
    rw [len_of Sz2 Nn2]
    show Steps p.tables e below (T1.setTop (mkF m 5 #[.val (.ref o0), .val (.int (1 : Int32)), .unset, .unset] [(.int (0 : Int32))])) _
    refine XS.istoreN X1.here hx rfl (hb hby d386_5) rfl (l' := #[.val (.ref o0), .val (.int (1 : Int32)), .val (.int (0 : Int32)), .unset]) rfl ?_
    show Steps p.tables e below (T1.setTop (mkF m 6 #[.val (.ref o0), .val (.int (1 : Int32)), .val (.int (0 : Int32)), .unset] [])) _
    refine XS.iloadN X1.here hx rfl (hb hby d386_6) rfl ?_
    show Steps p.tables e below (T1.setTop (mkF m 7 #[.val (.ref o0), .val (.int (1 : Int32)), .val (.int (0 : Int32)), .unset] [(.int (0 : Int32))])) _
    refine XS.ifNo X1.here hx rfl (hb hby d386_7) rfl ((if0 _ _).trans (flt (by decide)).2.2.1) ?_
    show Steps p.tables e below (T1.setTop (mkF m 10 #[.val (.ref o0), .val (.int (1 : Int32)), .val (.int (0 : Int32)), .unset] [])) _
    refine XS.aloadN X1.here hx rfl (hb hby d386_10) rfl rfl ?_
    show Steps p.tables e below (T1.setTop (mkF m 11 #[.val (.ref o0), .val (.int (1 : Int32)), .val (.int (0 : Int32)), .unset] [(.ref o0)])) _
    refine st3 _ ?_
    show Steps p.tables e below (T3.setTop (mkF m 14 #[.val (.ref o0), .val (.int (1 : Int32)), .val (.int (0 : Int32)), .unset] [(.ref dd)])) _
    refine st4 _ ?_
    show Steps p.tables e below (T4.setTop (mkF m 17 #[.val (.ref o0), .val (.int (1 : Int32)), .val (.int (0 : Int32)), .unset] [(.ref dd), (.ref dd)])) _
    refine Jvm.RoadKit.acmp (g := (mkF m 17 #[.val (.ref o0), .val (.int (1 : Int32)), .val (.int (0 : Int32)), .unset] [(.ref dd), (.ref dd)])) X4 hx rfl rfl rfl (pc0 := 17) (pc' := 45) (same := true) rfl (hb hby d386_17) rfl (decide_eq_true rfl) (by decide) (by decide) ?_
    show Steps p.tables e below (T4.setTop (mkF m 45 #[.val (.ref o0), .val (.int (1 : Int32)), .val (.int (0 : Int32)), .unset] [])) _
    refine XS.aloadN X4.here hx rfl (hb hby d386_45) rfl rfl ?_
    show Steps p.tables e below (T4.setTop (mkF m 46 #[.val (.ref o0), .val (.int (1 : Int32)), .val (.int (0 : Int32)), .unset] [(.ref o0)])) _
    refine XS.bipush X4.here hx rfl (hb hby d386_46) ?_
    show Steps p.tables e below (T4.setTop (mkF m 48 #[.val (.ref o0), .val (.int (1 : Int32)), .val (.int (0 : Int32)), .unset] [(.int (10 : Int32)), (.ref o0)])) _
    refine XS.iloadN X4.here hx rfl (hb hby d386_48) rfl ?_
    show Steps p.tables e below (T4.setTop (mkF m 49 #[.val (.ref o0), .val (.int (1 : Int32)), .val (.int (0 : Int32)), .unset] [(.int (1 : Int32)), (.int (10 : Int32)), (.ref o0)])) _
    refine st5 _ ?_
    show Steps p.tables e below (T5.setTop (mkF m 52 #[.val (.ref o0), .val (.int (1 : Int32)), .val (.int (0 : Int32)), .unset] [(.int (10 : Int32)), (.ref o0)])) _
    refine st9 _ ?_
    show Steps p.tables e below (T9.setTop (mkF m 55 #[.val (.ref o0), .val (.int (1 : Int32)), .val (.int (0 : Int32)), .unset] [(.ref b9), (.ref o0)])) _
    refine XS.dupX1 X9.here hx rfl (hb hby d386_55) rfl rfl rfl ?_
    show Steps p.tables e below (T9.setTop (mkF m 56 #[.val (.ref o0), .val (.int (1 : Int32)), .val (.int (0 : Int32)), .unset] [(.ref b9), (.ref o0), (.ref b9)])) _
    refine st16 _ ?_
    show Steps p.tables e below (T16.setTop (mkF m 59 #[.val (.ref o0), .val (.int (1 : Int32)), .val (.int (0 : Int32)), .unset] [(.ref b9)])) _
    jvm_step X16.here [X16.here.top, hx, (hb hby d386_59), X16.method', Bd.returns, Value.isRef, FieldType.isReference]
    first | (intro acts; rw [hr _ acts rfl rfl rfl]) | rw [hr _ _ rfl rfl rfl]
    exact Steps.refl _
  · show Q386 Z o0 dd kd mc h0 n0 _ T16.heap _
    rw [e16]
    exact ⟨b9, k9, rfl, N16, J16, sz_b9, Fw16, c17, O9, c18, c19⟩
theorem d387_0 : decode jdk_38_method_7_code 0 = .ok (.aload_n 0, 1) := by decide +kernel
theorem d387_1 : decode jdk_38_method_7_code 1 = .ok (.aload_n 0, 1) := by decide +kernel
theorem d387_2 : decode jdk_38_method_7_code 2 = .ok (.getfield 48, 3) := by decide +kernel
theorem d387_5 : decode jdk_38_method_7_code 5 = .ok (.iconst 1, 1) := by decide +kernel
theorem d387_6 : decode jdk_38_method_7_code 6 = .ok (.iadd, 1) := by decide +kernel
theorem d387_7 : decode jdk_38_method_7_code 7 = .ok (.invokevirtual 69, 3) := by decide +kernel
theorem d387_10 : decode jdk_38_method_7_code 10 = .ok (.areturn, 1) := by decide +kernel
theorem pd_5 : parseMethodDescriptor "(I)[Ljava/lang/Object;" = some ⟨[.int], some (.array (.object "java/lang/Object"))⟩ := by decide +kernel
theorem ef_387 (m : MethodId) (o0 : Addr) : entryFrame m #[(.ref o0)] 1 = mkF m 0 #[.val (.ref o0)] [] := by first | (simp [entryFrame, mkF, argsToLocals, Value.category]; done) | rfl
def Q387 (Z : State) (o0 : Addr) (dd : Addr) (kd : ClassId) (mc : Int32) (h0 : Heap) (n0 : Nat) (v : Option Value) (h : Heap) (L : List Loc) : Prop := ∃ b : Addr, ∃ kb : ClassId, v = some (.ref b) ∧ Fr n0 L ∧ Keep h0 h [o0] ∧ h0.size ≤ b ∧ Fld Z h o0 "java/util/ArrayList" "elementData" "[Ljava/lang/Object;" (.ref b) ∧ Arv Z h b kb (.object "java/lang/Object") (10 : Int32) [] .null ∧ Ovr Z kb "java/lang/Object" ∧ Fld Z h o0 "java/util/ArrayList" "size" "I" (.int (0 : Int32)) ∧ Fld Z h o0 "java/util/AbstractList" "modCount" "I" (.int mc)
set_option maxRecDepth 65536 in
set_option maxHeartbeats 40000000 in
theorem rm387 (l : Launch) (Z : State) (a0 : Array Value) (hw : ∀ d ∈ tables_1, d.before a0 Z = true) (ws : List Jvm.Cond) (o0 : Addr) (dd : Addr) (kd : ClassId) (mc : Int32) (h0 : Heap) (n0 : Nat) (Z0 : n0 ≤ h0.size) (E_o0 : Exa Z h0 o0 "java/util/ArrayList") (F_elementData_o0 : Fld Z h0 o0 "java/util/ArrayList" "elementData" "[Ljava/lang/Object;" (.ref dd)) (V_dd : Arv Z h0 dd kd (.object "java/lang/Object") (0 : Int32) [] .null) (S_DEFAULTCAPACITY_EMPTY_ELEMENTDATA : Sta Z h0 "java/util/ArrayList" "DEFAULTCAPACITY_EMPTY_ELEMENTDATA" "[Ljava/lang/Object;" (.ref dd)) (F_size_o0 : Fld Z h0 o0 "java/util/ArrayList" "size" "I" (.int (0 : Int32))) (F_modCount_o0 : Fld Z h0 o0 "java/util/AbstractList" "modCount" "I" (.int mc)) (g_o0 : n0 ≤ o0) :
    MetFree l (⟨"java/util/ArrayList", "grow", "()[Ljava/lang/Object;"⟩ : MethodName) (head1 (Jvm.Cond.code (⟨"java/util/ArrayList", "grow", "()[Ljava/lang/Object;"⟩ : MethodName) jdk_38_method_7_code 1 (some (.array (.object "java/lang/Object"))) :: ws) ({ frames := 2, cells := 1, slots := 10, locals := 29 } : Room)) (fun a U => a = #[(.ref o0)] ∧ Z.Warmed39 U.vm ∧ U.heap = h0) (fun _ _ _ _ _ => True) (fun _ U o U' => ∃ v L, o = .returned v ∧ Q387 Z o0 dd kd mc h0 n0 v U'.heap L ∧ FrameEnd U o U' L ({ frames := 2, cells := 1, slots := 10, locals := 29 } : Room).cells ({ frames := 2, cells := 1, slots := 10, locals := 29 } : Room).slots) := by
  refine MetFree.of_bodySF (plainFor_of_name pn_java_util_ArrayList) hisR ?_
  intro p e s m args below meth c s₁ Bd hml0 hP hK
  obtain ⟨rfl, hZ, hh⟩ := hP
  have hx := Bd.exec
  have hby := Bd.bytes
  have hml : c.maxLocals = 1 := hml0
  have hown : s.vm.findClass "java/util/ArrayList" = some m.cls := findClass_of_methodNamed Bd.named
  have hnm := (name_of_methodNamed Bd.named Bd.method).1
  have X0 : Stand p l e ({ frames := 2, cells := 1, slots := 10, locals := 29 } : Room) s m #[(.ref o0)] below meth c s₁ [] 0 0 := Stand.of_body Bd
  have e0 : s₁.heap = h0 := by rw [← hh, Bd.state]; rfl
  have N0 := Fr.nil n0
  have pre0 : ∀ t, Steps p.tables e below (s₁.setTop (mkF m 0 #[.val (.ref o0)] [])) t → Steps p.tables e below (s₁.setTop (entryFrame m #[(.ref o0)] 1)) t := fun t k => castTop (ef_387 m o0) k
  obtain ⟨T1, X1, e1, st1⟩ := getF X0 hx hZ hown (host := "") (Or.inl (hw _ (List.mem_of_getElem? (i := 106) rfl))) Via.refl e0 F_size_o0 (g := (mkF m 2 #[.val (.ref o0)] [(.ref o0), (.ref o0)])) rfl rfl (hb hby d387_2)
  have ne2 : dd ≠ o0 := (Ne.symm (Exa.neArv E_o0 V_dd (hw _ (List.mem_of_getElem? (i := 18) rfl))))
  obtain ⟨cq3, qh3, qh3'⟩ := E_o0.cell
  -- pc 7: ArrayList.grow by rm386
  obtain ⟨_, _, ⟨T3, L3, k3, n3⟩, -, X3, ⟨Lc3, hQ3, l3, y3, z3'⟩, st3⟩ := X1.privateBack hx (y := (⟨"java/util/ArrayList", "grow", "(I)[Ljava/lang/Object;"⟩ : MethodName)) hown (mvT hZ (hw _ (List.mem_of_getElem? (i := 128) rfl))) (mvT hZ (hw _ (List.mem_of_getElem? (i := 129) rfl))) (own_selP hZ (hw _ (List.mem_of_getElem? (i := 18) rfl)) (hw _ (List.mem_of_getElem? (i := 130) rfl)) (hw _ (List.mem_of_getElem? (i := 129) rfl)) (by decide)) (Cond.privateMethod_at (mvP hZ (hw _ (List.mem_of_getElem? (i := 130) rfl)) (args := #[]))) (mvT hZ (hw _ (List.mem_of_getElem? (i := 132) rfl))) (by decide) (backOf (W := 0) (rm386 l Z a0 hw [] o0 dd kd mc h0 n0 Z0 E_o0 F_elementData_o0 V_dd S_DEFAULTCAPACITY_EMPTY_ELEMENTDATA F_size_o0 F_modCount_o0 g_o0) hZ (hw _ (List.mem_of_getElem? (i := 132) rfl)) (hw _ (List.mem_of_getElem? (i := 19) rfl)) (by decide) (by decide)) (g := (mkF m 7 #[.val (.ref o0)] [(.int (1 : Int32)), (.ref o0)])) rfl (by rw [hml]; rfl) (Steps.refl _) (a := o0) (by rw [e1]; exact qh3) qh3' (argsL := [(.int (1 : Int32))]) (rest := []) (lenOf pd_5 rfl) rfl (by show 2 * 0 + _ ≤ _; exact Nat.le_of_eq rfl) (hb hby d387_7) (fun _ _ => ⟨rfl, e1, (by decide : 0 + 1 ≤ _), (by decide : 0 + 10 ≤ _)⟩)
  dsimp only [Pt.U, Pt.locs, Pt.cells, Pt.slots] at X3 l3 y3 z3' st3 hQ3
  subst l3 y3 z3'
  obtain ⟨b_3, kb_3, rfl, N3q, K3, r0_3, r1_3, r2_3, r3_3, r4_3, r5_3⟩ := hQ3
  have N3 := Fr.app N0 N3q
  have J3 : Keep h0 T3.heap [o0] := (Keep.refl h0 [o0]).trans K3 (allS (Or.inl (List.mem_of_getElem? (i := 0) rfl)) all0)
  have g_b_3 : n0 ≤ b_3 := Nat.le_trans Z0 r0_3
  have sz_b_3 : h0.size ≤ b_3 := Nat.le_trans (Keep.refl h0 [o0]).1 r0_3
  have ne4 : o0 ≠ b_3 := Nat.ne_of_lt (Nat.lt_of_lt_of_le E_o0.lt r0_3)
  have ne5 : dd ≠ b_3 := Nat.ne_of_lt (Nat.lt_of_lt_of_le V_dd.lt r0_3)
  obtain ⟨fs, hr, hrun, hended, hW, hsame⟩ := X3.leave (v := some (.ref b_3)) (fun h => by rw [Bd.returns] at h; cases h)
  refine ⟨_, _, pre0 _ ?_, hrun, hended, _, _, rfl, ?_, ⟨_, rfl⟩, hW, hsame.mono (by decide) (by decide)⟩
  · show Steps p.tables e below (s₁.setTop (mkF m 0 #[.val (.ref o0)] [])) _
    refine XS.aloadN X0.here hx rfl (hb hby d387_0) rfl rfl ?_
    show Steps p.tables e below (s₁.setTop (mkF m 1 #[.val (.ref o0)] [(.ref o0)])) _
    refine XS.aloadN X0.here hx rfl (hb hby d387_1) rfl rfl ?_
    show Steps p.tables e below (s₁.setTop (mkF m 2 #[.val (.ref o0)] [(.ref o0), (.ref o0)])) _
    refine st1 _ ?_
    show Steps p.tables e below (T1.setTop (mkF m 5 #[.val (.ref o0)] [(.int (0 : Int32)), (.ref o0)])) _
    refine XS.iconst X1.here hx rfl (hb hby d387_5) ?_
    show Steps p.tables e below (T1.setTop (mkF m 6 #[.val (.ref o0)] [(.int (1 : Int32)), (.int (0 : Int32)), (.ref o0)])) _
    refine XS.iadd X1.here hx rfl (hb hby d387_6) rfl ?_
    show Steps p.tables e below (T1.setTop (mkF m 7 #[.val (.ref o0)] [(.int (1 : Int32)), (.ref o0)])) _
    refine st3.trans ?_
    show Steps p.tables e below (T3.setTop (mkF m 10 #[.val (.ref o0)] [(.ref b_3)])) _
    jvm_step X3.here [X3.here.top, hx, (hb hby d387_10), X3.method', Bd.returns, Value.isRef, FieldType.isReference]
    first | (intro acts; rw [hr _ acts rfl rfl rfl]) | rw [hr _ _ rfl rfl rfl]
    exact Steps.refl _
  · show Q387 Z o0 dd kd mc h0 n0 _ T3.heap _
    exact ⟨b_3, kb_3, rfl, N3, J3, sz_b_3, r1_3, r2_3, r3_3, r4_3, r5_3⟩
theorem d3826_0 : decode jdk_38_method_26_code 0 = .ok (.aload_n 0, 1) := by decide +kernel
theorem d3826_1 : decode jdk_38_method_26_code 1 = .ok (.iload_n 1, 1) := by decide +kernel
theorem d3826_2 : decode jdk_38_method_26_code 2 = .ok (.invokevirtual 135, 3) := by decide +kernel
theorem d3826_5 : decode jdk_38_method_26_code 5 = .ok (.aload_n 0, 1) := by decide +kernel
theorem d3826_6 : decode jdk_38_method_26_code 6 = .ok (.dup, 1) := by decide +kernel
theorem d3826_7 : decode jdk_38_method_26_code 7 = .ok (.getfield 63, 3) := by decide +kernel
theorem d3826_10 : decode jdk_38_method_26_code 10 = .ok (.iconst 1, 1) := by decide +kernel
theorem d3826_11 : decode jdk_38_method_26_code 11 = .ok (.iadd, 1) := by decide +kernel
theorem d3826_12 : decode jdk_38_method_26_code 12 = .ok (.putfield 63, 3) := by decide +kernel
theorem d3826_15 : decode jdk_38_method_26_code 15 = .ok (.aload_n 0, 1) := by decide +kernel
theorem d3826_16 : decode jdk_38_method_26_code 16 = .ok (.getfield 48, 3) := by decide +kernel
theorem d3826_19 : decode jdk_38_method_26_code 19 = .ok (.dup, 1) := by decide +kernel
theorem d3826_20 : decode jdk_38_method_26_code 20 = .ok (.istore_n 3, 1) := by decide +kernel
theorem d3826_21 : decode jdk_38_method_26_code 21 = .ok (.aload_n 0, 1) := by decide +kernel
theorem d3826_22 : decode jdk_38_method_26_code 22 = .ok (.getfield 9, 3) := by decide +kernel
theorem d3826_25 : decode jdk_38_method_26_code 25 = .ok (.dup, 1) := by decide +kernel
theorem d3826_26 : decode jdk_38_method_26_code 26 = .ok (.astore 4, 2) := by decide +kernel
theorem d3826_28 : decode jdk_38_method_26_code 28 = .ok (.arraylength, 1) := by decide +kernel
theorem d3826_29 : decode jdk_38_method_26_code 29 = .ok (.if_icmp .ne 9, 3) := by decide +kernel
theorem d3826_32 : decode jdk_38_method_26_code 32 = .ok (.aload_n 0, 1) := by decide +kernel
theorem d3826_33 : decode jdk_38_method_26_code 33 = .ok (.invokevirtual 129, 3) := by decide +kernel
theorem d3826_36 : decode jdk_38_method_26_code 36 = .ok (.astore 4, 2) := by decide +kernel
theorem d3826_38 : decode jdk_38_method_26_code 38 = .ok (.aload 4, 2) := by decide +kernel
theorem d3826_40 : decode jdk_38_method_26_code 40 = .ok (.iload_n 1, 1) := by decide +kernel
theorem d3826_41 : decode jdk_38_method_26_code 41 = .ok (.aload 4, 2) := by decide +kernel
theorem d3826_43 : decode jdk_38_method_26_code 43 = .ok (.iload_n 1, 1) := by decide +kernel
theorem d3826_44 : decode jdk_38_method_26_code 44 = .ok (.iconst 1, 1) := by decide +kernel
theorem d3826_45 : decode jdk_38_method_26_code 45 = .ok (.iadd, 1) := by decide +kernel
theorem d3826_46 : decode jdk_38_method_26_code 46 = .ok (.iload_n 3, 1) := by decide +kernel
theorem d3826_47 : decode jdk_38_method_26_code 47 = .ok (.iload_n 1, 1) := by decide +kernel
theorem d3826_48 : decode jdk_38_method_26_code 48 = .ok (.isub, 1) := by decide +kernel
theorem d3826_49 : decode jdk_38_method_26_code 49 = .ok (.invokestatic 112, 3) := by decide +kernel
theorem d3826_52 : decode jdk_38_method_26_code 52 = .ok (.aload 4, 2) := by decide +kernel
theorem d3826_54 : decode jdk_38_method_26_code 54 = .ok (.iload_n 1, 1) := by decide +kernel
theorem d3826_55 : decode jdk_38_method_26_code 55 = .ok (.aload_n 2, 1) := by decide +kernel
theorem d3826_56 : decode jdk_38_method_26_code 56 = .ok (.aastore, 1) := by decide +kernel
theorem d3826_57 : decode jdk_38_method_26_code 57 = .ok (.aload_n 0, 1) := by decide +kernel
theorem d3826_58 : decode jdk_38_method_26_code 58 = .ok (.iload_n 3, 1) := by decide +kernel
theorem d3826_59 : decode jdk_38_method_26_code 59 = .ok (.iconst 1, 1) := by decide +kernel
theorem d3826_60 : decode jdk_38_method_26_code 60 = .ok (.iadd, 1) := by decide +kernel
theorem d3826_61 : decode jdk_38_method_26_code 61 = .ok (.putfield 48, 3) := by decide +kernel
theorem d3826_64 : decode jdk_38_method_26_code 64 = .ok (.return_, 1) := by decide +kernel
theorem pd_6 : parseMethodDescriptor "(I)V" = some ⟨[.int], none⟩ := by decide +kernel
theorem pd_7 : parseMethodDescriptor "()[Ljava/lang/Object;" = some ⟨[], some (.array (.object "java/lang/Object"))⟩ := by decide +kernel
theorem ef_3826_0_0 (m : MethodId) (o0 : Addr) (o2 : Addr) : entryFrame m #[(.ref o0), (.int (0 : Int32)), (.ref o2)] 5 = mkF m 0 #[.val (.ref o0), .val (.int (0 : Int32)), .val (.ref o2), .unset, .unset] [] := by first | (simp [entryFrame, mkF, argsToLocals, Value.category]; done) | rfl
def Q3826_0_0 (Z : State) (o0 : Addr) (o2 : Addr) (dd : Addr) (kd : ClassId) (mc : Int32) (h0 : Heap) (n0 : Nat) (v : Option Value) (h : Heap) (L : List Loc) : Prop := ∃ b : Addr, ∃ kb : ClassId, v = none ∧ Fr n0 L ∧ Keep h0 h [o0] ∧ h0.size ≤ b ∧ Fld Z h o0 "java/util/ArrayList" "size" "I" (.int (1 : Int32)) ∧ Fld Z h o0 "java/util/AbstractList" "modCount" "I" (.int (mc + (1 : Int32))) ∧ Fld Z h o0 "java/util/ArrayList" "elementData" "[Ljava/lang/Object;" (.ref b) ∧ Arv Z h b kb (.object "java/lang/Object") (10 : Int32) [(.ref o2)] .null ∧ Ovr Z kb "java/lang/Object"
set_option maxRecDepth 65536 in
set_option maxHeartbeats 40000000 in
theorem rm3826_0_0 (l : Launch) (Z : State) (a0 : Array Value) (hw : ∀ d ∈ tables_1, d.before a0 Z = true) (ws : List Jvm.Cond) (o0 : Addr) (o2 : Addr) (dd : Addr) (kd : ClassId) (mc : Int32) (h0 : Heap) (n0 : Nat) (Z0 : n0 ≤ h0.size) (E_o0 : Exa Z h0 o0 "java/util/ArrayList") (F_elementData_o0 : Fld Z h0 o0 "java/util/ArrayList" "elementData" "[Ljava/lang/Object;" (.ref dd)) (V_dd : Arv Z h0 dd kd (.object "java/lang/Object") (0 : Int32) [] .null) (S_DEFAULTCAPACITY_EMPTY_ELEMENTDATA : Sta Z h0 "java/util/ArrayList" "DEFAULTCAPACITY_EMPTY_ELEMENTDATA" "[Ljava/lang/Object;" (.ref dd)) (F_size_o0 : Fld Z h0 o0 "java/util/ArrayList" "size" "I" (.int (0 : Int32))) (F_modCount_o0 : Fld Z h0 o0 "java/util/AbstractList" "modCount" "I" (.int mc)) (g_o0 : n0 ≤ o0) (E_o2 : Exa Z h0 o2 "com/example/tierline/tierline/csv/LineProblems$Problem") :
    MetFree l (⟨"java/util/ArrayList", "add", "(ILjava/lang/Object;)V"⟩ : MethodName) (head1 (Jvm.Cond.code (⟨"java/util/ArrayList", "add", "(ILjava/lang/Object;)V"⟩ : MethodName) jdk_38_method_26_code 5 none :: ws) ({ frames := 3, cells := 1, slots := 10, locals := 41 } : Room)) (fun a U => a = #[(.ref o0), (.int (0 : Int32)), (.ref o2)] ∧ Z.Warmed39 U.vm ∧ U.heap = h0) (fun _ _ _ _ _ => True) (fun _ U o U' => ∃ v L, o = .returned v ∧ Q3826_0_0 Z o0 o2 dd kd mc h0 n0 v U'.heap L ∧ FrameEnd U o U' L ({ frames := 3, cells := 1, slots := 10, locals := 41 } : Room).cells ({ frames := 3, cells := 1, slots := 10, locals := 41 } : Room).slots) := by
  refine MetFree.of_bodySF (plainFor_of_name pn_java_util_ArrayList) hisR ?_
  intro p e s m args below meth c s₁ Bd hml0 hP hK
  obtain ⟨rfl, hZ, hh⟩ := hP
  have hx := Bd.exec
  have hby := Bd.bytes
  have hml : c.maxLocals = 5 := hml0
  have hown : s.vm.findClass "java/util/ArrayList" = some m.cls := findClass_of_methodNamed Bd.named
  have hnm := (name_of_methodNamed Bd.named Bd.method).1
  have X0 : Stand p l e ({ frames := 3, cells := 1, slots := 10, locals := 41 } : Room) s m #[(.ref o0), (.int (0 : Int32)), (.ref o2)] below meth c s₁ [] 0 0 := Stand.of_body Bd
  have e0 : s₁.heap = h0 := by rw [← hh, Bd.state]; rfl
  have N0 := Fr.nil n0
  have pre0 : ∀ t, Steps p.tables e below (s₁.setTop (mkF m 0 #[.val (.ref o0), .val (.int (0 : Int32)), .val (.ref o2), .unset, .unset] [])) t → Steps p.tables e below (s₁.setTop (entryFrame m #[(.ref o0), (.int (0 : Int32)), (.ref o2)] 5)) t := fun t k => castTop (ef_3826_0_0 m o0 o2) k
  obtain ⟨cq1, qh1, qh1'⟩ := E_o0.cell
  -- pc 2: ArrayList.rangeCheckForAdd by rm3845
  obtain ⟨_, _, ⟨T1, L1, k1, n1⟩, -, X1, ⟨Lc1, hQ1, l1, y1, z1'⟩, st1⟩ := X0.privateBack hx (y := (⟨"java/util/ArrayList", "rangeCheckForAdd", "(I)V"⟩ : MethodName)) hown (mvT hZ (hw _ (List.mem_of_getElem? (i := 116) rfl))) (mvT hZ (hw _ (List.mem_of_getElem? (i := 117) rfl))) (own_selP hZ (hw _ (List.mem_of_getElem? (i := 18) rfl)) (hw _ (List.mem_of_getElem? (i := 118) rfl)) (hw _ (List.mem_of_getElem? (i := 117) rfl)) (by decide)) (Cond.privateMethod_at (mvP hZ (hw _ (List.mem_of_getElem? (i := 118) rfl)) (args := #[]))) (mvT hZ (hw _ (List.mem_of_getElem? (i := 120) rfl))) (by decide) (backOf (W := 0) (rm3845 l Z a0 hw [] o0 (0 : Int32) (0 : Int32) h0 n0 Z0 F_size_o0 (by decide) (by decide)) hZ (hw _ (List.mem_of_getElem? (i := 120) rfl)) (hw _ (List.mem_of_getElem? (i := 19) rfl)) (by decide) (by decide)) (g := (mkF m 2 #[.val (.ref o0), .val (.int (0 : Int32)), .val (.ref o2), .unset, .unset] [(.int (0 : Int32)), (.ref o0)])) rfl (by rw [hml]; rfl) (Steps.refl _) (a := o0) (by rw [e0]; exact qh1) qh1' (argsL := [(.int (0 : Int32))]) (rest := []) (lenOf pd_6 rfl) rfl (by show 2 * 0 + _ ≤ _; exact Nat.le_of_eq rfl) (hb hby d3826_2) (fun _ _ => ⟨rfl, e0, (by decide : 0 + 0 ≤ _), (by decide : 0 + 0 ≤ _)⟩)
  dsimp only [Pt.U, Pt.locs, Pt.cells, Pt.slots] at X1 l1 y1 z1' st1 hQ1
  subst l1 y1 z1'
  obtain ⟨rfl, N1q, K1⟩ := hQ1
  have N1 := Fr.app N0 N1q
  have J1 : Keep h0 T1.heap [o0] := (Keep.refl h0 [o0]).trans K1 all0
  have c2 : Fld Z T1.heap o0 "java/util/AbstractList" "modCount" "I" (.int mc) := (F_modCount_o0.keep K1 nin0)
  obtain ⟨T3, X3, e3, st3⟩ := getF X1 hx hZ hown (host := "") (Or.inl (hw _ (List.mem_of_getElem? (i := 121) rfl))) (Via.of (hw _ (List.mem_of_getElem? (i := 122) rfl))) rfl c2 (g := (mkF m 7 #[.val (.ref o0), .val (.int (0 : Int32)), .val (.ref o2), .unset, .unset] [(.ref o0), (.ref o0)])) rfl rfl (hb hby d3826_7)
  have c4 : Exa Z T1.heap o0 "java/util/ArrayList" := (E_o0.keep K1)
  have c5 : Arv Z T1.heap dd kd (.object "java/lang/Object") (0 : Int32) [] .null := (V_dd.keep K1 nin0)
  have ne6 : dd ≠ o0 := (Ne.symm (Exa.neArv c4 c5 (hw _ (List.mem_of_getElem? (i := 18) rfl))))
  obtain ⟨T7, h7, X7, e7, W7, st7⟩ := putF X3 hx hZ hown (host := "") (Or.inl (hw _ (List.mem_of_getElem? (i := 121) rfl))) (Via.of (hw _ (List.mem_of_getElem? (i := 122) rfl))) e3 c2 c4 (Or.inl (hw _ (List.mem_of_getElem? (i := 37) rfl))) (hw _ (List.mem_of_getElem? (i := 18) rfl)) (ty := .int) (by decide) rfl rfl (g := (mkF m 12 #[.val (.ref o0), .val (.int (0 : Int32)), .val (.ref o2), .unset, .unset] [(.int (mc + (1 : Int32))), (.ref o0)])) rfl rfl (hb hby d3826_12)
  have Fw7 : Fld Z h7 o0 "java/util/AbstractList" "modCount" "I" (.int (mc + (1 : Int32))) := c2.same W7
  have J7 : Keep h0 h7 [o0] := J1.wr W7 (Or.inl (List.mem_of_getElem? (i := 0) rfl))
  have N7 := Fr.snoc X7 N1 g_o0
  have c8 : Fld Z h7 o0 "java/util/ArrayList" "size" "I" (.int (0 : Int32)) := ((F_size_o0.keep K1 nin0).other W7 (Or.inr (slot_ne (Or.inl (hw _ (List.mem_of_getElem? (i := 107) rfl))) (Or.inl (hw _ (List.mem_of_getElem? (i := 37) rfl))) (by decide) (t := .int) (t' := .int) (by decide) (by decide))))
  obtain ⟨T9, X9, e9, st9⟩ := getF X7 hx hZ hown (host := "") (Or.inl (hw _ (List.mem_of_getElem? (i := 106) rfl))) Via.refl e7 c8 (g := (mkF m 16 #[.val (.ref o0), .val (.int (0 : Int32)), .val (.ref o2), .unset, .unset] [(.ref o0)])) rfl rfl (hb hby d3826_16)
  have c10 : Fld Z h7 o0 "java/util/ArrayList" "elementData" "[Ljava/lang/Object;" (.ref dd) := ((F_elementData_o0.keep K1 nin0).other W7 (Or.inr (slot_ne (Or.inl (hw _ (List.mem_of_getElem? (i := 40) rfl))) (Or.inl (hw _ (List.mem_of_getElem? (i := 37) rfl))) (by decide) (t := (.array (.object "java/lang/Object"))) (t' := .int) (by decide) (by decide))))
  obtain ⟨T11, X11, e11, st11⟩ := getF X9 hx hZ hown (host := "") (Or.inl (hw _ (List.mem_of_getElem? (i := 39) rfl))) Via.refl e9 c10 (g := (mkF m 22 #[.val (.ref o0), .val (.int (0 : Int32)), .val (.ref o2), .val (.int (0 : Int32)), .unset] [(.ref o0), (.int (0 : Int32))])) rfl rfl (hb hby d3826_22)
  have c12 : Arv Z h7 dd kd (.object "java/lang/Object") (0 : Int32) [] .null := (c5.other W7 ne6)
  obtain ⟨cl13, Ar13, -, Sz13, Nn13, -, -⟩ := id c12
  have c14 : Exa Z h7 o0 "java/util/ArrayList" := (c4.wr W7)
  have c15 : Sta Z h7 "java/util/ArrayList" "DEFAULTCAPACITY_EMPTY_ELEMENTDATA" "[Ljava/lang/Object;" (.ref dd) := ((own_Sta_keep S_DEFAULTCAPACITY_EMPTY_ELEMENTDATA K1 all0).wr W7)
  have c16 : Exa Z h7 o2 "com/example/tierline/tierline/csv/LineProblems$Problem" := ((E_o2.keep K1).wr W7)
  have z17 : n0 ≤ h7.size := (Nat.le_trans (Nat.le_trans Z0 K1.1) (Keep.of_wr W7).1)
  obtain ⟨cq18, qh18, qh18'⟩ := c14.cell
  -- pc 33: ArrayList.grow by rm387
  obtain ⟨_, _, ⟨T18, L18, k18, n18⟩, -, X18, ⟨Lc18, hQ18, l18, y18, z18'⟩, st18⟩ := X11.privateBack hx (y := (⟨"java/util/ArrayList", "grow", "()[Ljava/lang/Object;"⟩ : MethodName)) hown (mvT hZ (hw _ (List.mem_of_getElem? (i := 123) rfl))) (mvT hZ (hw _ (List.mem_of_getElem? (i := 124) rfl))) (own_selP hZ (hw _ (List.mem_of_getElem? (i := 18) rfl)) (hw _ (List.mem_of_getElem? (i := 125) rfl)) (hw _ (List.mem_of_getElem? (i := 124) rfl)) (by decide)) (Cond.privateMethod_at (mvP hZ (hw _ (List.mem_of_getElem? (i := 125) rfl)) (args := #[]))) (mvT hZ (hw _ (List.mem_of_getElem? (i := 127) rfl))) (by decide) (backOf (W := 0) (rm387 l Z a0 hw [] o0 dd kd (mc + (1 : Int32)) h7 n0 z17 c14 c10 c12 c15 c8 Fw7 g_o0) hZ (hw _ (List.mem_of_getElem? (i := 127) rfl)) (hw _ (List.mem_of_getElem? (i := 19) rfl)) (by decide) (by decide)) (g := (mkF m 33 #[.val (.ref o0), .val (.int (0 : Int32)), .val (.ref o2), .val (.int (0 : Int32)), .val (.ref dd)] [(.ref o0)])) rfl (by rw [hml]; rfl) (Steps.refl _) (a := o0) (by rw [e11]; exact qh18) qh18' (argsL := []) (rest := []) (lenOf pd_7 rfl) rfl (by show 2 * 0 + _ ≤ _; exact Nat.le_of_eq rfl) (hb hby d3826_33) (fun _ _ => ⟨rfl, e11, (by decide : 0 + 1 ≤ _), (by decide : 0 + 10 ≤ _)⟩)
  dsimp only [Pt.U, Pt.locs, Pt.cells, Pt.slots] at X18 l18 y18 z18' st18 hQ18
  subst l18 y18 z18'
  obtain ⟨b_18, kb_18, rfl, N18q, K18, r0_18, r1_18, r2_18, r3_18, r4_18, r5_18⟩ := hQ18
  have N18 := Fr.app N7 N18q
  have J18 : Keep h0 T18.heap [o0] := J7.trans K18 (allS (Or.inl (List.mem_of_getElem? (i := 0) rfl)) all0)
  have g_b_18 : n0 ≤ b_18 := Nat.le_trans z17 r0_18
  have sz_b_18 : h0.size ≤ b_18 := Nat.le_trans J7.1 r0_18
  have ne19 : o0 ≠ b_18 := Nat.ne_of_lt (Nat.lt_of_lt_of_le c14.lt r0_18)
  have ne20 : dd ≠ b_18 := Nat.ne_of_lt (Nat.lt_of_lt_of_le c12.lt r0_18)
  have ne21 : o2 ≠ b_18 := Nat.ne_of_lt (Nat.lt_of_lt_of_le c16.lt r0_18)
  obtain ⟨T22, h22, L22, X22, e22, N22, K22, Vc22, st22⟩ := cpA X18 hx hZ hown (hw _ (List.mem_of_getElem? (i := 139) rfl)) (hw _ (List.mem_of_getElem? (i := 142) rfl)) (hw _ (List.mem_of_getElem? (i := 140) rfl)) (hw _ (List.mem_of_getElem? (i := 141) rfl)) rfl r2_18 (r2_18.pad (pad_rep [] .null 1)) (Or.inr ⟨rfl, rfl, trivial⟩) (by decide) (by decide) (by decide) (by decide) (by decide) (us := []) rfl (Nat.le_of_ble_eq_true rfl) N18 g_b_18 (g := (mkF m 49 #[.val (.ref o0), .val (.int (0 : Int32)), .val (.ref o2), .val (.int (0 : Int32)), .val (.ref b_18)] [(.int (0 : Int32)), (.int (1 : Int32)), (.ref b_18), (.int (0 : Int32)), (.ref b_18)])) rfl (by rw [hml]; rfl) (rest := []) rfl (hb hby d3826_49) (by decide) (W := 0) (by show 2 * 0 + _ ≤ _; exact Nat.le_of_eq rfl) (by decide)
  have J22 : Keep h0 h22 [o0] := J18.trans K22 (allS (Or.inr sz_b_18) all0)
  have V22 : Arv Z h22 b_18 kb_18 (.object "java/lang/Object") (10 : Int32) [.null] .null := Vc22
  have c23 : Exa Z h22 o2 "com/example/tierline/tierline/csv/LineProblems$Problem" := ((c16.keep K18).keep K22)
  obtain ⟨cl24, Ar24, qk24, Sz24, Nn24, Hs24, Gs24⟩ := id V22
  have hin24 : ¬ ((0 : Int32) < 0 ∨ cl24.slots.size ≤ ((0 : Int32)).toNatClampNeg) := inb_of Sz24 ⟨by decide, by decide⟩
  obtain ⟨T25, h25, X25, e25, W25, st25⟩ := stR X22 hx hZ e22 Ar24 (j := (0 : Int32)) hin24 rfl (Sto.ofV Ar24 qk24 r3_18 (Ins.of_exa c23 (hw _ (List.mem_of_getElem? (i := 143) rfl)))) (g := (mkF m 56 #[.val (.ref o0), .val (.int (0 : Int32)), .val (.ref o2), .val (.int (0 : Int32)), .val (.ref b_18)] [(.ref o2), (.int (0 : Int32)), (.ref b_18)])) rfl rfl (hb hby d3826_56)
  have V25 : Arv Z h25 b_18 kb_18 (.object "java/lang/Object") (10 : Int32) [(.ref o2)] .null := Arv.set Ar24 qk24 Sz24 Nn24 Hs24 Gs24 rfl W25 0 rfl (Nat.le_of_ble_eq_true rfl)
  have J25 : Keep h0 h25 [o0] := J22.wr W25 (Or.inr sz_b_18)
  have N25 := Fr.snoc X25 N22 g_b_18
  have c26 : Fld Z h25 o0 "java/util/ArrayList" "size" "I" (.int (0 : Int32)) := ((r4_18.keep K22 (ninS ne19 nin0)).other W25 (Or.inl ne19))
  have c27 : Exa Z h25 o0 "java/util/ArrayList" := (((c14.keep K18).keep K22).wr W25)
  obtain ⟨T28, h28, X28, e28, W28, st28⟩ := putF X25 hx hZ hown (host := "") (Or.inl (hw _ (List.mem_of_getElem? (i := 106) rfl))) Via.refl e25 c26 c27 (Or.inl (hw _ (List.mem_of_getElem? (i := 107) rfl))) (hw _ (List.mem_of_getElem? (i := 18) rfl)) (ty := .int) (by decide) rfl rfl (g := (mkF m 61 #[.val (.ref o0), .val (.int (0 : Int32)), .val (.ref o2), .val (.int (0 : Int32)), .val (.ref b_18)] [(.int (1 : Int32)), (.ref o0)])) rfl rfl (hb hby d3826_61)
  have Fw28 : Fld Z h28 o0 "java/util/ArrayList" "size" "I" (.int (1 : Int32)) := c26.same W28
  have J28 : Keep h0 h28 [o0] := J25.wr W28 (Or.inl (List.mem_of_getElem? (i := 0) rfl))
  have N28 := Fr.snoc X28 N25 g_o0
  have c29 : Fld Z h28 o0 "java/util/AbstractList" "modCount" "I" (.int (mc + (1 : Int32))) := (((r5_18.keep K22 (ninS ne19 nin0)).other W25 (Or.inl ne19)).other W28 (Or.inr (slot_ne (Or.inl (hw _ (List.mem_of_getElem? (i := 37) rfl))) (Or.inl (hw _ (List.mem_of_getElem? (i := 107) rfl))) (by decide) (t := .int) (t' := .int) (by decide) (by decide))))
  have c30 : Fld Z h28 o0 "java/util/ArrayList" "elementData" "[Ljava/lang/Object;" (.ref b_18) := (((r1_18.keep K22 (ninS ne19 nin0)).other W25 (Or.inl ne19)).other W28 (Or.inr (slot_ne (Or.inl (hw _ (List.mem_of_getElem? (i := 40) rfl))) (Or.inl (hw _ (List.mem_of_getElem? (i := 107) rfl))) (by decide) (t := (.array (.object "java/lang/Object"))) (t' := .int) (by decide) (by decide))))
  have c31 : Arv Z h28 b_18 kb_18 (.object "java/lang/Object") (10 : Int32) [(.ref o2)] .null := (V25.other W28 (Ne.symm ne19))
  obtain ⟨fs, hr, hrun, hended, hW, hsame⟩ := X28.leave (v := none) (fun _ => rfl)
  refine ⟨_, _, pre0 _ ?_, hrun, hended, _, _, rfl, ?_, ⟨_, rfl⟩, hW, hsame.mono (by decide) (by decide)⟩
  · show Steps p.tables e below (s₁.setTop (mkF m 0 #[.val (.ref o0), .val (.int (0 : Int32)), .val (.ref o2), .unset, .unset] [])) _
    refine XS.aloadN X0.here hx rfl (hb hby d3826_0) rfl rfl ?_
    show Steps p.tables e below (s₁.setTop (mkF m 1 #[.val (.ref o0), .val (.int (0 : Int32)), .val (.ref o2), .unset, .unset] [(.ref o0)])) _
    refine XS.iloadN X0.here hx rfl (hb hby d3826_1) rfl ?_
    show Steps p.tables e below (s₁.setTop (mkF m 2 #[.val (.ref o0), .val (.int (0 : Int32)), .val (.ref o2), .unset, .unset] [(.int (0 : Int32)), (.ref o0)])) _
    refine st1.trans ?_
    show Steps p.tables e below (T1.setTop (mkF m 5 #[.val (.ref o0), .val (.int (0 : Int32)), .val (.ref o2), .unset, .unset] [])) _
    refine XS.aloadN X1.here hx rfl (hb hby d3826_5) rfl rfl ?_
    show Steps p.tables e below (T1.setTop (mkF m 6 #[.val (.ref o0), .val (.int (0 : Int32)), .val (.ref o2), .unset, .unset] [(.ref o0)])) _
    refine XS.dup X1.here hx rfl (hb hby d3826_6) rfl rfl ?_
    show Steps p.tables e below (T1.setTop (mkF m 7 #[.val (.ref o0), .val (.int (0 : Int32)), .val (.ref o2), .unset, .unset] [(.ref o0), (.ref o0)])) _
    refine st3 _ ?_
    show Steps p.tables e below (T3.setTop (mkF m 10 #[.val (.ref o0), .val (.int (0 : Int32)), .val (.ref o2), .unset, .unset] [(.int mc), (.ref o0)])) _
    refine XS.iconst X3.here hx rfl (hb hby d3826_10) ?_
    show Steps p.tables e below (T3.setTop (mkF m 11 #[.val (.ref o0), .val (.int (0 : Int32)), .val (.ref o2), .unset, .unset] [(.int (1 : Int32)), (.int mc), (.ref o0)])) _
    refine XS.iadd X3.here hx rfl (hb hby d3826_11) rfl ?_
    show Steps p.tables e below (T3.setTop (mkF m 12 #[.val (.ref o0), .val (.int (0 : Int32)), .val (.ref o2), .unset, .unset] [(.int (mc + (1 : Int32))), (.ref o0)])) _
    refine st7 _ ?_
    show Steps p.tables e below (T7.setTop (mkF m 15 #[.val (.ref o0), .val (.int (0 : Int32)), .val (.ref o2), .unset, .unset] [])) _
    refine XS.aloadN X7.here hx rfl (hb hby d3826_15) rfl rfl ?_
    show Steps p.tables e below (T7.setTop (mkF m 16 #[.val (.ref o0), .val (.int (0 : Int32)), .val (.ref o2), .unset, .unset] [(.ref o0)])) _
    refine st9 _ ?_
    show Steps p.tables e below (T9.setTop (mkF m 19 #[.val (.ref o0), .val (.int (0 : Int32)), .val (.ref o2), .unset, .unset] [(.int (0 : Int32))])) _
    refine XS.dup X9.here hx rfl (hb hby d3826_19) rfl rfl ?_
    show Steps p.tables e below (T9.setTop (mkF m 20 #[.val (.ref o0), .val (.int (0 : Int32)), .val (.ref o2), .unset, .unset] [(.int (0 : Int32)), (.int (0 : Int32))])) _
    refine XS.istoreN X9.here hx rfl (hb hby d3826_20) rfl (l' := #[.val (.ref o0), .val (.int (0 : Int32)), .val (.ref o2), .val (.int (0 : Int32)), .unset]) rfl ?_
    show Steps p.tables e below (T9.setTop (mkF m 21 #[.val (.ref o0), .val (.int (0 : Int32)), .val (.ref o2), .val (.int (0 : Int32)), .unset] [(.int (0 : Int32))])) _
    refine XS.aloadN X9.here hx rfl (hb hby d3826_21) rfl rfl ?_
    show Steps p.tables e below (T9.setTop (mkF m 22 #[.val (.ref o0), .val (.int (0 : Int32)), .val (.ref o2), .val (.int (0 : Int32)), .unset] [(.ref o0), (.int (0 : Int32))])) _
    refine st11 _ ?_
    show Steps p.tables e below (T11.setTop (mkF m 25 #[.val (.ref o0), .val (.int (0 : Int32)), .val (.ref o2), .val (.int (0 : Int32)), .unset] [(.ref dd), (.int (0 : Int32))])) _
    refine XS.dup X11.here hx rfl (hb hby d3826_25) rfl rfl ?_
    show Steps p.tables e below (T11.setTop (mkF m 26 #[.val (.ref o0), .val (.int (0 : Int32)), .val (.ref o2), .val (.int (0 : Int32)), .unset] [(.ref dd), (.ref dd), (.int (0 : Int32))])) _
    refine XS.astore X11.here hx rfl (hb hby d3826_26) rfl rfl (l' := #[.val (.ref o0), .val (.int (0 : Int32)), .val (.ref o2), .val (.int (0 : Int32)), .val (.ref dd)]) rfl ?_
    show Steps p.tables e below (T11.setTop (mkF m 28 #[.val (.ref o0), .val (.int (0 : Int32)), .val (.ref o2), .val (.int (0 : Int32)), .val (.ref dd)] [(.ref dd), (.int (0 : Int32))])) _
    refine X11.arraylength hx (by rw [e11]; exact Ar13.1) (State.isArrayOf_alike hZ.alike Ar13.2.1) (g := (mkF m 28 #[.val (.ref o0), .val (.int (0 : Int32)), .val (.ref o2), .val (.int (0 : Int32)), .val (.ref dd)] [(.ref dd), (.int (0 : Int32))])) rfl rfl (hb hby d3826_28) _ ?_
    rw [len_of Sz13 Nn13]
    show Steps p.tables e below (T11.setTop (mkF m 29 #[.val (.ref o0), .val (.int (0 : Int32)), .val (.ref o2), .val (.int (0 : Int32)), .val (.ref dd)] [(.int (0 : Int32)), (.int (0 : Int32))])) _
    refine XS.icmpNo X11.here hx rfl (hb hby d3826_29) rfl (teq (by decide)).2 ?_
    show Steps p.tables e below (T11.setTop (mkF m 32 #[.val (.ref o0), .val (.int (0 : Int32)), .val (.ref o2), .val (.int (0 : Int32)), .val (.ref dd)] [])) _
    refine XS.aloadN X11.here hx rfl (hb hby d3826_32) rfl rfl ?_
    show Steps p.tables e below (T11.setTop (mkF m 33 #[.val (.ref o0), .val (.int (0 : Int32)), .val (.ref o2), .val (.int (0 : Int32)), .val (.ref dd)] [(.ref o0)])) _
    refine st18.trans ?_
    show Steps p.tables e below (T18.setTop (mkF m 36 #[.val (.ref o0), .val (.int (0 : Int32)), .val (.ref o2), .val (.int (0 : Int32)), .val (.ref dd)] [(.ref b_18)])) _
    refine XS.astore X18.here hx rfl (hb hby d3826_36) rfl rfl (l' := #[.val (.ref o0), .val (.int (0 : Int32)), .val (.ref o2), .val (.int (0 : Int32)), .val (.ref b_18)]) rfl ?_
    show Steps p.tables e below (T18.setTop (mkF m 38 #[.val (.ref o0), .val (.int (0 : Int32)), .val (.ref o2), .val (.int (0 : Int32)), .val (.ref b_18)] [])) _
    refine XS.aload X18.here hx rfl (hb hby d3826_38) rfl rfl ?_
    show Steps p.tables e below (T18.setTop (mkF m 40 #[.val (.ref o0), .val (.int (0 : Int32)), .val (.ref o2), .val (.int (0 : Int32)), .val (.ref b_18)] [(.ref b_18)])) _
    refine XS.iloadN X18.here hx rfl (hb hby d3826_40) rfl ?_
    show Steps p.tables e below (T18.setTop (mkF m 41 #[.val (.ref o0), .val (.int (0 : Int32)), .val (.ref o2), .val (.int (0 : Int32)), .val (.ref b_18)] [(.int (0 : Int32)), (.ref b_18)])) _
    refine XS.aload X18.here hx rfl (hb hby d3826_41) rfl rfl ?_
    show Steps p.tables e below (T18.setTop (mkF m 43 #[.val (.ref o0), .val (.int (0 : Int32)), .val (.ref o2), .val (.int (0 : Int32)), .val (.ref b_18)] [(.ref b_18), (.int (0 : Int32)), (.ref b_18)])) _
    refine XS.iloadN X18.here hx rfl (hb hby d3826_43) rfl ?_
    show Steps p.tables e below (T18.setTop (mkF m 44 #[.val (.ref o0), .val (.int (0 : Int32)), .val (.ref o2), .val (.int (0 : Int32)), .val (.ref b_18)] [(.int (0 : Int32)), (.ref b_18), (.int (0 : Int32)), (.ref b_18)])) _
    refine XS.iconst X18.here hx rfl (hb hby d3826_44) ?_
    show Steps p.tables e below (T18.setTop (mkF m 45 #[.val (.ref o0), .val (.int (0 : Int32)), .val (.ref o2), .val (.int (0 : Int32)), .val (.ref b_18)] [(.int (1 : Int32)), (.int (0 : Int32)), (.ref b_18), (.int (0 : Int32)), (.ref b_18)])) _
    refine XS.iadd X18.here hx rfl (hb hby d3826_45) rfl ?_
    show Steps p.tables e below (T18.setTop (mkF m 46 #[.val (.ref o0), .val (.int (0 : Int32)), .val (.ref o2), .val (.int (0 : Int32)), .val (.ref b_18)] [(.int (1 : Int32)), (.ref b_18), (.int (0 : Int32)), (.ref b_18)])) _
    refine XS.iloadN X18.here hx rfl (hb hby d3826_46) rfl ?_
    show Steps p.tables e below (T18.setTop (mkF m 47 #[.val (.ref o0), .val (.int (0 : Int32)), .val (.ref o2), .val (.int (0 : Int32)), .val (.ref b_18)] [(.int (0 : Int32)), (.int (1 : Int32)), (.ref b_18), (.int (0 : Int32)), (.ref b_18)])) _
    refine XS.iloadN X18.here hx rfl (hb hby d3826_47) rfl ?_
    show Steps p.tables e below (T18.setTop (mkF m 48 #[.val (.ref o0), .val (.int (0 : Int32)), .val (.ref o2), .val (.int (0 : Int32)), .val (.ref b_18)] [(.int (0 : Int32)), (.int (0 : Int32)), (.int (1 : Int32)), (.ref b_18), (.int (0 : Int32)), (.ref b_18)])) _
    refine XS.isub X18.here hx rfl (hb hby d3826_48) rfl ?_
    show Steps p.tables e below (T18.setTop (mkF m 49 #[.val (.ref o0), .val (.int (0 : Int32)), .val (.ref o2), .val (.int (0 : Int32)), .val (.ref b_18)] [(.int (0 : Int32)), (.int (1 : Int32)), (.ref b_18), (.int (0 : Int32)), (.ref b_18)])) _
    refine st22 _ ?_
    show Steps p.tables e below (T22.setTop (mkF m 52 #[.val (.ref o0), .val (.int (0 : Int32)), .val (.ref o2), .val (.int (0 : Int32)), .val (.ref b_18)] [])) _
    refine XS.aload X22.here hx rfl (hb hby d3826_52) rfl rfl ?_
    show Steps p.tables e below (T22.setTop (mkF m 54 #[.val (.ref o0), .val (.int (0 : Int32)), .val (.ref o2), .val (.int (0 : Int32)), .val (.ref b_18)] [(.ref b_18)])) _
    refine XS.iloadN X22.here hx rfl (hb hby d3826_54) rfl ?_
    show Steps p.tables e below (T22.setTop (mkF m 55 #[.val (.ref o0), .val (.int (0 : Int32)), .val (.ref o2), .val (.int (0 : Int32)), .val (.ref b_18)] [(.int (0 : Int32)), (.ref b_18)])) _
    refine XS.aloadN X22.here hx rfl (hb hby d3826_55) rfl rfl ?_
    show Steps p.tables e below (T22.setTop (mkF m 56 #[.val (.ref o0), .val (.int (0 : Int32)), .val (.ref o2), .val (.int (0 : Int32)), .val (.ref b_18)] [(.ref o2), (.int (0 : Int32)), (.ref b_18)])) _
    refine st25 _ ?_
    show Steps p.tables e below (T25.setTop (mkF m 57 #[.val (.ref o0), .val (.int (0 : Int32)), .val (.ref o2), .val (.int (0 : Int32)), .val (.ref b_18)] [])) _
    refine XS.aloadN X25.here hx rfl (hb hby d3826_57) rfl rfl ?_
    show Steps p.tables e below (T25.setTop (mkF m 58 #[.val (.ref o0), .val (.int (0 : Int32)), .val (.ref o2), .val (.int (0 : Int32)), .val (.ref b_18)] [(.ref o0)])) _
    refine XS.iloadN X25.here hx rfl (hb hby d3826_58) rfl ?_
    show Steps p.tables e below (T25.setTop (mkF m 59 #[.val (.ref o0), .val (.int (0 : Int32)), .val (.ref o2), .val (.int (0 : Int32)), .val (.ref b_18)] [(.int (0 : Int32)), (.ref o0)])) _
    refine XS.iconst X25.here hx rfl (hb hby d3826_59) ?_
    show Steps p.tables e below (T25.setTop (mkF m 60 #[.val (.ref o0), .val (.int (0 : Int32)), .val (.ref o2), .val (.int (0 : Int32)), .val (.ref b_18)] [(.int (1 : Int32)), (.int (0 : Int32)), (.ref o0)])) _
    refine XS.iadd X25.here hx rfl (hb hby d3826_60) rfl ?_
    show Steps p.tables e below (T25.setTop (mkF m 61 #[.val (.ref o0), .val (.int (0 : Int32)), .val (.ref o2), .val (.int (0 : Int32)), .val (.ref b_18)] [(.int (1 : Int32)), (.ref o0)])) _
    refine st28 _ ?_
    show Steps p.tables e below (T28.setTop (mkF m 64 #[.val (.ref o0), .val (.int (0 : Int32)), .val (.ref o2), .val (.int (0 : Int32)), .val (.ref b_18)] [])) _
    exact X28.returnOut hx Bd.returns (hb hby d3826_64) hr
  · show Q3826_0_0 Z o0 o2 dd kd mc h0 n0 _ T28.heap _
    rw [e28]
    exact ⟨b_18, kb_18, rfl, N28, J28, sz_b_18, Fw28, c29, c30, c31, r3_18⟩
theorem ef_3826_1_0 (m : MethodId) (o0 : Addr) (o2 : Addr) : entryFrame m #[(.ref o0), (.int (0 : Int32)), (.ref o2)] 5 = mkF m 0 #[.val (.ref o0), .val (.int (0 : Int32)), .val (.ref o2), .unset, .unset] [] := by first | (simp [entryFrame, mkF, argsToLocals, Value.category]; done) | rfl
def Q3826_1_0 (Z : State) (o0 : Addr) (o2 : Addr) (arr : Addr) (ka : ClassId) (mc : Int32) (x0 : Addr) (h0 : Heap) (n0 : Nat) (v : Option Value) (h : Heap) (L : List Loc) : Prop := v = none ∧ Fr n0 L ∧ Keep h0 h [o0, arr] ∧ Fld Z h o0 "java/util/ArrayList" "size" "I" (.int (2 : Int32)) ∧ Fld Z h o0 "java/util/AbstractList" "modCount" "I" (.int (mc + (1 : Int32))) ∧ Fld Z h o0 "java/util/ArrayList" "elementData" "[Ljava/lang/Object;" (.ref arr) ∧ Arv Z h arr ka (.object "java/lang/Object") (10 : Int32) [(.ref o2), (.ref x0)] .null
set_option maxRecDepth 65536 in
set_option maxHeartbeats 40000000 in
theorem rm3826_1_0 (l : Launch) (Z : State) (a0 : Array Value) (hw : ∀ d ∈ tables_1, d.before a0 Z = true) (ws : List Jvm.Cond) (o0 : Addr) (o2 : Addr) (arr : Addr) (ka : ClassId) (mc : Int32) (x0 : Addr) (h0 : Heap) (n0 : Nat) (Z0 : n0 ≤ h0.size) (E_o0 : Exa Z h0 o0 "java/util/ArrayList") (F_elementData_o0 : Fld Z h0 o0 "java/util/ArrayList" "elementData" "[Ljava/lang/Object;" (.ref arr)) (V_arr : Arv Z h0 arr ka (.object "java/lang/Object") (10 : Int32) [(.ref x0)] .null) (ovr_ka : Ovr Z ka "java/lang/Object") (F_size_o0 : Fld Z h0 o0 "java/util/ArrayList" "size" "I" (.int (1 : Int32))) (F_modCount_o0 : Fld Z h0 o0 "java/util/AbstractList" "modCount" "I" (.int mc)) (g_o0 : n0 ≤ o0) (g_arr : n0 ≤ arr) (E_o2 : Exa Z h0 o2 "com/example/tierline/tierline/csv/LineProblems$Problem") (E_x0 : Exa Z h0 x0 "com/example/tierline/tierline/csv/LineProblems$Problem") :
    MetFree l (⟨"java/util/ArrayList", "add", "(ILjava/lang/Object;)V"⟩ : MethodName) (head1 (Jvm.Cond.code (⟨"java/util/ArrayList", "add", "(ILjava/lang/Object;)V"⟩ : MethodName) jdk_38_method_26_code 5 none :: ws) ({ frames := 1, cells := 0, slots := 0, locals := 18 } : Room)) (fun a U => a = #[(.ref o0), (.int (0 : Int32)), (.ref o2)] ∧ Z.Warmed39 U.vm ∧ U.heap = h0) (fun _ _ _ _ _ => True) (fun _ U o U' => ∃ v L, o = .returned v ∧ Q3826_1_0 Z o0 o2 arr ka mc x0 h0 n0 v U'.heap L ∧ FrameEnd U o U' L ({ frames := 1, cells := 0, slots := 0, locals := 18 } : Room).cells ({ frames := 1, cells := 0, slots := 0, locals := 18 } : Room).slots) := by
  refine MetFree.of_bodySF (plainFor_of_name pn_java_util_ArrayList) hisR ?_
  intro p e s m args below meth c s₁ Bd hml0 hP hK
  obtain ⟨rfl, hZ, hh⟩ := hP
  have hx := Bd.exec
  have hby := Bd.bytes
  have hml : c.maxLocals = 5 := hml0
  have hown : s.vm.findClass "java/util/ArrayList" = some m.cls := findClass_of_methodNamed Bd.named
  have hnm := (name_of_methodNamed Bd.named Bd.method).1
  have X0 : Stand p l e ({ frames := 1, cells := 0, slots := 0, locals := 18 } : Room) s m #[(.ref o0), (.int (0 : Int32)), (.ref o2)] below meth c s₁ [] 0 0 := Stand.of_body Bd
  have e0 : s₁.heap = h0 := by rw [← hh, Bd.state]; rfl
  have N0 := Fr.nil n0
  have pre0 : ∀ t, Steps p.tables e below (s₁.setTop (mkF m 0 #[.val (.ref o0), .val (.int (0 : Int32)), .val (.ref o2), .unset, .unset] [])) t → Steps p.tables e below (s₁.setTop (entryFrame m #[(.ref o0), (.int (0 : Int32)), (.ref o2)] 5)) t := fun t k => castTop (ef_3826_1_0 m o0 o2) k
  obtain ⟨cq1, qh1, qh1'⟩ := E_o0.cell
  -- pc 2: ArrayList.rangeCheckForAdd by rm3845
  obtain ⟨_, _, ⟨T1, L1, k1, n1⟩, -, X1, ⟨Lc1, hQ1, l1, y1, z1'⟩, st1⟩ := X0.privateBack hx (y := (⟨"java/util/ArrayList", "rangeCheckForAdd", "(I)V"⟩ : MethodName)) hown (mvT hZ (hw _ (List.mem_of_getElem? (i := 116) rfl))) (mvT hZ (hw _ (List.mem_of_getElem? (i := 117) rfl))) (own_selP hZ (hw _ (List.mem_of_getElem? (i := 18) rfl)) (hw _ (List.mem_of_getElem? (i := 118) rfl)) (hw _ (List.mem_of_getElem? (i := 117) rfl)) (by decide)) (Cond.privateMethod_at (mvP hZ (hw _ (List.mem_of_getElem? (i := 118) rfl)) (args := #[]))) (mvT hZ (hw _ (List.mem_of_getElem? (i := 120) rfl))) (by decide) (backOf (W := 0) (rm3845 l Z a0 hw [] o0 (0 : Int32) (1 : Int32) h0 n0 Z0 F_size_o0 (by decide) (by decide)) hZ (hw _ (List.mem_of_getElem? (i := 120) rfl)) (hw _ (List.mem_of_getElem? (i := 19) rfl)) (by decide) (by decide)) (g := (mkF m 2 #[.val (.ref o0), .val (.int (0 : Int32)), .val (.ref o2), .unset, .unset] [(.int (0 : Int32)), (.ref o0)])) rfl (by rw [hml]; rfl) (Steps.refl _) (a := o0) (by rw [e0]; exact qh1) qh1' (argsL := [(.int (0 : Int32))]) (rest := []) (lenOf pd_6 rfl) rfl (by show 2 * 0 + _ ≤ _; exact Nat.le_of_eq rfl) (hb hby d3826_2) (fun _ _ => ⟨rfl, e0, (by decide : 0 + 0 ≤ _), (by decide : 0 + 0 ≤ _)⟩)
  dsimp only [Pt.U, Pt.locs, Pt.cells, Pt.slots] at X1 l1 y1 z1' st1 hQ1
  subst l1 y1 z1'
  obtain ⟨rfl, N1q, K1⟩ := hQ1
  have N1 := Fr.app N0 N1q
  have J1 : Keep h0 T1.heap [o0, arr] := (Keep.refl h0 [o0, arr]).trans K1 all0
  have c2 : Fld Z T1.heap o0 "java/util/AbstractList" "modCount" "I" (.int mc) := (F_modCount_o0.keep K1 nin0)
  obtain ⟨T3, X3, e3, st3⟩ := getF X1 hx hZ hown (host := "") (Or.inl (hw _ (List.mem_of_getElem? (i := 121) rfl))) (Via.of (hw _ (List.mem_of_getElem? (i := 122) rfl))) rfl c2 (g := (mkF m 7 #[.val (.ref o0), .val (.int (0 : Int32)), .val (.ref o2), .unset, .unset] [(.ref o0), (.ref o0)])) rfl rfl (hb hby d3826_7)
  have c4 : Exa Z T1.heap o0 "java/util/ArrayList" := (E_o0.keep K1)
  have c5 : Arv Z T1.heap arr ka (.object "java/lang/Object") (10 : Int32) [(.ref x0)] .null := (V_arr.keep K1 nin0)
  have ne6 : arr ≠ o0 := (Ne.symm (Exa.neArv c4 c5 (hw _ (List.mem_of_getElem? (i := 18) rfl))))
  obtain ⟨T7, h7, X7, e7, W7, st7⟩ := putF X3 hx hZ hown (host := "") (Or.inl (hw _ (List.mem_of_getElem? (i := 121) rfl))) (Via.of (hw _ (List.mem_of_getElem? (i := 122) rfl))) e3 c2 c4 (Or.inl (hw _ (List.mem_of_getElem? (i := 37) rfl))) (hw _ (List.mem_of_getElem? (i := 18) rfl)) (ty := .int) (by decide) rfl rfl (g := (mkF m 12 #[.val (.ref o0), .val (.int (0 : Int32)), .val (.ref o2), .unset, .unset] [(.int (mc + (1 : Int32))), (.ref o0)])) rfl rfl (hb hby d3826_12)
  have Fw7 : Fld Z h7 o0 "java/util/AbstractList" "modCount" "I" (.int (mc + (1 : Int32))) := c2.same W7
  have J7 : Keep h0 h7 [o0, arr] := J1.wr W7 (Or.inl (List.mem_of_getElem? (i := 0) rfl))
  have N7 := Fr.snoc X7 N1 g_o0
  have c8 : Fld Z h7 o0 "java/util/ArrayList" "size" "I" (.int (1 : Int32)) := ((F_size_o0.keep K1 nin0).other W7 (Or.inr (slot_ne (Or.inl (hw _ (List.mem_of_getElem? (i := 107) rfl))) (Or.inl (hw _ (List.mem_of_getElem? (i := 37) rfl))) (by decide) (t := .int) (t' := .int) (by decide) (by decide))))
  obtain ⟨T9, X9, e9, st9⟩ := getF X7 hx hZ hown (host := "") (Or.inl (hw _ (List.mem_of_getElem? (i := 106) rfl))) Via.refl e7 c8 (g := (mkF m 16 #[.val (.ref o0), .val (.int (0 : Int32)), .val (.ref o2), .unset, .unset] [(.ref o0)])) rfl rfl (hb hby d3826_16)
  have c10 : Fld Z h7 o0 "java/util/ArrayList" "elementData" "[Ljava/lang/Object;" (.ref arr) := ((F_elementData_o0.keep K1 nin0).other W7 (Or.inr (slot_ne (Or.inl (hw _ (List.mem_of_getElem? (i := 40) rfl))) (Or.inl (hw _ (List.mem_of_getElem? (i := 37) rfl))) (by decide) (t := (.array (.object "java/lang/Object"))) (t' := .int) (by decide) (by decide))))
  obtain ⟨T11, X11, e11, st11⟩ := getF X9 hx hZ hown (host := "") (Or.inl (hw _ (List.mem_of_getElem? (i := 39) rfl))) Via.refl e9 c10 (g := (mkF m 22 #[.val (.ref o0), .val (.int (0 : Int32)), .val (.ref o2), .val (.int (1 : Int32)), .unset] [(.ref o0), (.int (1 : Int32))])) rfl rfl (hb hby d3826_22)
  have c12 : Arv Z h7 arr ka (.object "java/lang/Object") (10 : Int32) [(.ref x0)] .null := (c5.other W7 ne6)
  obtain ⟨cl13, Ar13, -, Sz13, Nn13, -, -⟩ := id c12
  obtain ⟨cq14, Aq14, qq14, -⟩ := id c12
  have c15 : Exa Z h7 x0 "com/example/tierline/tierline/csv/LineProblems$Problem" := ((E_x0.keep K1).wr W7)
  obtain ⟨T16, h16, L16, X16, e16, N16, K16, Vc16, st16⟩ := cpA X11 hx hZ hown (hw _ (List.mem_of_getElem? (i := 139) rfl)) (hw _ (List.mem_of_getElem? (i := 142) rfl)) (hw _ (List.mem_of_getElem? (i := 140) rfl)) (hw _ (List.mem_of_getElem? (i := 141) rfl)) e11 c12 (c12.pad (pad_rep [(.ref x0)] .null 1)) (Or.inr ⟨rfl, rfl, ⟨Sto.ofV Aq14 qq14 ovr_ka (Ins.of_exa c15 (hw _ (List.mem_of_getElem? (i := 143) rfl))), trivial⟩⟩) (by decide) (by decide) (by decide) (by decide) (by decide) (us := [(.ref x0)]) rfl (Nat.le_of_ble_eq_true rfl) N7 g_arr (g := (mkF m 49 #[.val (.ref o0), .val (.int (0 : Int32)), .val (.ref o2), .val (.int (1 : Int32)), .val (.ref arr)] [(.int (1 : Int32)), (.int (1 : Int32)), (.ref arr), (.int (0 : Int32)), (.ref arr)])) rfl (by rw [hml]; rfl) (rest := []) rfl (hb hby d3826_49) (by decide) (W := 0) (by show 2 * 0 + _ ≤ _; exact Nat.le_of_eq rfl) (by decide)
  have J16 : Keep h0 h16 [o0, arr] := J7.trans K16 (allS (Or.inl (List.mem_of_getElem? (i := 1) rfl)) all0)
  have V16 : Arv Z h16 arr ka (.object "java/lang/Object") (10 : Int32) [(.ref x0), (.ref x0)] .null := Vc16
  have c17 : Exa Z h16 o2 "com/example/tierline/tierline/csv/LineProblems$Problem" := (((E_o2.keep K1).wr W7).keep K16)
  obtain ⟨cl18, Ar18, qk18, Sz18, Nn18, Hs18, Gs18⟩ := id V16
  have hin18 : ¬ ((0 : Int32) < 0 ∨ cl18.slots.size ≤ ((0 : Int32)).toNatClampNeg) := inb_of Sz18 ⟨by decide, by decide⟩
  obtain ⟨T19, h19, X19, e19, W19, st19⟩ := stR X16 hx hZ e16 Ar18 (j := (0 : Int32)) hin18 rfl (Sto.ofV Ar18 qk18 ovr_ka (Ins.of_exa c17 (hw _ (List.mem_of_getElem? (i := 143) rfl)))) (g := (mkF m 56 #[.val (.ref o0), .val (.int (0 : Int32)), .val (.ref o2), .val (.int (1 : Int32)), .val (.ref arr)] [(.ref o2), (.int (0 : Int32)), (.ref arr)])) rfl rfl (hb hby d3826_56)
  have V19 : Arv Z h19 arr ka (.object "java/lang/Object") (10 : Int32) [(.ref o2), (.ref x0)] .null := Arv.set Ar18 qk18 Sz18 Nn18 Hs18 Gs18 rfl W19 0 rfl (Nat.le_of_ble_eq_true rfl)
  have J19 : Keep h0 h19 [o0, arr] := J16.wr W19 (Or.inl (List.mem_of_getElem? (i := 1) rfl))
  have N19 := Fr.snoc X19 N16 g_arr
  have c20 : Fld Z h19 o0 "java/util/ArrayList" "size" "I" (.int (1 : Int32)) := ((c8.keep K16 (ninS (Ne.symm ne6) nin0)).other W19 (Or.inl (Ne.symm ne6)))
  have c21 : Exa Z h19 o0 "java/util/ArrayList" := (((c4.wr W7).keep K16).wr W19)
  obtain ⟨T22, h22, X22, e22, W22, st22⟩ := putF X19 hx hZ hown (host := "") (Or.inl (hw _ (List.mem_of_getElem? (i := 106) rfl))) Via.refl e19 c20 c21 (Or.inl (hw _ (List.mem_of_getElem? (i := 107) rfl))) (hw _ (List.mem_of_getElem? (i := 18) rfl)) (ty := .int) (by decide) rfl rfl (g := (mkF m 61 #[.val (.ref o0), .val (.int (0 : Int32)), .val (.ref o2), .val (.int (1 : Int32)), .val (.ref arr)] [(.int (2 : Int32)), (.ref o0)])) rfl rfl (hb hby d3826_61)
  have Fw22 : Fld Z h22 o0 "java/util/ArrayList" "size" "I" (.int (2 : Int32)) := c20.same W22
  have J22 : Keep h0 h22 [o0, arr] := J19.wr W22 (Or.inl (List.mem_of_getElem? (i := 0) rfl))
  have N22 := Fr.snoc X22 N19 g_o0
  have c23 : Fld Z h22 o0 "java/util/AbstractList" "modCount" "I" (.int (mc + (1 : Int32))) := (((Fw7.keep K16 (ninS (Ne.symm ne6) nin0)).other W19 (Or.inl (Ne.symm ne6))).other W22 (Or.inr (slot_ne (Or.inl (hw _ (List.mem_of_getElem? (i := 37) rfl))) (Or.inl (hw _ (List.mem_of_getElem? (i := 107) rfl))) (by decide) (t := .int) (t' := .int) (by decide) (by decide))))
  have c24 : Fld Z h22 o0 "java/util/ArrayList" "elementData" "[Ljava/lang/Object;" (.ref arr) := (((c10.keep K16 (ninS (Ne.symm ne6) nin0)).other W19 (Or.inl (Ne.symm ne6))).other W22 (Or.inr (slot_ne (Or.inl (hw _ (List.mem_of_getElem? (i := 40) rfl))) (Or.inl (hw _ (List.mem_of_getElem? (i := 107) rfl))) (by decide) (t := (.array (.object "java/lang/Object"))) (t' := .int) (by decide) (by decide))))
  have c25 : Arv Z h22 arr ka (.object "java/lang/Object") (10 : Int32) [(.ref o2), (.ref x0)] .null := (V19.other W22 ne6)
  obtain ⟨fs, hr, hrun, hended, hW, hsame⟩ := X22.leave (v := none) (fun _ => rfl)
  refine ⟨_, _, pre0 _ ?_, hrun, hended, _, _, rfl, ?_, ⟨_, rfl⟩, hW, hsame.mono (by decide) (by decide)⟩
  · show Steps p.tables e below (s₁.setTop (mkF m 0 #[.val (.ref o0), .val (.int (0 : Int32)), .val (.ref o2), .unset, .unset] [])) _
    refine XS.aloadN X0.here hx rfl (hb hby d3826_0) rfl rfl ?_
    show Steps p.tables e below (s₁.setTop (mkF m 1 #[.val (.ref o0), .val (.int (0 : Int32)), .val (.ref o2), .unset, .unset] [(.ref o0)])) _
    refine XS.iloadN X0.here hx rfl (hb hby d3826_1) rfl ?_
    show Steps p.tables e below (s₁.setTop (mkF m 2 #[.val (.ref o0), .val (.int (0 : Int32)), .val (.ref o2), .unset, .unset] [(.int (0 : Int32)), (.ref o0)])) _
    refine st1.trans ?_
    show Steps p.tables e below (T1.setTop (mkF m 5 #[.val (.ref o0), .val (.int (0 : Int32)), .val (.ref o2), .unset, .unset] [])) _
    refine XS.aloadN X1.here hx rfl (hb hby d3826_5) rfl rfl ?_
    show Steps p.tables e below (T1.setTop (mkF m 6 #[.val (.ref o0), .val (.int (0 : Int32)), .val (.ref o2), .unset, .unset] [(.ref o0)])) _
    refine XS.dup X1.here hx rfl (hb hby d3826_6) rfl rfl ?_
    show Steps p.tables e below (T1.setTop (mkF m 7 #[.val (.ref o0), .val (.int (0 : Int32)), .val (.ref o2), .unset, .unset] [(.ref o0), (.ref o0)])) _
    refine st3 _ ?_
    show Steps p.tables e below (T3.setTop (mkF m 10 #[.val (.ref o0), .val (.int (0 : Int32)), .val (.ref o2), .unset, .unset] [(.int mc), (.ref o0)])) _
    refine XS.iconst X3.here hx rfl (hb hby d3826_10) ?_
    show Steps p.tables e below (T3.setTop (mkF m 11 #[.val (.ref o0), .val (.int (0 : Int32)), .val (.ref o2), .unset, .unset] [(.int (1 : Int32)), (.int mc), (.ref o0)])) _
    refine XS.iadd X3.here hx rfl (hb hby d3826_11) rfl ?_
    show Steps p.tables e below (T3.setTop (mkF m 12 #[.val (.ref o0), .val (.int (0 : Int32)), .val (.ref o2), .unset, .unset] [(.int (mc + (1 : Int32))), (.ref o0)])) _
    refine st7 _ ?_
    show Steps p.tables e below (T7.setTop (mkF m 15 #[.val (.ref o0), .val (.int (0 : Int32)), .val (.ref o2), .unset, .unset] [])) _
    refine XS.aloadN X7.here hx rfl (hb hby d3826_15) rfl rfl ?_
    show Steps p.tables e below (T7.setTop (mkF m 16 #[.val (.ref o0), .val (.int (0 : Int32)), .val (.ref o2), .unset, .unset] [(.ref o0)])) _
    refine st9 _ ?_
    show Steps p.tables e below (T9.setTop (mkF m 19 #[.val (.ref o0), .val (.int (0 : Int32)), .val (.ref o2), .unset, .unset] [(.int (1 : Int32))])) _
    refine XS.dup X9.here hx rfl (hb hby d3826_19) rfl rfl ?_
    show Steps p.tables e below (T9.setTop (mkF m 20 #[.val (.ref o0), .val (.int (0 : Int32)), .val (.ref o2), .unset, .unset] [(.int (1 : Int32)), (.int (1 : Int32))])) _
    refine XS.istoreN X9.here hx rfl (hb hby d3826_20) rfl (l' := #[.val (.ref o0), .val (.int (0 : Int32)), .val (.ref o2), .val (.int (1 : Int32)), .unset]) rfl ?_
    show Steps p.tables e below (T9.setTop (mkF m 21 #[.val (.ref o0), .val (.int (0 : Int32)), .val (.ref o2), .val (.int (1 : Int32)), .unset] [(.int (1 : Int32))])) _
    refine XS.aloadN X9.here hx rfl (hb hby d3826_21) rfl rfl ?_
    show Steps p.tables e below (T9.setTop (mkF m 22 #[.val (.ref o0), .val (.int (0 : Int32)), .val (.ref o2), .val (.int (1 : Int32)), .unset] [(.ref o0), (.int (1 : Int32))])) _
    refine st11 _ ?_
    show Steps p.tables e below (T11.setTop (mkF m 25 #[.val (.ref o0), .val (.int (0 : Int32)), .val (.ref o2), .val (.int (1 : Int32)), .unset] [(.ref arr), (.int (1 : Int32))])) _
    refine XS.dup X11.here hx rfl (hb hby d3826_25) rfl rfl ?_
    show Steps p.tables e below (T11.setTop (mkF m 26 #[.val (.ref o0), .val (.int (0 : Int32)), .val (.ref o2), .val (.int (1 : Int32)), .unset] [(.ref arr), (.ref arr), (.int (1 : Int32))])) _
    refine XS.astore X11.here hx rfl (hb hby d3826_26) rfl rfl (l' := #[.val (.ref o0), .val (.int (0 : Int32)), .val (.ref o2), .val (.int (1 : Int32)), .val (.ref arr)]) rfl ?_
    show Steps p.tables e below (T11.setTop (mkF m 28 #[.val (.ref o0), .val (.int (0 : Int32)), .val (.ref o2), .val (.int (1 : Int32)), .val (.ref arr)] [(.ref arr), (.int (1 : Int32))])) _
    refine X11.arraylength hx (by rw [e11]; exact Ar13.1) (State.isArrayOf_alike hZ.alike Ar13.2.1) (g := (mkF m 28 #[.val (.ref o0), .val (.int (0 : Int32)), .val (.ref o2), .val (.int (1 : Int32)), .val (.ref arr)] [(.ref arr), (.int (1 : Int32))])) rfl rfl (hb hby d3826_28) _ ?_
    rw [len_of Sz13 Nn13]
    show Steps p.tables e below (T11.setTop (mkF m 29 #[.val (.ref o0), .val (.int (0 : Int32)), .val (.ref o2), .val (.int (1 : Int32)), .val (.ref arr)] [(.int (10 : Int32)), (.int (1 : Int32))])) _
    refine XS.icmpYes X11.here hx rfl (pc0 := 29) (pc' := 38) rfl (hb hby d3826_29) rfl (feq (by decide)).2 (by decide) (by decide) ?_
    show Steps p.tables e below (T11.setTop (mkF m 38 #[.val (.ref o0), .val (.int (0 : Int32)), .val (.ref o2), .val (.int (1 : Int32)), .val (.ref arr)] [])) _
    refine XS.aload X11.here hx rfl (hb hby d3826_38) rfl rfl ?_
    show Steps p.tables e below (T11.setTop (mkF m 40 #[.val (.ref o0), .val (.int (0 : Int32)), .val (.ref o2), .val (.int (1 : Int32)), .val (.ref arr)] [(.ref arr)])) _
    refine XS.iloadN X11.here hx rfl (hb hby d3826_40) rfl ?_
    show Steps p.tables e below (T11.setTop (mkF m 41 #[.val (.ref o0), .val (.int (0 : Int32)), .val (.ref o2), .val (.int (1 : Int32)), .val (.ref arr)] [(.int (0 : Int32)), (.ref arr)])) _
    refine XS.aload X11.here hx rfl (hb hby d3826_41) rfl rfl ?_
    show Steps p.tables e below (T11.setTop (mkF m 43 #[.val (.ref o0), .val (.int (0 : Int32)), .val (.ref o2), .val (.int (1 : Int32)), .val (.ref arr)] [(.ref arr), (.int (0 : Int32)), (.ref arr)])) _
    refine XS.iloadN X11.here hx rfl (hb hby d3826_43) rfl ?_
    show Steps p.tables e below (T11.setTop (mkF m 44 #[.val (.ref o0), .val (.int (0 : Int32)), .val (.ref o2), .val (.int (1 : Int32)), .val (.ref arr)] [(.int (0 : Int32)), (.ref arr), (.int (0 : Int32)), (.ref arr)])) _
    refine XS.iconst X11.here hx rfl (hb hby d3826_44) ?_
    show Steps p.tables e below (T11.setTop (mkF m 45 #[.val (.ref o0), .val (.int (0 : Int32)), .val (.ref o2), .val (.int (1 : Int32)), .val (.ref arr)] [(.int (1 : Int32)), (.int (0 : Int32)), (.ref arr), (.int (0 : Int32)), (.ref arr)])) _
    refine XS.iadd X11.here hx rfl (hb hby d3826_45) rfl ?_
    show Steps p.tables e below (T11.setTop (mkF m 46 #[.val (.ref o0), .val (.int (0 : Int32)), .val (.ref o2), .val (.int (1 : Int32)), .val (.ref arr)] [(.int (1 : Int32)), (.ref arr), (.int (0 : Int32)), (.ref arr)])) _
    refine XS.iloadN X11.here hx rfl (hb hby d3826_46) rfl ?_
    show Steps p.tables e below (T11.setTop (mkF m 47 #[.val (.ref o0), .val (.int (0 : Int32)), .val (.ref o2), .val (.int (1 : Int32)), .val (.ref arr)] [(.int (1 : Int32)), (.int (1 : Int32)), (.ref arr), (.int (0 : Int32)), (.ref arr)])) _
    refine XS.iloadN X11.here hx rfl (hb hby d3826_47) rfl ?_
    show Steps p.tables e below (T11.setTop (mkF m 48 #[.val (.ref o0), .val (.int (0 : Int32)), .val (.ref o2), .val (.int (1 : Int32)), .val (.ref arr)] [(.int (0 : Int32)), (.int (1 : Int32)), (.int (1 : Int32)), (.ref arr), (.int (0 : Int32)), (.ref arr)])) _
    refine XS.isub X11.here hx rfl (hb hby d3826_48) rfl ?_
    show Steps p.tables e below (T11.setTop (mkF m 49 #[.val (.ref o0), .val (.int (0 : Int32)), .val (.ref o2), .val (.int (1 : Int32)), .val (.ref arr)] [(.int (1 : Int32)), (.int (1 : Int32)), (.ref arr), (.int (0 : Int32)), (.ref arr)])) _
    refine st16 _ ?_
    show Steps p.tables e below (T16.setTop (mkF m 52 #[.val (.ref o0), .val (.int (0 : Int32)), .val (.ref o2), .val (.int (1 : Int32)), .val (.ref arr)] [])) _
    refine XS.aload X16.here hx rfl (hb hby d3826_52) rfl rfl ?_
    show Steps p.tables e below (T16.setTop (mkF m 54 #[.val (.ref o0), .val (.int (0 : Int32)), .val (.ref o2), .val (.int (1 : Int32)), .val (.ref arr)] [(.ref arr)])) _
    refine XS.iloadN X16.here hx rfl (hb hby d3826_54) rfl ?_
    show Steps p.tables e below (T16.setTop (mkF m 55 #[.val (.ref o0), .val (.int (0 : Int32)), .val (.ref o2), .val (.int (1 : Int32)), .val (.ref arr)] [(.int (0 : Int32)), (.ref arr)])) _
    refine XS.aloadN X16.here hx rfl (hb hby d3826_55) rfl rfl ?_
    show Steps p.tables e below (T16.setTop (mkF m 56 #[.val (.ref o0), .val (.int (0 : Int32)), .val (.ref o2), .val (.int (1 : Int32)), .val (.ref arr)] [(.ref o2), (.int (0 : Int32)), (.ref arr)])) _
    refine st19 _ ?_
    show Steps p.tables e below (T19.setTop (mkF m 57 #[.val (.ref o0), .val (.int (0 : Int32)), .val (.ref o2), .val (.int (1 : Int32)), .val (.ref arr)] [])) _
    refine XS.aloadN X19.here hx rfl (hb hby d3826_57) rfl rfl ?_
    show Steps p.tables e below (T19.setTop (mkF m 58 #[.val (.ref o0), .val (.int (0 : Int32)), .val (.ref o2), .val (.int (1 : Int32)), .val (.ref arr)] [(.ref o0)])) _
    refine XS.iloadN X19.here hx rfl (hb hby d3826_58) rfl ?_
    show Steps p.tables e below (T19.setTop (mkF m 59 #[.val (.ref o0), .val (.int (0 : Int32)), .val (.ref o2), .val (.int (1 : Int32)), .val (.ref arr)] [(.int (1 : Int32)), (.ref o0)])) _
    refine XS.iconst X19.here hx rfl (hb hby d3826_59) ?_
    show Steps p.tables e below (T19.setTop (mkF m 60 #[.val (.ref o0), .val (.int (0 : Int32)), .val (.ref o2), .val (.int (1 : Int32)), .val (.ref arr)] [(.int (1 : Int32)), (.int (1 : Int32)), (.ref o0)])) _
    refine XS.iadd X19.here hx rfl (hb hby d3826_60) rfl ?_
    show Steps p.tables e below (T19.setTop (mkF m 61 #[.val (.ref o0), .val (.int (0 : Int32)), .val (.ref o2), .val (.int (1 : Int32)), .val (.ref arr)] [(.int (2 : Int32)), (.ref o0)])) _
    refine st22 _ ?_
    show Steps p.tables e below (T22.setTop (mkF m 64 #[.val (.ref o0), .val (.int (0 : Int32)), .val (.ref o2), .val (.int (1 : Int32)), .val (.ref arr)] [])) _
    exact X22.returnOut hx Bd.returns (hb hby d3826_64) hr
  · show Q3826_1_0 Z o0 o2 arr ka mc x0 h0 n0 _ T22.heap _
    rw [e22]
    exact ⟨rfl, N22, J22, Fw22, c23, c24, c25⟩
theorem ef_3826_1_1 (m : MethodId) (o0 : Addr) (o2 : Addr) : entryFrame m #[(.ref o0), (.int (1 : Int32)), (.ref o2)] 5 = mkF m 0 #[.val (.ref o0), .val (.int (1 : Int32)), .val (.ref o2), .unset, .unset] [] := by first | (simp [entryFrame, mkF, argsToLocals, Value.category]; done) | rfl
def Q3826_1_1 (Z : State) (o0 : Addr) (o2 : Addr) (arr : Addr) (ka : ClassId) (mc : Int32) (x0 : Addr) (h0 : Heap) (n0 : Nat) (v : Option Value) (h : Heap) (L : List Loc) : Prop := v = none ∧ Fr n0 L ∧ Keep h0 h [o0, arr] ∧ Fld Z h o0 "java/util/ArrayList" "size" "I" (.int (2 : Int32)) ∧ Fld Z h o0 "java/util/AbstractList" "modCount" "I" (.int (mc + (1 : Int32))) ∧ Fld Z h o0 "java/util/ArrayList" "elementData" "[Ljava/lang/Object;" (.ref arr) ∧ Arv Z h arr ka (.object "java/lang/Object") (10 : Int32) [(.ref x0), (.ref o2)] .null
set_option maxRecDepth 65536 in
set_option maxHeartbeats 40000000 in
theorem rm3826_1_1 (l : Launch) (Z : State) (a0 : Array Value) (hw : ∀ d ∈ tables_1, d.before a0 Z = true) (ws : List Jvm.Cond) (o0 : Addr) (o2 : Addr) (arr : Addr) (ka : ClassId) (mc : Int32) (x0 : Addr) (h0 : Heap) (n0 : Nat) (Z0 : n0 ≤ h0.size) (E_o0 : Exa Z h0 o0 "java/util/ArrayList") (F_elementData_o0 : Fld Z h0 o0 "java/util/ArrayList" "elementData" "[Ljava/lang/Object;" (.ref arr)) (V_arr : Arv Z h0 arr ka (.object "java/lang/Object") (10 : Int32) [(.ref x0)] .null) (ovr_ka : Ovr Z ka "java/lang/Object") (F_size_o0 : Fld Z h0 o0 "java/util/ArrayList" "size" "I" (.int (1 : Int32))) (F_modCount_o0 : Fld Z h0 o0 "java/util/AbstractList" "modCount" "I" (.int mc)) (g_o0 : n0 ≤ o0) (g_arr : n0 ≤ arr) (E_o2 : Exa Z h0 o2 "com/example/tierline/tierline/csv/LineProblems$Problem") (E_x0 : Exa Z h0 x0 "com/example/tierline/tierline/csv/LineProblems$Problem") :
    MetFree l (⟨"java/util/ArrayList", "add", "(ILjava/lang/Object;)V"⟩ : MethodName) (head1 (Jvm.Cond.code (⟨"java/util/ArrayList", "add", "(ILjava/lang/Object;)V"⟩ : MethodName) jdk_38_method_26_code 5 none :: ws) ({ frames := 1, cells := 0, slots := 0, locals := 18 } : Room)) (fun a U => a = #[(.ref o0), (.int (1 : Int32)), (.ref o2)] ∧ Z.Warmed39 U.vm ∧ U.heap = h0) (fun _ _ _ _ _ => True) (fun _ U o U' => ∃ v L, o = .returned v ∧ Q3826_1_1 Z o0 o2 arr ka mc x0 h0 n0 v U'.heap L ∧ FrameEnd U o U' L ({ frames := 1, cells := 0, slots := 0, locals := 18 } : Room).cells ({ frames := 1, cells := 0, slots := 0, locals := 18 } : Room).slots) := by
  refine MetFree.of_bodySF (plainFor_of_name pn_java_util_ArrayList) hisR ?_
  intro p e s m args below meth c s₁ Bd hml0 hP hK
  obtain ⟨rfl, hZ, hh⟩ := hP
  have hx := Bd.exec
  have hby := Bd.bytes
  have hml : c.maxLocals = 5 := hml0
  have hown : s.vm.findClass "java/util/ArrayList" = some m.cls := findClass_of_methodNamed Bd.named
  have hnm := (name_of_methodNamed Bd.named Bd.method).1
  have X0 : Stand p l e ({ frames := 1, cells := 0, slots := 0, locals := 18 } : Room) s m #[(.ref o0), (.int (1 : Int32)), (.ref o2)] below meth c s₁ [] 0 0 := Stand.of_body Bd
  have e0 : s₁.heap = h0 := by rw [← hh, Bd.state]; rfl
  have N0 := Fr.nil n0
  have pre0 : ∀ t, Steps p.tables e below (s₁.setTop (mkF m 0 #[.val (.ref o0), .val (.int (1 : Int32)), .val (.ref o2), .unset, .unset] [])) t → Steps p.tables e below (s₁.setTop (entryFrame m #[(.ref o0), (.int (1 : Int32)), (.ref o2)] 5)) t := fun t k => castTop (ef_3826_1_1 m o0 o2) k
  obtain ⟨cq1, qh1, qh1'⟩ := E_o0.cell
  -- pc 2: ArrayList.rangeCheckForAdd by rm3845
  obtain ⟨_, _, ⟨T1, L1, k1, n1⟩, -, X1, ⟨Lc1, hQ1, l1, y1, z1'⟩, st1⟩ := X0.privateBack hx (y := (⟨"java/util/ArrayList", "rangeCheckForAdd", "(I)V"⟩ : MethodName)) hown (mvT hZ (hw _ (List.mem_of_getElem? (i := 116) rfl))) (mvT hZ (hw _ (List.mem_of_getElem? (i := 117) rfl))) (own_selP hZ (hw _ (List.mem_of_getElem? (i := 18) rfl)) (hw _ (List.mem_of_getElem? (i := 118) rfl)) (hw _ (List.mem_of_getElem? (i := 117) rfl)) (by decide)) (Cond.privateMethod_at (mvP hZ (hw _ (List.mem_of_getElem? (i := 118) rfl)) (args := #[]))) (mvT hZ (hw _ (List.mem_of_getElem? (i := 120) rfl))) (by decide) (backOf (W := 0) (rm3845 l Z a0 hw [] o0 (1 : Int32) (1 : Int32) h0 n0 Z0 F_size_o0 (by decide) (by decide)) hZ (hw _ (List.mem_of_getElem? (i := 120) rfl)) (hw _ (List.mem_of_getElem? (i := 19) rfl)) (by decide) (by decide)) (g := (mkF m 2 #[.val (.ref o0), .val (.int (1 : Int32)), .val (.ref o2), .unset, .unset] [(.int (1 : Int32)), (.ref o0)])) rfl (by rw [hml]; rfl) (Steps.refl _) (a := o0) (by rw [e0]; exact qh1) qh1' (argsL := [(.int (1 : Int32))]) (rest := []) (lenOf pd_6 rfl) rfl (by show 2 * 0 + _ ≤ _; exact Nat.le_of_eq rfl) (hb hby d3826_2) (fun _ _ => ⟨rfl, e0, (by decide : 0 + 0 ≤ _), (by decide : 0 + 0 ≤ _)⟩)
  dsimp only [Pt.U, Pt.locs, Pt.cells, Pt.slots] at X1 l1 y1 z1' st1 hQ1
  subst l1 y1 z1'
  obtain ⟨rfl, N1q, K1⟩ := hQ1
  have N1 := Fr.app N0 N1q
  have J1 : Keep h0 T1.heap [o0, arr] := (Keep.refl h0 [o0, arr]).trans K1 all0
  have c2 : Fld Z T1.heap o0 "java/util/AbstractList" "modCount" "I" (.int mc) := (F_modCount_o0.keep K1 nin0)
  obtain ⟨T3, X3, e3, st3⟩ := getF X1 hx hZ hown (host := "") (Or.inl (hw _ (List.mem_of_getElem? (i := 121) rfl))) (Via.of (hw _ (List.mem_of_getElem? (i := 122) rfl))) rfl c2 (g := (mkF m 7 #[.val (.ref o0), .val (.int (1 : Int32)), .val (.ref o2), .unset, .unset] [(.ref o0), (.ref o0)])) rfl rfl (hb hby d3826_7)
  have c4 : Exa Z T1.heap o0 "java/util/ArrayList" := (E_o0.keep K1)
  have c5 : Arv Z T1.heap arr ka (.object "java/lang/Object") (10 : Int32) [(.ref x0)] .null := (V_arr.keep K1 nin0)
  have ne6 : arr ≠ o0 := (Ne.symm (Exa.neArv c4 c5 (hw _ (List.mem_of_getElem? (i := 18) rfl))))
  obtain ⟨T7, h7, X7, e7, W7, st7⟩ := putF X3 hx hZ hown (host := "") (Or.inl (hw _ (List.mem_of_getElem? (i := 121) rfl))) (Via.of (hw _ (List.mem_of_getElem? (i := 122) rfl))) e3 c2 c4 (Or.inl (hw _ (List.mem_of_getElem? (i := 37) rfl))) (hw _ (List.mem_of_getElem? (i := 18) rfl)) (ty := .int) (by decide) rfl rfl (g := (mkF m 12 #[.val (.ref o0), .val (.int (1 : Int32)), .val (.ref o2), .unset, .unset] [(.int (mc + (1 : Int32))), (.ref o0)])) rfl rfl (hb hby d3826_12)
  have Fw7 : Fld Z h7 o0 "java/util/AbstractList" "modCount" "I" (.int (mc + (1 : Int32))) := c2.same W7
  have J7 : Keep h0 h7 [o0, arr] := J1.wr W7 (Or.inl (List.mem_of_getElem? (i := 0) rfl))
  have N7 := Fr.snoc X7 N1 g_o0
  have c8 : Fld Z h7 o0 "java/util/ArrayList" "size" "I" (.int (1 : Int32)) := ((F_size_o0.keep K1 nin0).other W7 (Or.inr (slot_ne (Or.inl (hw _ (List.mem_of_getElem? (i := 107) rfl))) (Or.inl (hw _ (List.mem_of_getElem? (i := 37) rfl))) (by decide) (t := .int) (t' := .int) (by decide) (by decide))))
  obtain ⟨T9, X9, e9, st9⟩ := getF X7 hx hZ hown (host := "") (Or.inl (hw _ (List.mem_of_getElem? (i := 106) rfl))) Via.refl e7 c8 (g := (mkF m 16 #[.val (.ref o0), .val (.int (1 : Int32)), .val (.ref o2), .unset, .unset] [(.ref o0)])) rfl rfl (hb hby d3826_16)
  have c10 : Fld Z h7 o0 "java/util/ArrayList" "elementData" "[Ljava/lang/Object;" (.ref arr) := ((F_elementData_o0.keep K1 nin0).other W7 (Or.inr (slot_ne (Or.inl (hw _ (List.mem_of_getElem? (i := 40) rfl))) (Or.inl (hw _ (List.mem_of_getElem? (i := 37) rfl))) (by decide) (t := (.array (.object "java/lang/Object"))) (t' := .int) (by decide) (by decide))))
  obtain ⟨T11, X11, e11, st11⟩ := getF X9 hx hZ hown (host := "") (Or.inl (hw _ (List.mem_of_getElem? (i := 39) rfl))) Via.refl e9 c10 (g := (mkF m 22 #[.val (.ref o0), .val (.int (1 : Int32)), .val (.ref o2), .val (.int (1 : Int32)), .unset] [(.ref o0), (.int (1 : Int32))])) rfl rfl (hb hby d3826_22)
  have c12 : Arv Z h7 arr ka (.object "java/lang/Object") (10 : Int32) [(.ref x0)] .null := (c5.other W7 ne6)
  obtain ⟨cl13, Ar13, -, Sz13, Nn13, -, -⟩ := id c12
  obtain ⟨cq14, Aq14, qq14, -⟩ := id c12
  obtain ⟨T15, h15, L15, X15, e15, N15, K15, Vc15, st15⟩ := cpA X11 hx hZ hown (hw _ (List.mem_of_getElem? (i := 139) rfl)) (hw _ (List.mem_of_getElem? (i := 142) rfl)) (hw _ (List.mem_of_getElem? (i := 140) rfl)) (hw _ (List.mem_of_getElem? (i := 141) rfl)) e11 c12 (c12.pad (pad_rep [(.ref x0)] .null 1)) (Or.inr ⟨rfl, rfl, trivial⟩) (by decide) (by decide) (by decide) (by decide) (by decide) (us := []) rfl (Nat.le_of_ble_eq_true rfl) N7 g_arr (g := (mkF m 49 #[.val (.ref o0), .val (.int (1 : Int32)), .val (.ref o2), .val (.int (1 : Int32)), .val (.ref arr)] [(.int (0 : Int32)), (.int (2 : Int32)), (.ref arr), (.int (1 : Int32)), (.ref arr)])) rfl (by rw [hml]; rfl) (rest := []) rfl (hb hby d3826_49) (by decide) (W := 0) (by show 2 * 0 + _ ≤ _; exact Nat.le_of_eq rfl) (by decide)
  have J15 : Keep h0 h15 [o0, arr] := J7.trans K15 (allS (Or.inl (List.mem_of_getElem? (i := 1) rfl)) all0)
  have V15 : Arv Z h15 arr ka (.object "java/lang/Object") (10 : Int32) [(.ref x0), .null] .null := Vc15
  have c16 : Exa Z h15 o2 "com/example/tierline/tierline/csv/LineProblems$Problem" := (((E_o2.keep K1).wr W7).keep K15)
  obtain ⟨cl17, Ar17, qk17, Sz17, Nn17, Hs17, Gs17⟩ := id V15
  have hin17 : ¬ ((1 : Int32) < 0 ∨ cl17.slots.size ≤ ((1 : Int32)).toNatClampNeg) := inb_of Sz17 ⟨by decide, by decide⟩
  obtain ⟨T18, h18, X18, e18, W18, st18⟩ := stR X15 hx hZ e15 Ar17 (j := (1 : Int32)) hin17 rfl (Sto.ofV Ar17 qk17 ovr_ka (Ins.of_exa c16 (hw _ (List.mem_of_getElem? (i := 143) rfl)))) (g := (mkF m 56 #[.val (.ref o0), .val (.int (1 : Int32)), .val (.ref o2), .val (.int (1 : Int32)), .val (.ref arr)] [(.ref o2), (.int (1 : Int32)), (.ref arr)])) rfl rfl (hb hby d3826_56)
  have V18 : Arv Z h18 arr ka (.object "java/lang/Object") (10 : Int32) [(.ref x0), (.ref o2)] .null := Arv.set Ar17 qk17 Sz17 Nn17 Hs17 Gs17 rfl W18 1 rfl (Nat.le_of_ble_eq_true rfl)
  have J18 : Keep h0 h18 [o0, arr] := J15.wr W18 (Or.inl (List.mem_of_getElem? (i := 1) rfl))
  have N18 := Fr.snoc X18 N15 g_arr
  have c19 : Fld Z h18 o0 "java/util/ArrayList" "size" "I" (.int (1 : Int32)) := ((c8.keep K15 (ninS (Ne.symm ne6) nin0)).other W18 (Or.inl (Ne.symm ne6)))
  have c20 : Exa Z h18 o0 "java/util/ArrayList" := (((c4.wr W7).keep K15).wr W18)
  obtain ⟨T21, h21, X21, e21, W21, st21⟩ := putF X18 hx hZ hown (host := "") (Or.inl (hw _ (List.mem_of_getElem? (i := 106) rfl))) Via.refl e18 c19 c20 (Or.inl (hw _ (List.mem_of_getElem? (i := 107) rfl))) (hw _ (List.mem_of_getElem? (i := 18) rfl)) (ty := .int) (by decide) rfl rfl (g := (mkF m 61 #[.val (.ref o0), .val (.int (1 : Int32)), .val (.ref o2), .val (.int (1 : Int32)), .val (.ref arr)] [(.int (2 : Int32)), (.ref o0)])) rfl rfl (hb hby d3826_61)
  have Fw21 : Fld Z h21 o0 "java/util/ArrayList" "size" "I" (.int (2 : Int32)) := c19.same W21
  have J21 : Keep h0 h21 [o0, arr] := J18.wr W21 (Or.inl (List.mem_of_getElem? (i := 0) rfl))
  have N21 := Fr.snoc X21 N18 g_o0
  have c22 : Fld Z h21 o0 "java/util/AbstractList" "modCount" "I" (.int (mc + (1 : Int32))) := (((Fw7.keep K15 (ninS (Ne.symm ne6) nin0)).other W18 (Or.inl (Ne.symm ne6))).other W21 (Or.inr (slot_ne (Or.inl (hw _ (List.mem_of_getElem? (i := 37) rfl))) (Or.inl (hw _ (List.mem_of_getElem? (i := 107) rfl))) (by decide) (t := .int) (t' := .int) (by decide) (by decide))))
  have c23 : Fld Z h21 o0 "java/util/ArrayList" "elementData" "[Ljava/lang/Object;" (.ref arr) := (((c10.keep K15 (ninS (Ne.symm ne6) nin0)).other W18 (Or.inl (Ne.symm ne6))).other W21 (Or.inr (slot_ne (Or.inl (hw _ (List.mem_of_getElem? (i := 40) rfl))) (Or.inl (hw _ (List.mem_of_getElem? (i := 107) rfl))) (by decide) (t := (.array (.object "java/lang/Object"))) (t' := .int) (by decide) (by decide))))
  have c24 : Arv Z h21 arr ka (.object "java/lang/Object") (10 : Int32) [(.ref x0), (.ref o2)] .null := (V18.other W21 ne6)
  obtain ⟨fs, hr, hrun, hended, hW, hsame⟩ := X21.leave (v := none) (fun _ => rfl)
  refine ⟨_, _, pre0 _ ?_, hrun, hended, _, _, rfl, ?_, ⟨_, rfl⟩, hW, hsame.mono (by decide) (by decide)⟩
  · show Steps p.tables e below (s₁.setTop (mkF m 0 #[.val (.ref o0), .val (.int (1 : Int32)), .val (.ref o2), .unset, .unset] [])) _
    refine XS.aloadN X0.here hx rfl (hb hby d3826_0) rfl rfl ?_
    show Steps p.tables e below (s₁.setTop (mkF m 1 #[.val (.ref o0), .val (.int (1 : Int32)), .val (.ref o2), .unset, .unset] [(.ref o0)])) _
    refine XS.iloadN X0.here hx rfl (hb hby d3826_1) rfl ?_
    show Steps p.tables e below (s₁.setTop (mkF m 2 #[.val (.ref o0), .val (.int (1 : Int32)), .val (.ref o2), .unset, .unset] [(.int (1 : Int32)), (.ref o0)])) _
    refine st1.trans ?_
    show Steps p.tables e below (T1.setTop (mkF m 5 #[.val (.ref o0), .val (.int (1 : Int32)), .val (.ref o2), .unset, .unset] [])) _
    refine XS.aloadN X1.here hx rfl (hb hby d3826_5) rfl rfl ?_
    show Steps p.tables e below (T1.setTop (mkF m 6 #[.val (.ref o0), .val (.int (1 : Int32)), .val (.ref o2), .unset, .unset] [(.ref o0)])) _
    refine XS.dup X1.here hx rfl (hb hby d3826_6) rfl rfl ?_
    show Steps p.tables e below (T1.setTop (mkF m 7 #[.val (.ref o0), .val (.int (1 : Int32)), .val (.ref o2), .unset, .unset] [(.ref o0), (.ref o0)])) _
    refine st3 _ ?_
    show Steps p.tables e below (T3.setTop (mkF m 10 #[.val (.ref o0), .val (.int (1 : Int32)), .val (.ref o2), .unset, .unset] [(.int mc), (.ref o0)])) _
    refine XS.iconst X3.here hx rfl (hb hby d3826_10) ?_
    show Steps p.tables e below (T3.setTop (mkF m 11 #[.val (.ref o0), .val (.int (1 : Int32)), .val (.ref o2), .unset, .unset] [(.int (1 : Int32)), (.int mc), (.ref o0)])) _
    refine XS.iadd X3.here hx rfl (hb hby d3826_11) rfl ?_
    show Steps p.tables e below (T3.setTop (mkF m 12 #[.val (.ref o0), .val (.int (1 : Int32)), .val (.ref o2), .unset, .unset] [(.int (mc + (1 : Int32))), (.ref o0)])) _
    refine st7 _ ?_
    show Steps p.tables e below (T7.setTop (mkF m 15 #[.val (.ref o0), .val (.int (1 : Int32)), .val (.ref o2), .unset, .unset] [])) _
    refine XS.aloadN X7.here hx rfl (hb hby d3826_15) rfl rfl ?_
    show Steps p.tables e below (T7.setTop (mkF m 16 #[.val (.ref o0), .val (.int (1 : Int32)), .val (.ref o2), .unset, .unset] [(.ref o0)])) _
    refine st9 _ ?_
    show Steps p.tables e below (T9.setTop (mkF m 19 #[.val (.ref o0), .val (.int (1 : Int32)), .val (.ref o2), .unset, .unset] [(.int (1 : Int32))])) _
    refine XS.dup X9.here hx rfl (hb hby d3826_19) rfl rfl ?_
    show Steps p.tables e below (T9.setTop (mkF m 20 #[.val (.ref o0), .val (.int (1 : Int32)), .val (.ref o2), .unset, .unset] [(.int (1 : Int32)), (.int (1 : Int32))])) _
    refine XS.istoreN X9.here hx rfl (hb hby d3826_20) rfl (l' := #[.val (.ref o0), .val (.int (1 : Int32)), .val (.ref o2), .val (.int (1 : Int32)), .unset]) rfl ?_
    show Steps p.tables e below (T9.setTop (mkF m 21 #[.val (.ref o0), .val (.int (1 : Int32)), .val (.ref o2), .val (.int (1 : Int32)), .unset] [(.int (1 : Int32))])) _
    refine XS.aloadN X9.here hx rfl (hb hby d3826_21) rfl rfl ?_
    show Steps p.tables e below (T9.setTop (mkF m 22 #[.val (.ref o0), .val (.int (1 : Int32)), .val (.ref o2), .val (.int (1 : Int32)), .unset] [(.ref o0), (.int (1 : Int32))])) _
    refine st11 _ ?_
    show Steps p.tables e below (T11.setTop (mkF m 25 #[.val (.ref o0), .val (.int (1 : Int32)), .val (.ref o2), .val (.int (1 : Int32)), .unset] [(.ref arr), (.int (1 : Int32))])) _
    refine XS.dup X11.here hx rfl (hb hby d3826_25) rfl rfl ?_
    show Steps p.tables e below (T11.setTop (mkF m 26 #[.val (.ref o0), .val (.int (1 : Int32)), .val (.ref o2), .val (.int (1 : Int32)), .unset] [(.ref arr), (.ref arr), (.int (1 : Int32))])) _
    refine XS.astore X11.here hx rfl (hb hby d3826_26) rfl rfl (l' := #[.val (.ref o0), .val (.int (1 : Int32)), .val (.ref o2), .val (.int (1 : Int32)), .val (.ref arr)]) rfl ?_
    show Steps p.tables e below (T11.setTop (mkF m 28 #[.val (.ref o0), .val (.int (1 : Int32)), .val (.ref o2), .val (.int (1 : Int32)), .val (.ref arr)] [(.ref arr), (.int (1 : Int32))])) _
    refine X11.arraylength hx (by rw [e11]; exact Ar13.1) (State.isArrayOf_alike hZ.alike Ar13.2.1) (g := (mkF m 28 #[.val (.ref o0), .val (.int (1 : Int32)), .val (.ref o2), .val (.int (1 : Int32)), .val (.ref arr)] [(.ref arr), (.int (1 : Int32))])) rfl rfl (hb hby d3826_28) _ ?_
    rw [len_of Sz13 Nn13]
    show Steps p.tables e below (T11.setTop (mkF m 29 #[.val (.ref o0), .val (.int (1 : Int32)), .val (.ref o2), .val (.int (1 : Int32)), .val (.ref arr)] [(.int (10 : Int32)), (.int (1 : Int32))])) _
    refine XS.icmpYes X11.here hx rfl (pc0 := 29) (pc' := 38) rfl (hb hby d3826_29) rfl (feq (by decide)).2 (by decide) (by decide) ?_
    show Steps p.tables e below (T11.setTop (mkF m 38 #[.val (.ref o0), .val (.int (1 : Int32)), .val (.ref o2), .val (.int (1 : Int32)), .val (.ref arr)] [])) _
    refine XS.aload X11.here hx rfl (hb hby d3826_38) rfl rfl ?_
    show Steps p.tables e below (T11.setTop (mkF m 40 #[.val (.ref o0), .val (.int (1 : Int32)), .val (.ref o2), .val (.int (1 : Int32)), .val (.ref arr)] [(.ref arr)])) _
    refine XS.iloadN X11.here hx rfl (hb hby d3826_40) rfl ?_
    show Steps p.tables e below (T11.setTop (mkF m 41 #[.val (.ref o0), .val (.int (1 : Int32)), .val (.ref o2), .val (.int (1 : Int32)), .val (.ref arr)] [(.int (1 : Int32)), (.ref arr)])) _
    refine XS.aload X11.here hx rfl (hb hby d3826_41) rfl rfl ?_
    show Steps p.tables e below (T11.setTop (mkF m 43 #[.val (.ref o0), .val (.int (1 : Int32)), .val (.ref o2), .val (.int (1 : Int32)), .val (.ref arr)] [(.ref arr), (.int (1 : Int32)), (.ref arr)])) _
    refine XS.iloadN X11.here hx rfl (hb hby d3826_43) rfl ?_
    show Steps p.tables e below (T11.setTop (mkF m 44 #[.val (.ref o0), .val (.int (1 : Int32)), .val (.ref o2), .val (.int (1 : Int32)), .val (.ref arr)] [(.int (1 : Int32)), (.ref arr), (.int (1 : Int32)), (.ref arr)])) _
    refine XS.iconst X11.here hx rfl (hb hby d3826_44) ?_
    show Steps p.tables e below (T11.setTop (mkF m 45 #[.val (.ref o0), .val (.int (1 : Int32)), .val (.ref o2), .val (.int (1 : Int32)), .val (.ref arr)] [(.int (1 : Int32)), (.int (1 : Int32)), (.ref arr), (.int (1 : Int32)), (.ref arr)])) _
    refine XS.iadd X11.here hx rfl (hb hby d3826_45) rfl ?_
    show Steps p.tables e below (T11.setTop (mkF m 46 #[.val (.ref o0), .val (.int (1 : Int32)), .val (.ref o2), .val (.int (1 : Int32)), .val (.ref arr)] [(.int (2 : Int32)), (.ref arr), (.int (1 : Int32)), (.ref arr)])) _
    refine XS.iloadN X11.here hx rfl (hb hby d3826_46) rfl ?_
    show Steps p.tables e below (T11.setTop (mkF m 47 #[.val (.ref o0), .val (.int (1 : Int32)), .val (.ref o2), .val (.int (1 : Int32)), .val (.ref arr)] [(.int (1 : Int32)), (.int (2 : Int32)), (.ref arr), (.int (1 : Int32)), (.ref arr)])) _
    refine XS.iloadN X11.here hx rfl (hb hby d3826_47) rfl ?_
    show Steps p.tables e below (T11.setTop (mkF m 48 #[.val (.ref o0), .val (.int (1 : Int32)), .val (.ref o2), .val (.int (1 : Int32)), .val (.ref arr)] [(.int (1 : Int32)), (.int (1 : Int32)), (.int (2 : Int32)), (.ref arr), (.int (1 : Int32)), (.ref arr)])) _
    refine XS.isub X11.here hx rfl (hb hby d3826_48) rfl ?_
    show Steps p.tables e below (T11.setTop (mkF m 49 #[.val (.ref o0), .val (.int (1 : Int32)), .val (.ref o2), .val (.int (1 : Int32)), .val (.ref arr)] [(.int (0 : Int32)), (.int (2 : Int32)), (.ref arr), (.int (1 : Int32)), (.ref arr)])) _
    refine st15 _ ?_
    show Steps p.tables e below (T15.setTop (mkF m 52 #[.val (.ref o0), .val (.int (1 : Int32)), .val (.ref o2), .val (.int (1 : Int32)), .val (.ref arr)] [])) _
    refine XS.aload X15.here hx rfl (hb hby d3826_52) rfl rfl ?_
    show Steps p.tables e below (T15.setTop (mkF m 54 #[.val (.ref o0), .val (.int (1 : Int32)), .val (.ref o2), .val (.int (1 : Int32)), .val (.ref arr)] [(.ref arr)])) _
    refine XS.iloadN X15.here hx rfl (hb hby d3826_54) rfl ?_
    show Steps p.tables e below (T15.setTop (mkF m 55 #[.val (.ref o0), .val (.int (1 : Int32)), .val (.ref o2), .val (.int (1 : Int32)), .val (.ref arr)] [(.int (1 : Int32)), (.ref arr)])) _
    refine XS.aloadN X15.here hx rfl (hb hby d3826_55) rfl rfl ?_
    show Steps p.tables e below (T15.setTop (mkF m 56 #[.val (.ref o0), .val (.int (1 : Int32)), .val (.ref o2), .val (.int (1 : Int32)), .val (.ref arr)] [(.ref o2), (.int (1 : Int32)), (.ref arr)])) _
    refine st18 _ ?_
    show Steps p.tables e below (T18.setTop (mkF m 57 #[.val (.ref o0), .val (.int (1 : Int32)), .val (.ref o2), .val (.int (1 : Int32)), .val (.ref arr)] [])) _
    refine XS.aloadN X18.here hx rfl (hb hby d3826_57) rfl rfl ?_
    show Steps p.tables e below (T18.setTop (mkF m 58 #[.val (.ref o0), .val (.int (1 : Int32)), .val (.ref o2), .val (.int (1 : Int32)), .val (.ref arr)] [(.ref o0)])) _
    refine XS.iloadN X18.here hx rfl (hb hby d3826_58) rfl ?_
    show Steps p.tables e below (T18.setTop (mkF m 59 #[.val (.ref o0), .val (.int (1 : Int32)), .val (.ref o2), .val (.int (1 : Int32)), .val (.ref arr)] [(.int (1 : Int32)), (.ref o0)])) _
    refine XS.iconst X18.here hx rfl (hb hby d3826_59) ?_
    show Steps p.tables e below (T18.setTop (mkF m 60 #[.val (.ref o0), .val (.int (1 : Int32)), .val (.ref o2), .val (.int (1 : Int32)), .val (.ref arr)] [(.int (1 : Int32)), (.int (1 : Int32)), (.ref o0)])) _
    refine XS.iadd X18.here hx rfl (hb hby d3826_60) rfl ?_
    show Steps p.tables e below (T18.setTop (mkF m 61 #[.val (.ref o0), .val (.int (1 : Int32)), .val (.ref o2), .val (.int (1 : Int32)), .val (.ref arr)] [(.int (2 : Int32)), (.ref o0)])) _
    refine st21 _ ?_
    show Steps p.tables e below (T21.setTop (mkF m 64 #[.val (.ref o0), .val (.int (1 : Int32)), .val (.ref o2), .val (.int (1 : Int32)), .val (.ref arr)] [])) _
    exact X21.returnOut hx Bd.returns (hb hby d3826_64) hr
  · show Q3826_1_1 Z o0 o2 arr ka mc x0 h0 n0 _ T21.heap _
    rw [e21]
    exact ⟨rfl, N21, J21, Fw21, c22, c23, c24⟩
theorem ef_3826_2_0 (m : MethodId) (o0 : Addr) (o2 : Addr) : entryFrame m #[(.ref o0), (.int (0 : Int32)), (.ref o2)] 5 = mkF m 0 #[.val (.ref o0), .val (.int (0 : Int32)), .val (.ref o2), .unset, .unset] [] := by first | (simp [entryFrame, mkF, argsToLocals, Value.category]; done) | rfl
def Q3826_2_0 (Z : State) (o0 : Addr) (o2 : Addr) (arr : Addr) (ka : ClassId) (mc : Int32) (x0 : Addr) (x1 : Addr) (h0 : Heap) (n0 : Nat) (v : Option Value) (h : Heap) (L : List Loc) : Prop := v = none ∧ Fr n0 L ∧ Keep h0 h [o0, arr] ∧ Fld Z h o0 "java/util/ArrayList" "size" "I" (.int (3 : Int32)) ∧ Fld Z h o0 "java/util/AbstractList" "modCount" "I" (.int (mc + (1 : Int32))) ∧ Fld Z h o0 "java/util/ArrayList" "elementData" "[Ljava/lang/Object;" (.ref arr) ∧ Arv Z h arr ka (.object "java/lang/Object") (10 : Int32) [(.ref o2), (.ref x0), (.ref x1)] .null
set_option maxRecDepth 65536 in
set_option maxHeartbeats 40000000 in
theorem rm3826_2_0 (l : Launch) (Z : State) (a0 : Array Value) (hw : ∀ d ∈ tables_1, d.before a0 Z = true) (ws : List Jvm.Cond) (o0 : Addr) (o2 : Addr) (arr : Addr) (ka : ClassId) (mc : Int32) (x0 : Addr) (x1 : Addr) (h0 : Heap) (n0 : Nat) (Z0 : n0 ≤ h0.size) (E_o0 : Exa Z h0 o0 "java/util/ArrayList") (F_elementData_o0 : Fld Z h0 o0 "java/util/ArrayList" "elementData" "[Ljava/lang/Object;" (.ref arr)) (V_arr : Arv Z h0 arr ka (.object "java/lang/Object") (10 : Int32) [(.ref x0), (.ref x1)] .null) (ovr_ka : Ovr Z ka "java/lang/Object") (F_size_o0 : Fld Z h0 o0 "java/util/ArrayList" "size" "I" (.int (2 : Int32))) (F_modCount_o0 : Fld Z h0 o0 "java/util/AbstractList" "modCount" "I" (.int mc)) (g_o0 : n0 ≤ o0) (g_arr : n0 ≤ arr) (E_o2 : Exa Z h0 o2 "com/example/tierline/tierline/csv/LineProblems$Problem") (E_x0 : Exa Z h0 x0 "com/example/tierline/tierline/csv/LineProblems$Problem") (E_x1 : Exa Z h0 x1 "com/example/tierline/tierline/csv/LineProblems$Problem") :
    MetFree l (⟨"java/util/ArrayList", "add", "(ILjava/lang/Object;)V"⟩ : MethodName) (head1 (Jvm.Cond.code (⟨"java/util/ArrayList", "add", "(ILjava/lang/Object;)V"⟩ : MethodName) jdk_38_method_26_code 5 none :: ws) ({ frames := 1, cells := 0, slots := 0, locals := 18 } : Room)) (fun a U => a = #[(.ref o0), (.int (0 : Int32)), (.ref o2)] ∧ Z.Warmed39 U.vm ∧ U.heap = h0) (fun _ _ _ _ _ => True) (fun _ U o U' => ∃ v L, o = .returned v ∧ Q3826_2_0 Z o0 o2 arr ka mc x0 x1 h0 n0 v U'.heap L ∧ FrameEnd U o U' L ({ frames := 1, cells := 0, slots := 0, locals := 18 } : Room).cells ({ frames := 1, cells := 0, slots := 0, locals := 18 } : Room).slots) := by
  refine MetFree.of_bodySF (plainFor_of_name pn_java_util_ArrayList) hisR ?_
  intro p e s m args below meth c s₁ Bd hml0 hP hK
  obtain ⟨rfl, hZ, hh⟩ := hP
  have hx := Bd.exec
  have hby := Bd.bytes
  have hml : c.maxLocals = 5 := hml0
  have hown : s.vm.findClass "java/util/ArrayList" = some m.cls := findClass_of_methodNamed Bd.named
  have hnm := (name_of_methodNamed Bd.named Bd.method).1
  have X0 : Stand p l e ({ frames := 1, cells := 0, slots := 0, locals := 18 } : Room) s m #[(.ref o0), (.int (0 : Int32)), (.ref o2)] below meth c s₁ [] 0 0 := Stand.of_body Bd
  have e0 : s₁.heap = h0 := by rw [← hh, Bd.state]; rfl
  have N0 := Fr.nil n0
  have pre0 : ∀ t, Steps p.tables e below (s₁.setTop (mkF m 0 #[.val (.ref o0), .val (.int (0 : Int32)), .val (.ref o2), .unset, .unset] [])) t → Steps p.tables e below (s₁.setTop (entryFrame m #[(.ref o0), (.int (0 : Int32)), (.ref o2)] 5)) t := fun t k => castTop (ef_3826_2_0 m o0 o2) k
  obtain ⟨cq1, qh1, qh1'⟩ := E_o0.cell
  -- pc 2: ArrayList.rangeCheckForAdd by rm3845
  obtain ⟨_, _, ⟨T1, L1, k1, n1⟩, -, X1, ⟨Lc1, hQ1, l1, y1, z1'⟩, st1⟩ := X0.privateBack hx (y := (⟨"java/util/ArrayList", "rangeCheckForAdd", "(I)V"⟩ : MethodName)) hown (mvT hZ (hw _ (List.mem_of_getElem? (i := 116) rfl))) (mvT hZ (hw _ (List.mem_of_getElem? (i := 117) rfl))) (own_selP hZ (hw _ (List.mem_of_getElem? (i := 18) rfl)) (hw _ (List.mem_of_getElem? (i := 118) rfl)) (hw _ (List.mem_of_getElem? (i := 117) rfl)) (by decide)) (Cond.privateMethod_at (mvP hZ (hw _ (List.mem_of_getElem? (i := 118) rfl)) (args := #[]))) (mvT hZ (hw _ (List.mem_of_getElem? (i := 120) rfl))) (by decide) (backOf (W := 0) (rm3845 l Z a0 hw [] o0 (0 : Int32) (2 : Int32) h0 n0 Z0 F_size_o0 (by decide) (by decide)) hZ (hw _ (List.mem_of_getElem? (i := 120) rfl)) (hw _ (List.mem_of_getElem? (i := 19) rfl)) (by decide) (by decide)) (g := (mkF m 2 #[.val (.ref o0), .val (.int (0 : Int32)), .val (.ref o2), .unset, .unset] [(.int (0 : Int32)), (.ref o0)])) rfl (by rw [hml]; rfl) (Steps.refl _) (a := o0) (by rw [e0]; exact qh1) qh1' (argsL := [(.int (0 : Int32))]) (rest := []) (lenOf pd_6 rfl) rfl (by show 2 * 0 + _ ≤ _; exact Nat.le_of_eq rfl) (hb hby d3826_2) (fun _ _ => ⟨rfl, e0, (by decide : 0 + 0 ≤ _), (by decide : 0 + 0 ≤ _)⟩)
  dsimp only [Pt.U, Pt.locs, Pt.cells, Pt.slots] at X1 l1 y1 z1' st1 hQ1
  subst l1 y1 z1'
  obtain ⟨rfl, N1q, K1⟩ := hQ1
  have N1 := Fr.app N0 N1q
  have J1 : Keep h0 T1.heap [o0, arr] := (Keep.refl h0 [o0, arr]).trans K1 all0
  have c2 : Fld Z T1.heap o0 "java/util/AbstractList" "modCount" "I" (.int mc) := (F_modCount_o0.keep K1 nin0)
  obtain ⟨T3, X3, e3, st3⟩ := getF X1 hx hZ hown (host := "") (Or.inl (hw _ (List.mem_of_getElem? (i := 121) rfl))) (Via.of (hw _ (List.mem_of_getElem? (i := 122) rfl))) rfl c2 (g := (mkF m 7 #[.val (.ref o0), .val (.int (0 : Int32)), .val (.ref o2), .unset, .unset] [(.ref o0), (.ref o0)])) rfl rfl (hb hby d3826_7)
  have c4 : Exa Z T1.heap o0 "java/util/ArrayList" := (E_o0.keep K1)
  have c5 : Arv Z T1.heap arr ka (.object "java/lang/Object") (10 : Int32) [(.ref x0), (.ref x1)] .null := (V_arr.keep K1 nin0)
  have ne6 : arr ≠ o0 := (Ne.symm (Exa.neArv c4 c5 (hw _ (List.mem_of_getElem? (i := 18) rfl))))
  obtain ⟨T7, h7, X7, e7, W7, st7⟩ := putF X3 hx hZ hown (host := "") (Or.inl (hw _ (List.mem_of_getElem? (i := 121) rfl))) (Via.of (hw _ (List.mem_of_getElem? (i := 122) rfl))) e3 c2 c4 (Or.inl (hw _ (List.mem_of_getElem? (i := 37) rfl))) (hw _ (List.mem_of_getElem? (i := 18) rfl)) (ty := .int) (by decide) rfl rfl (g := (mkF m 12 #[.val (.ref o0), .val (.int (0 : Int32)), .val (.ref o2), .unset, .unset] [(.int (mc + (1 : Int32))), (.ref o0)])) rfl rfl (hb hby d3826_12)
  have Fw7 : Fld Z h7 o0 "java/util/AbstractList" "modCount" "I" (.int (mc + (1 : Int32))) := c2.same W7
  have J7 : Keep h0 h7 [o0, arr] := J1.wr W7 (Or.inl (List.mem_of_getElem? (i := 0) rfl))
  have N7 := Fr.snoc X7 N1 g_o0
  have c8 : Fld Z h7 o0 "java/util/ArrayList" "size" "I" (.int (2 : Int32)) := ((F_size_o0.keep K1 nin0).other W7 (Or.inr (slot_ne (Or.inl (hw _ (List.mem_of_getElem? (i := 107) rfl))) (Or.inl (hw _ (List.mem_of_getElem? (i := 37) rfl))) (by decide) (t := .int) (t' := .int) (by decide) (by decide))))
  obtain ⟨T9, X9, e9, st9⟩ := getF X7 hx hZ hown (host := "") (Or.inl (hw _ (List.mem_of_getElem? (i := 106) rfl))) Via.refl e7 c8 (g := (mkF m 16 #[.val (.ref o0), .val (.int (0 : Int32)), .val (.ref o2), .unset, .unset] [(.ref o0)])) rfl rfl (hb hby d3826_16)
  have c10 : Fld Z h7 o0 "java/util/ArrayList" "elementData" "[Ljava/lang/Object;" (.ref arr) := ((F_elementData_o0.keep K1 nin0).other W7 (Or.inr (slot_ne (Or.inl (hw _ (List.mem_of_getElem? (i := 40) rfl))) (Or.inl (hw _ (List.mem_of_getElem? (i := 37) rfl))) (by decide) (t := (.array (.object "java/lang/Object"))) (t' := .int) (by decide) (by decide))))
  obtain ⟨T11, X11, e11, st11⟩ := getF X9 hx hZ hown (host := "") (Or.inl (hw _ (List.mem_of_getElem? (i := 39) rfl))) Via.refl e9 c10 (g := (mkF m 22 #[.val (.ref o0), .val (.int (0 : Int32)), .val (.ref o2), .val (.int (2 : Int32)), .unset] [(.ref o0), (.int (2 : Int32))])) rfl rfl (hb hby d3826_22)
  have c12 : Arv Z h7 arr ka (.object "java/lang/Object") (10 : Int32) [(.ref x0), (.ref x1)] .null := (c5.other W7 ne6)
  obtain ⟨cl13, Ar13, -, Sz13, Nn13, -, -⟩ := id c12
  obtain ⟨cq14, Aq14, qq14, -⟩ := id c12
  have c15 : Exa Z h7 x1 "com/example/tierline/tierline/csv/LineProblems$Problem" := ((E_x1.keep K1).wr W7)
  have c16 : Exa Z h7 x0 "com/example/tierline/tierline/csv/LineProblems$Problem" := ((E_x0.keep K1).wr W7)
  obtain ⟨T17, h17, L17, X17, e17, N17, K17, Vc17, st17⟩ := cpA X11 hx hZ hown (hw _ (List.mem_of_getElem? (i := 139) rfl)) (hw _ (List.mem_of_getElem? (i := 142) rfl)) (hw _ (List.mem_of_getElem? (i := 140) rfl)) (hw _ (List.mem_of_getElem? (i := 141) rfl)) e11 c12 (c12.pad (pad_rep [(.ref x0), (.ref x1)] .null 1)) (Or.inr ⟨rfl, rfl, ⟨Sto.ofV Aq14 qq14 ovr_ka (Ins.of_exa c16 (hw _ (List.mem_of_getElem? (i := 143) rfl))), ⟨Sto.ofV Aq14 qq14 ovr_ka (Ins.of_exa c15 (hw _ (List.mem_of_getElem? (i := 143) rfl))), trivial⟩⟩⟩) (by decide) (by decide) (by decide) (by decide) (by decide) (us := [(.ref x0), (.ref x1)]) rfl (Nat.le_of_ble_eq_true rfl) N7 g_arr (g := (mkF m 49 #[.val (.ref o0), .val (.int (0 : Int32)), .val (.ref o2), .val (.int (2 : Int32)), .val (.ref arr)] [(.int (2 : Int32)), (.int (1 : Int32)), (.ref arr), (.int (0 : Int32)), (.ref arr)])) rfl (by rw [hml]; rfl) (rest := []) rfl (hb hby d3826_49) (by decide) (W := 0) (by show 2 * 0 + _ ≤ _; exact Nat.le_of_eq rfl) (by decide)
  have J17 : Keep h0 h17 [o0, arr] := J7.trans K17 (allS (Or.inl (List.mem_of_getElem? (i := 1) rfl)) all0)
  have V17 : Arv Z h17 arr ka (.object "java/lang/Object") (10 : Int32) [(.ref x0), (.ref x0), (.ref x1)] .null := Vc17
  have c18 : Exa Z h17 o2 "com/example/tierline/tierline/csv/LineProblems$Problem" := (((E_o2.keep K1).wr W7).keep K17)
  obtain ⟨cl19, Ar19, qk19, Sz19, Nn19, Hs19, Gs19⟩ := id V17
  have hin19 : ¬ ((0 : Int32) < 0 ∨ cl19.slots.size ≤ ((0 : Int32)).toNatClampNeg) := inb_of Sz19 ⟨by decide, by decide⟩
  obtain ⟨T20, h20, X20, e20, W20, st20⟩ := stR X17 hx hZ e17 Ar19 (j := (0 : Int32)) hin19 rfl (Sto.ofV Ar19 qk19 ovr_ka (Ins.of_exa c18 (hw _ (List.mem_of_getElem? (i := 143) rfl)))) (g := (mkF m 56 #[.val (.ref o0), .val (.int (0 : Int32)), .val (.ref o2), .val (.int (2 : Int32)), .val (.ref arr)] [(.ref o2), (.int (0 : Int32)), (.ref arr)])) rfl rfl (hb hby d3826_56)
  have V20 : Arv Z h20 arr ka (.object "java/lang/Object") (10 : Int32) [(.ref o2), (.ref x0), (.ref x1)] .null := Arv.set Ar19 qk19 Sz19 Nn19 Hs19 Gs19 rfl W20 0 rfl (Nat.le_of_ble_eq_true rfl)
  have J20 : Keep h0 h20 [o0, arr] := J17.wr W20 (Or.inl (List.mem_of_getElem? (i := 1) rfl))
  have N20 := Fr.snoc X20 N17 g_arr
  have c21 : Fld Z h20 o0 "java/util/ArrayList" "size" "I" (.int (2 : Int32)) := ((c8.keep K17 (ninS (Ne.symm ne6) nin0)).other W20 (Or.inl (Ne.symm ne6)))
  have c22 : Exa Z h20 o0 "java/util/ArrayList" := (((c4.wr W7).keep K17).wr W20)
  obtain ⟨T23, h23, X23, e23, W23, st23⟩ := putF X20 hx hZ hown (host := "") (Or.inl (hw _ (List.mem_of_getElem? (i := 106) rfl))) Via.refl e20 c21 c22 (Or.inl (hw _ (List.mem_of_getElem? (i := 107) rfl))) (hw _ (List.mem_of_getElem? (i := 18) rfl)) (ty := .int) (by decide) rfl rfl (g := (mkF m 61 #[.val (.ref o0), .val (.int (0 : Int32)), .val (.ref o2), .val (.int (2 : Int32)), .val (.ref arr)] [(.int (3 : Int32)), (.ref o0)])) rfl rfl (hb hby d3826_61)
  have Fw23 : Fld Z h23 o0 "java/util/ArrayList" "size" "I" (.int (3 : Int32)) := c21.same W23
  have J23 : Keep h0 h23 [o0, arr] := J20.wr W23 (Or.inl (List.mem_of_getElem? (i := 0) rfl))
  have N23 := Fr.snoc X23 N20 g_o0
  have c24 : Fld Z h23 o0 "java/util/AbstractList" "modCount" "I" (.int (mc + (1 : Int32))) := (((Fw7.keep K17 (ninS (Ne.symm ne6) nin0)).other W20 (Or.inl (Ne.symm ne6))).other W23 (Or.inr (slot_ne (Or.inl (hw _ (List.mem_of_getElem? (i := 37) rfl))) (Or.inl (hw _ (List.mem_of_getElem? (i := 107) rfl))) (by decide) (t := .int) (t' := .int) (by decide) (by decide))))
  have c25 : Fld Z h23 o0 "java/util/ArrayList" "elementData" "[Ljava/lang/Object;" (.ref arr) := (((c10.keep K17 (ninS (Ne.symm ne6) nin0)).other W20 (Or.inl (Ne.symm ne6))).other W23 (Or.inr (slot_ne (Or.inl (hw _ (List.mem_of_getElem? (i := 40) rfl))) (Or.inl (hw _ (List.mem_of_getElem? (i := 107) rfl))) (by decide) (t := (.array (.object "java/lang/Object"))) (t' := .int) (by decide) (by decide))))
  have c26 : Arv Z h23 arr ka (.object "java/lang/Object") (10 : Int32) [(.ref o2), (.ref x0), (.ref x1)] .null := (V20.other W23 ne6)
  obtain ⟨fs, hr, hrun, hended, hW, hsame⟩ := X23.leave (v := none) (fun _ => rfl)
  refine ⟨_, _, pre0 _ ?_, hrun, hended, _, _, rfl, ?_, ⟨_, rfl⟩, hW, hsame.mono (by decide) (by decide)⟩
  · show Steps p.tables e below (s₁.setTop (mkF m 0 #[.val (.ref o0), .val (.int (0 : Int32)), .val (.ref o2), .unset, .unset] [])) _
    refine XS.aloadN X0.here hx rfl (hb hby d3826_0) rfl rfl ?_
    show Steps p.tables e below (s₁.setTop (mkF m 1 #[.val (.ref o0), .val (.int (0 : Int32)), .val (.ref o2), .unset, .unset] [(.ref o0)])) _
    refine XS.iloadN X0.here hx rfl (hb hby d3826_1) rfl ?_
    show Steps p.tables e below (s₁.setTop (mkF m 2 #[.val (.ref o0), .val (.int (0 : Int32)), .val (.ref o2), .unset, .unset] [(.int (0 : Int32)), (.ref o0)])) _
    refine st1.trans ?_
    show Steps p.tables e below (T1.setTop (mkF m 5 #[.val (.ref o0), .val (.int (0 : Int32)), .val (.ref o2), .unset, .unset] [])) _
    refine XS.aloadN X1.here hx rfl (hb hby d3826_5) rfl rfl ?_
    show Steps p.tables e below (T1.setTop (mkF m 6 #[.val (.ref o0), .val (.int (0 : Int32)), .val (.ref o2), .unset, .unset] [(.ref o0)])) _
    refine XS.dup X1.here hx rfl (hb hby d3826_6) rfl rfl ?_
    show Steps p.tables e below (T1.setTop (mkF m 7 #[.val (.ref o0), .val (.int (0 : Int32)), .val (.ref o2), .unset, .unset] [(.ref o0), (.ref o0)])) _
    refine st3 _ ?_
    show Steps p.tables e below (T3.setTop (mkF m 10 #[.val (.ref o0), .val (.int (0 : Int32)), .val (.ref o2), .unset, .unset] [(.int mc), (.ref o0)])) _
    refine XS.iconst X3.here hx rfl (hb hby d3826_10) ?_
    show Steps p.tables e below (T3.setTop (mkF m 11 #[.val (.ref o0), .val (.int (0 : Int32)), .val (.ref o2), .unset, .unset] [(.int (1 : Int32)), (.int mc), (.ref o0)])) _
    refine XS.iadd X3.here hx rfl (hb hby d3826_11) rfl ?_
    show Steps p.tables e below (T3.setTop (mkF m 12 #[.val (.ref o0), .val (.int (0 : Int32)), .val (.ref o2), .unset, .unset] [(.int (mc + (1 : Int32))), (.ref o0)])) _
    refine st7 _ ?_
    show Steps p.tables e below (T7.setTop (mkF m 15 #[.val (.ref o0), .val (.int (0 : Int32)), .val (.ref o2), .unset, .unset] [])) _
    refine XS.aloadN X7.here hx rfl (hb hby d3826_15) rfl rfl ?_
    show Steps p.tables e below (T7.setTop (mkF m 16 #[.val (.ref o0), .val (.int (0 : Int32)), .val (.ref o2), .unset, .unset] [(.ref o0)])) _
    refine st9 _ ?_
    show Steps p.tables e below (T9.setTop (mkF m 19 #[.val (.ref o0), .val (.int (0 : Int32)), .val (.ref o2), .unset, .unset] [(.int (2 : Int32))])) _
    refine XS.dup X9.here hx rfl (hb hby d3826_19) rfl rfl ?_
    show Steps p.tables e below (T9.setTop (mkF m 20 #[.val (.ref o0), .val (.int (0 : Int32)), .val (.ref o2), .unset, .unset] [(.int (2 : Int32)), (.int (2 : Int32))])) _
    refine XS.istoreN X9.here hx rfl (hb hby d3826_20) rfl (l' := #[.val (.ref o0), .val (.int (0 : Int32)), .val (.ref o2), .val (.int (2 : Int32)), .unset]) rfl ?_
    show Steps p.tables e below (T9.setTop (mkF m 21 #[.val (.ref o0), .val (.int (0 : Int32)), .val (.ref o2), .val (.int (2 : Int32)), .unset] [(.int (2 : Int32))])) _
    refine XS.aloadN X9.here hx rfl (hb hby d3826_21) rfl rfl ?_
    show Steps p.tables e below (T9.setTop (mkF m 22 #[.val (.ref o0), .val (.int (0 : Int32)), .val (.ref o2), .val (.int (2 : Int32)), .unset] [(.ref o0), (.int (2 : Int32))])) _
    refine st11 _ ?_
    show Steps p.tables e below (T11.setTop (mkF m 25 #[.val (.ref o0), .val (.int (0 : Int32)), .val (.ref o2), .val (.int (2 : Int32)), .unset] [(.ref arr), (.int (2 : Int32))])) _
    refine XS.dup X11.here hx rfl (hb hby d3826_25) rfl rfl ?_
    show Steps p.tables e below (T11.setTop (mkF m 26 #[.val (.ref o0), .val (.int (0 : Int32)), .val (.ref o2), .val (.int (2 : Int32)), .unset] [(.ref arr), (.ref arr), (.int (2 : Int32))])) _
    refine XS.astore X11.here hx rfl (hb hby d3826_26) rfl rfl (l' := #[.val (.ref o0), .val (.int (0 : Int32)), .val (.ref o2), .val (.int (2 : Int32)), .val (.ref arr)]) rfl ?_
    show Steps p.tables e below (T11.setTop (mkF m 28 #[.val (.ref o0), .val (.int (0 : Int32)), .val (.ref o2), .val (.int (2 : Int32)), .val (.ref arr)] [(.ref arr), (.int (2 : Int32))])) _
    refine X11.arraylength hx (by rw [e11]; exact Ar13.1) (State.isArrayOf_alike hZ.alike Ar13.2.1) (g := (mkF m 28 #[.val (.ref o0), .val (.int (0 : Int32)), .val (.ref o2), .val (.int (2 : Int32)), .val (.ref arr)] [(.ref arr), (.int (2 : Int32))])) rfl rfl (hb hby d3826_28) _ ?_
    rw [len_of Sz13 Nn13]
    show Steps p.tables e below (T11.setTop (mkF m 29 #[.val (.ref o0), .val (.int (0 : Int32)), .val (.ref o2), .val (.int (2 : Int32)), .val (.ref arr)] [(.int (10 : Int32)), (.int (2 : Int32))])) _
    refine XS.icmpYes X11.here hx rfl (pc0 := 29) (pc' := 38) rfl (hb hby d3826_29) rfl (feq (by decide)).2 (by decide) (by decide) ?_
    show Steps p.tables e below (T11.setTop (mkF m 38 #[.val (.ref o0), .val (.int (0 : Int32)), .val (.ref o2), .val (.int (2 : Int32)), .val (.ref arr)] [])) _
    refine XS.aload X11.here hx rfl (hb hby d3826_38) rfl rfl ?_
    show Steps p.tables e below (T11.setTop (mkF m 40 #[.val (.ref o0), .val (.int (0 : Int32)), .val (.ref o2), .val (.int (2 : Int32)), .val (.ref arr)] [(.ref arr)])) _
    refine XS.iloadN X11.here hx rfl (hb hby d3826_40) rfl ?_
    show Steps p.tables e below (T11.setTop (mkF m 41 #[.val (.ref o0), .val (.int (0 : Int32)), .val (.ref o2), .val (.int (2 : Int32)), .val (.ref arr)] [(.int (0 : Int32)), (.ref arr)])) _
    refine XS.aload X11.here hx rfl (hb hby d3826_41) rfl rfl ?_
    show Steps p.tables e below (T11.setTop (mkF m 43 #[.val (.ref o0), .val (.int (0 : Int32)), .val (.ref o2), .val (.int (2 : Int32)), .val (.ref arr)] [(.ref arr), (.int (0 : Int32)), (.ref arr)])) _
    refine XS.iloadN X11.here hx rfl (hb hby d3826_43) rfl ?_
    show Steps p.tables e below (T11.setTop (mkF m 44 #[.val (.ref o0), .val (.int (0 : Int32)), .val (.ref o2), .val (.int (2 : Int32)), .val (.ref arr)] [(.int (0 : Int32)), (.ref arr), (.int (0 : Int32)), (.ref arr)])) _
    refine XS.iconst X11.here hx rfl (hb hby d3826_44) ?_
    show Steps p.tables e below (T11.setTop (mkF m 45 #[.val (.ref o0), .val (.int (0 : Int32)), .val (.ref o2), .val (.int (2 : Int32)), .val (.ref arr)] [(.int (1 : Int32)), (.int (0 : Int32)), (.ref arr), (.int (0 : Int32)), (.ref arr)])) _
    refine XS.iadd X11.here hx rfl (hb hby d3826_45) rfl ?_
    show Steps p.tables e below (T11.setTop (mkF m 46 #[.val (.ref o0), .val (.int (0 : Int32)), .val (.ref o2), .val (.int (2 : Int32)), .val (.ref arr)] [(.int (1 : Int32)), (.ref arr), (.int (0 : Int32)), (.ref arr)])) _
    refine XS.iloadN X11.here hx rfl (hb hby d3826_46) rfl ?_
    show Steps p.tables e below (T11.setTop (mkF m 47 #[.val (.ref o0), .val (.int (0 : Int32)), .val (.ref o2), .val (.int (2 : Int32)), .val (.ref arr)] [(.int (2 : Int32)), (.int (1 : Int32)), (.ref arr), (.int (0 : Int32)), (.ref arr)])) _
    refine XS.iloadN X11.here hx rfl (hb hby d3826_47) rfl ?_
    show Steps p.tables e below (T11.setTop (mkF m 48 #[.val (.ref o0), .val (.int (0 : Int32)), .val (.ref o2), .val (.int (2 : Int32)), .val (.ref arr)] [(.int (0 : Int32)), (.int (2 : Int32)), (.int (1 : Int32)), (.ref arr), (.int (0 : Int32)), (.ref arr)])) _
    refine XS.isub X11.here hx rfl (hb hby d3826_48) rfl ?_
    show Steps p.tables e below (T11.setTop (mkF m 49 #[.val (.ref o0), .val (.int (0 : Int32)), .val (.ref o2), .val (.int (2 : Int32)), .val (.ref arr)] [(.int (2 : Int32)), (.int (1 : Int32)), (.ref arr), (.int (0 : Int32)), (.ref arr)])) _
    refine st17 _ ?_
    show Steps p.tables e below (T17.setTop (mkF m 52 #[.val (.ref o0), .val (.int (0 : Int32)), .val (.ref o2), .val (.int (2 : Int32)), .val (.ref arr)] [])) _
    refine XS.aload X17.here hx rfl (hb hby d3826_52) rfl rfl ?_
    show Steps p.tables e below (T17.setTop (mkF m 54 #[.val (.ref o0), .val (.int (0 : Int32)), .val (.ref o2), .val (.int (2 : Int32)), .val (.ref arr)] [(.ref arr)])) _
    refine XS.iloadN X17.here hx rfl (hb hby d3826_54) rfl ?_
    show Steps p.tables e below (T17.setTop (mkF m 55 #[.val (.ref o0), .val (.int (0 : Int32)), .val (.ref o2), .val (.int (2 : Int32)), .val (.ref arr)] [(.int (0 : Int32)), (.ref arr)])) _
    refine XS.aloadN X17.here hx rfl (hb hby d3826_55) rfl rfl ?_
    show Steps p.tables e below (T17.setTop (mkF m 56 #[.val (.ref o0), .val (.int (0 : Int32)), .val (.ref o2), .val (.int (2 : Int32)), .val (.ref arr)] [(.ref o2), (.int (0 : Int32)), (.ref arr)])) _
    refine st20 _ ?_
    show Steps p.tables e below (T20.setTop (mkF m 57 #[.val (.ref o0), .val (.int (0 : Int32)), .val (.ref o2), .val (.int (2 : Int32)), .val (.ref arr)] [])) _
    refine XS.aloadN X20.here hx rfl (hb hby d3826_57) rfl rfl ?_
    show Steps p.tables e below (T20.setTop (mkF m 58 #[.val (.ref o0), .val (.int (0 : Int32)), .val (.ref o2), .val (.int (2 : Int32)), .val (.ref arr)] [(.ref o0)])) _
    refine XS.iloadN X20.here hx rfl (hb hby d3826_58) rfl ?_
    show Steps p.tables e below (T20.setTop (mkF m 59 #[.val (.ref o0), .val (.int (0 : Int32)), .val (.ref o2), .val (.int (2 : Int32)), .val (.ref arr)] [(.int (2 : Int32)), (.ref o0)])) _
    refine XS.iconst X20.here hx rfl (hb hby d3826_59) ?_
    show Steps p.tables e below (T20.setTop (mkF m 60 #[.val (.ref o0), .val (.int (0 : Int32)), .val (.ref o2), .val (.int (2 : Int32)), .val (.ref arr)] [(.int (1 : Int32)), (.int (2 : Int32)), (.ref o0)])) _
    refine XS.iadd X20.here hx rfl (hb hby d3826_60) rfl ?_
    show Steps p.tables e below (T20.setTop (mkF m 61 #[.val (.ref o0), .val (.int (0 : Int32)), .val (.ref o2), .val (.int (2 : Int32)), .val (.ref arr)] [(.int (3 : Int32)), (.ref o0)])) _
    refine st23 _ ?_
    show Steps p.tables e below (T23.setTop (mkF m 64 #[.val (.ref o0), .val (.int (0 : Int32)), .val (.ref o2), .val (.int (2 : Int32)), .val (.ref arr)] [])) _
    exact X23.returnOut hx Bd.returns (hb hby d3826_64) hr
  · show Q3826_2_0 Z o0 o2 arr ka mc x0 x1 h0 n0 _ T23.heap _
    rw [e23]
    exact ⟨rfl, N23, J23, Fw23, c24, c25, c26⟩
theorem ef_3826_2_1 (m : MethodId) (o0 : Addr) (o2 : Addr) : entryFrame m #[(.ref o0), (.int (1 : Int32)), (.ref o2)] 5 = mkF m 0 #[.val (.ref o0), .val (.int (1 : Int32)), .val (.ref o2), .unset, .unset] [] := by first | (simp [entryFrame, mkF, argsToLocals, Value.category]; done) | rfl
def Q3826_2_1 (Z : State) (o0 : Addr) (o2 : Addr) (arr : Addr) (ka : ClassId) (mc : Int32) (x0 : Addr) (x1 : Addr) (h0 : Heap) (n0 : Nat) (v : Option Value) (h : Heap) (L : List Loc) : Prop := v = none ∧ Fr n0 L ∧ Keep h0 h [o0, arr] ∧ Fld Z h o0 "java/util/ArrayList" "size" "I" (.int (3 : Int32)) ∧ Fld Z h o0 "java/util/AbstractList" "modCount" "I" (.int (mc + (1 : Int32))) ∧ Fld Z h o0 "java/util/ArrayList" "elementData" "[Ljava/lang/Object;" (.ref arr) ∧ Arv Z h arr ka (.object "java/lang/Object") (10 : Int32) [(.ref x0), (.ref o2), (.ref x1)] .null
set_option maxRecDepth 65536 in
set_option maxHeartbeats 40000000 in
theorem rm3826_2_1 (l : Launch) (Z : State) (a0 : Array Value) (hw : ∀ d ∈ tables_1, d.before a0 Z = true) (ws : List Jvm.Cond) (o0 : Addr) (o2 : Addr) (arr : Addr) (ka : ClassId) (mc : Int32) (x0 : Addr) (x1 : Addr) (h0 : Heap) (n0 : Nat) (Z0 : n0 ≤ h0.size) (E_o0 : Exa Z h0 o0 "java/util/ArrayList") (F_elementData_o0 : Fld Z h0 o0 "java/util/ArrayList" "elementData" "[Ljava/lang/Object;" (.ref arr)) (V_arr : Arv Z h0 arr ka (.object "java/lang/Object") (10 : Int32) [(.ref x0), (.ref x1)] .null) (ovr_ka : Ovr Z ka "java/lang/Object") (F_size_o0 : Fld Z h0 o0 "java/util/ArrayList" "size" "I" (.int (2 : Int32))) (F_modCount_o0 : Fld Z h0 o0 "java/util/AbstractList" "modCount" "I" (.int mc)) (g_o0 : n0 ≤ o0) (g_arr : n0 ≤ arr) (E_o2 : Exa Z h0 o2 "com/example/tierline/tierline/csv/LineProblems$Problem") (E_x0 : Exa Z h0 x0 "com/example/tierline/tierline/csv/LineProblems$Problem") (E_x1 : Exa Z h0 x1 "com/example/tierline/tierline/csv/LineProblems$Problem") :
    MetFree l (⟨"java/util/ArrayList", "add", "(ILjava/lang/Object;)V"⟩ : MethodName) (head1 (Jvm.Cond.code (⟨"java/util/ArrayList", "add", "(ILjava/lang/Object;)V"⟩ : MethodName) jdk_38_method_26_code 5 none :: ws) ({ frames := 1, cells := 0, slots := 0, locals := 18 } : Room)) (fun a U => a = #[(.ref o0), (.int (1 : Int32)), (.ref o2)] ∧ Z.Warmed39 U.vm ∧ U.heap = h0) (fun _ _ _ _ _ => True) (fun _ U o U' => ∃ v L, o = .returned v ∧ Q3826_2_1 Z o0 o2 arr ka mc x0 x1 h0 n0 v U'.heap L ∧ FrameEnd U o U' L ({ frames := 1, cells := 0, slots := 0, locals := 18 } : Room).cells ({ frames := 1, cells := 0, slots := 0, locals := 18 } : Room).slots) := by
  refine MetFree.of_bodySF (plainFor_of_name pn_java_util_ArrayList) hisR ?_
  intro p e s m args below meth c s₁ Bd hml0 hP hK
  obtain ⟨rfl, hZ, hh⟩ := hP
  have hx := Bd.exec
  have hby := Bd.bytes
  have hml : c.maxLocals = 5 := hml0
  have hown : s.vm.findClass "java/util/ArrayList" = some m.cls := findClass_of_methodNamed Bd.named
  have hnm := (name_of_methodNamed Bd.named Bd.method).1
  have X0 : Stand p l e ({ frames := 1, cells := 0, slots := 0, locals := 18 } : Room) s m #[(.ref o0), (.int (1 : Int32)), (.ref o2)] below meth c s₁ [] 0 0 := Stand.of_body Bd
  have e0 : s₁.heap = h0 := by rw [← hh, Bd.state]; rfl
  have N0 := Fr.nil n0
  have pre0 : ∀ t, Steps p.tables e below (s₁.setTop (mkF m 0 #[.val (.ref o0), .val (.int (1 : Int32)), .val (.ref o2), .unset, .unset] [])) t → Steps p.tables e below (s₁.setTop (entryFrame m #[(.ref o0), (.int (1 : Int32)), (.ref o2)] 5)) t := fun t k => castTop (ef_3826_2_1 m o0 o2) k
  obtain ⟨cq1, qh1, qh1'⟩ := E_o0.cell
  -- pc 2: ArrayList.rangeCheckForAdd by rm3845
  obtain ⟨_, _, ⟨T1, L1, k1, n1⟩, -, X1, ⟨Lc1, hQ1, l1, y1, z1'⟩, st1⟩ := X0.privateBack hx (y := (⟨"java/util/ArrayList", "rangeCheckForAdd", "(I)V"⟩ : MethodName)) hown (mvT hZ (hw _ (List.mem_of_getElem? (i := 116) rfl))) (mvT hZ (hw _ (List.mem_of_getElem? (i := 117) rfl))) (own_selP hZ (hw _ (List.mem_of_getElem? (i := 18) rfl)) (hw _ (List.mem_of_getElem? (i := 118) rfl)) (hw _ (List.mem_of_getElem? (i := 117) rfl)) (by decide)) (Cond.privateMethod_at (mvP hZ (hw _ (List.mem_of_getElem? (i := 118) rfl)) (args := #[]))) (mvT hZ (hw _ (List.mem_of_getElem? (i := 120) rfl))) (by decide) (backOf (W := 0) (rm3845 l Z a0 hw [] o0 (1 : Int32) (2 : Int32) h0 n0 Z0 F_size_o0 (by decide) (by decide)) hZ (hw _ (List.mem_of_getElem? (i := 120) rfl)) (hw _ (List.mem_of_getElem? (i := 19) rfl)) (by decide) (by decide)) (g := (mkF m 2 #[.val (.ref o0), .val (.int (1 : Int32)), .val (.ref o2), .unset, .unset] [(.int (1 : Int32)), (.ref o0)])) rfl (by rw [hml]; rfl) (Steps.refl _) (a := o0) (by rw [e0]; exact qh1) qh1' (argsL := [(.int (1 : Int32))]) (rest := []) (lenOf pd_6 rfl) rfl (by show 2 * 0 + _ ≤ _; exact Nat.le_of_eq rfl) (hb hby d3826_2) (fun _ _ => ⟨rfl, e0, (by decide : 0 + 0 ≤ _), (by decide : 0 + 0 ≤ _)⟩)
  dsimp only [Pt.U, Pt.locs, Pt.cells, Pt.slots] at X1 l1 y1 z1' st1 hQ1
  subst l1 y1 z1'
  obtain ⟨rfl, N1q, K1⟩ := hQ1
  have N1 := Fr.app N0 N1q
  have J1 : Keep h0 T1.heap [o0, arr] := (Keep.refl h0 [o0, arr]).trans K1 all0
  have c2 : Fld Z T1.heap o0 "java/util/AbstractList" "modCount" "I" (.int mc) := (F_modCount_o0.keep K1 nin0)
  obtain ⟨T3, X3, e3, st3⟩ := getF X1 hx hZ hown (host := "") (Or.inl (hw _ (List.mem_of_getElem? (i := 121) rfl))) (Via.of (hw _ (List.mem_of_getElem? (i := 122) rfl))) rfl c2 (g := (mkF m 7 #[.val (.ref o0), .val (.int (1 : Int32)), .val (.ref o2), .unset, .unset] [(.ref o0), (.ref o0)])) rfl rfl (hb hby d3826_7)
  have c4 : Exa Z T1.heap o0 "java/util/ArrayList" := (E_o0.keep K1)
  have c5 : Arv Z T1.heap arr ka (.object "java/lang/Object") (10 : Int32) [(.ref x0), (.ref x1)] .null := (V_arr.keep K1 nin0)
  have ne6 : arr ≠ o0 := (Ne.symm (Exa.neArv c4 c5 (hw _ (List.mem_of_getElem? (i := 18) rfl))))
  obtain ⟨T7, h7, X7, e7, W7, st7⟩ := putF X3 hx hZ hown (host := "") (Or.inl (hw _ (List.mem_of_getElem? (i := 121) rfl))) (Via.of (hw _ (List.mem_of_getElem? (i := 122) rfl))) e3 c2 c4 (Or.inl (hw _ (List.mem_of_getElem? (i := 37) rfl))) (hw _ (List.mem_of_getElem? (i := 18) rfl)) (ty := .int) (by decide) rfl rfl (g := (mkF m 12 #[.val (.ref o0), .val (.int (1 : Int32)), .val (.ref o2), .unset, .unset] [(.int (mc + (1 : Int32))), (.ref o0)])) rfl rfl (hb hby d3826_12)
  have Fw7 : Fld Z h7 o0 "java/util/AbstractList" "modCount" "I" (.int (mc + (1 : Int32))) := c2.same W7
  have J7 : Keep h0 h7 [o0, arr] := J1.wr W7 (Or.inl (List.mem_of_getElem? (i := 0) rfl))
  have N7 := Fr.snoc X7 N1 g_o0
  have c8 : Fld Z h7 o0 "java/util/ArrayList" "size" "I" (.int (2 : Int32)) := ((F_size_o0.keep K1 nin0).other W7 (Or.inr (slot_ne (Or.inl (hw _ (List.mem_of_getElem? (i := 107) rfl))) (Or.inl (hw _ (List.mem_of_getElem? (i := 37) rfl))) (by decide) (t := .int) (t' := .int) (by decide) (by decide))))
  obtain ⟨T9, X9, e9, st9⟩ := getF X7 hx hZ hown (host := "") (Or.inl (hw _ (List.mem_of_getElem? (i := 106) rfl))) Via.refl e7 c8 (g := (mkF m 16 #[.val (.ref o0), .val (.int (1 : Int32)), .val (.ref o2), .unset, .unset] [(.ref o0)])) rfl rfl (hb hby d3826_16)
  have c10 : Fld Z h7 o0 "java/util/ArrayList" "elementData" "[Ljava/lang/Object;" (.ref arr) := ((F_elementData_o0.keep K1 nin0).other W7 (Or.inr (slot_ne (Or.inl (hw _ (List.mem_of_getElem? (i := 40) rfl))) (Or.inl (hw _ (List.mem_of_getElem? (i := 37) rfl))) (by decide) (t := (.array (.object "java/lang/Object"))) (t' := .int) (by decide) (by decide))))
  obtain ⟨T11, X11, e11, st11⟩ := getF X9 hx hZ hown (host := "") (Or.inl (hw _ (List.mem_of_getElem? (i := 39) rfl))) Via.refl e9 c10 (g := (mkF m 22 #[.val (.ref o0), .val (.int (1 : Int32)), .val (.ref o2), .val (.int (2 : Int32)), .unset] [(.ref o0), (.int (2 : Int32))])) rfl rfl (hb hby d3826_22)
  have c12 : Arv Z h7 arr ka (.object "java/lang/Object") (10 : Int32) [(.ref x0), (.ref x1)] .null := (c5.other W7 ne6)
  obtain ⟨cl13, Ar13, -, Sz13, Nn13, -, -⟩ := id c12
  obtain ⟨cq14, Aq14, qq14, -⟩ := id c12
  have c15 : Exa Z h7 x1 "com/example/tierline/tierline/csv/LineProblems$Problem" := ((E_x1.keep K1).wr W7)
  obtain ⟨T16, h16, L16, X16, e16, N16, K16, Vc16, st16⟩ := cpA X11 hx hZ hown (hw _ (List.mem_of_getElem? (i := 139) rfl)) (hw _ (List.mem_of_getElem? (i := 142) rfl)) (hw _ (List.mem_of_getElem? (i := 140) rfl)) (hw _ (List.mem_of_getElem? (i := 141) rfl)) e11 c12 (c12.pad (pad_rep [(.ref x0), (.ref x1)] .null 1)) (Or.inr ⟨rfl, rfl, ⟨Sto.ofV Aq14 qq14 ovr_ka (Ins.of_exa c15 (hw _ (List.mem_of_getElem? (i := 143) rfl))), trivial⟩⟩) (by decide) (by decide) (by decide) (by decide) (by decide) (us := [(.ref x1)]) rfl (Nat.le_of_ble_eq_true rfl) N7 g_arr (g := (mkF m 49 #[.val (.ref o0), .val (.int (1 : Int32)), .val (.ref o2), .val (.int (2 : Int32)), .val (.ref arr)] [(.int (1 : Int32)), (.int (2 : Int32)), (.ref arr), (.int (1 : Int32)), (.ref arr)])) rfl (by rw [hml]; rfl) (rest := []) rfl (hb hby d3826_49) (by decide) (W := 0) (by show 2 * 0 + _ ≤ _; exact Nat.le_of_eq rfl) (by decide)
  have J16 : Keep h0 h16 [o0, arr] := J7.trans K16 (allS (Or.inl (List.mem_of_getElem? (i := 1) rfl)) all0)
  have V16 : Arv Z h16 arr ka (.object "java/lang/Object") (10 : Int32) [(.ref x0), (.ref x1), (.ref x1)] .null := Vc16
  have c17 : Exa Z h16 o2 "com/example/tierline/tierline/csv/LineProblems$Problem" := (((E_o2.keep K1).wr W7).keep K16)
  obtain ⟨cl18, Ar18, qk18, Sz18, Nn18, Hs18, Gs18⟩ := id V16
  have hin18 : ¬ ((1 : Int32) < 0 ∨ cl18.slots.size ≤ ((1 : Int32)).toNatClampNeg) := inb_of Sz18 ⟨by decide, by decide⟩
  obtain ⟨T19, h19, X19, e19, W19, st19⟩ := stR X16 hx hZ e16 Ar18 (j := (1 : Int32)) hin18 rfl (Sto.ofV Ar18 qk18 ovr_ka (Ins.of_exa c17 (hw _ (List.mem_of_getElem? (i := 143) rfl)))) (g := (mkF m 56 #[.val (.ref o0), .val (.int (1 : Int32)), .val (.ref o2), .val (.int (2 : Int32)), .val (.ref arr)] [(.ref o2), (.int (1 : Int32)), (.ref arr)])) rfl rfl (hb hby d3826_56)
  have V19 : Arv Z h19 arr ka (.object "java/lang/Object") (10 : Int32) [(.ref x0), (.ref o2), (.ref x1)] .null := Arv.set Ar18 qk18 Sz18 Nn18 Hs18 Gs18 rfl W19 1 rfl (Nat.le_of_ble_eq_true rfl)
  have J19 : Keep h0 h19 [o0, arr] := J16.wr W19 (Or.inl (List.mem_of_getElem? (i := 1) rfl))
  have N19 := Fr.snoc X19 N16 g_arr
  have c20 : Fld Z h19 o0 "java/util/ArrayList" "size" "I" (.int (2 : Int32)) := ((c8.keep K16 (ninS (Ne.symm ne6) nin0)).other W19 (Or.inl (Ne.symm ne6)))
  have c21 : Exa Z h19 o0 "java/util/ArrayList" := (((c4.wr W7).keep K16).wr W19)
  obtain ⟨T22, h22, X22, e22, W22, st22⟩ := putF X19 hx hZ hown (host := "") (Or.inl (hw _ (List.mem_of_getElem? (i := 106) rfl))) Via.refl e19 c20 c21 (Or.inl (hw _ (List.mem_of_getElem? (i := 107) rfl))) (hw _ (List.mem_of_getElem? (i := 18) rfl)) (ty := .int) (by decide) rfl rfl (g := (mkF m 61 #[.val (.ref o0), .val (.int (1 : Int32)), .val (.ref o2), .val (.int (2 : Int32)), .val (.ref arr)] [(.int (3 : Int32)), (.ref o0)])) rfl rfl (hb hby d3826_61)
  have Fw22 : Fld Z h22 o0 "java/util/ArrayList" "size" "I" (.int (3 : Int32)) := c20.same W22
  have J22 : Keep h0 h22 [o0, arr] := J19.wr W22 (Or.inl (List.mem_of_getElem? (i := 0) rfl))
  have N22 := Fr.snoc X22 N19 g_o0
  have c23 : Fld Z h22 o0 "java/util/AbstractList" "modCount" "I" (.int (mc + (1 : Int32))) := (((Fw7.keep K16 (ninS (Ne.symm ne6) nin0)).other W19 (Or.inl (Ne.symm ne6))).other W22 (Or.inr (slot_ne (Or.inl (hw _ (List.mem_of_getElem? (i := 37) rfl))) (Or.inl (hw _ (List.mem_of_getElem? (i := 107) rfl))) (by decide) (t := .int) (t' := .int) (by decide) (by decide))))
  have c24 : Fld Z h22 o0 "java/util/ArrayList" "elementData" "[Ljava/lang/Object;" (.ref arr) := (((c10.keep K16 (ninS (Ne.symm ne6) nin0)).other W19 (Or.inl (Ne.symm ne6))).other W22 (Or.inr (slot_ne (Or.inl (hw _ (List.mem_of_getElem? (i := 40) rfl))) (Or.inl (hw _ (List.mem_of_getElem? (i := 107) rfl))) (by decide) (t := (.array (.object "java/lang/Object"))) (t' := .int) (by decide) (by decide))))
  have c25 : Arv Z h22 arr ka (.object "java/lang/Object") (10 : Int32) [(.ref x0), (.ref o2), (.ref x1)] .null := (V19.other W22 ne6)
  obtain ⟨fs, hr, hrun, hended, hW, hsame⟩ := X22.leave (v := none) (fun _ => rfl)
  refine ⟨_, _, pre0 _ ?_, hrun, hended, _, _, rfl, ?_, ⟨_, rfl⟩, hW, hsame.mono (by decide) (by decide)⟩
  · show Steps p.tables e below (s₁.setTop (mkF m 0 #[.val (.ref o0), .val (.int (1 : Int32)), .val (.ref o2), .unset, .unset] [])) _
    refine XS.aloadN X0.here hx rfl (hb hby d3826_0) rfl rfl ?_
    show Steps p.tables e below (s₁.setTop (mkF m 1 #[.val (.ref o0), .val (.int (1 : Int32)), .val (.ref o2), .unset, .unset] [(.ref o0)])) _
    refine XS.iloadN X0.here hx rfl (hb hby d3826_1) rfl ?_
    show Steps p.tables e below (s₁.setTop (mkF m 2 #[.val (.ref o0), .val (.int (1 : Int32)), .val (.ref o2), .unset, .unset] [(.int (1 : Int32)), (.ref o0)])) _
    refine st1.trans ?_
    show Steps p.tables e below (T1.setTop (mkF m 5 #[.val (.ref o0), .val (.int (1 : Int32)), .val (.ref o2), .unset, .unset] [])) _
    refine XS.aloadN X1.here hx rfl (hb hby d3826_5) rfl rfl ?_
    show Steps p.tables e below (T1.setTop (mkF m 6 #[.val (.ref o0), .val (.int (1 : Int32)), .val (.ref o2), .unset, .unset] [(.ref o0)])) _
    refine XS.dup X1.here hx rfl (hb hby d3826_6) rfl rfl ?_
    show Steps p.tables e below (T1.setTop (mkF m 7 #[.val (.ref o0), .val (.int (1 : Int32)), .val (.ref o2), .unset, .unset] [(.ref o0), (.ref o0)])) _
    refine st3 _ ?_
    show Steps p.tables e below (T3.setTop (mkF m 10 #[.val (.ref o0), .val (.int (1 : Int32)), .val (.ref o2), .unset, .unset] [(.int mc), (.ref o0)])) _
    refine XS.iconst X3.here hx rfl (hb hby d3826_10) ?_
    show Steps p.tables e below (T3.setTop (mkF m 11 #[.val (.ref o0), .val (.int (1 : Int32)), .val (.ref o2), .unset, .unset] [(.int (1 : Int32)), (.int mc), (.ref o0)])) _
    refine XS.iadd X3.here hx rfl (hb hby d3826_11) rfl ?_
    show Steps p.tables e below (T3.setTop (mkF m 12 #[.val (.ref o0), .val (.int (1 : Int32)), .val (.ref o2), .unset, .unset] [(.int (mc + (1 : Int32))), (.ref o0)])) _
    refine st7 _ ?_
    show Steps p.tables e below (T7.setTop (mkF m 15 #[.val (.ref o0), .val (.int (1 : Int32)), .val (.ref o2), .unset, .unset] [])) _
    refine XS.aloadN X7.here hx rfl (hb hby d3826_15) rfl rfl ?_
    show Steps p.tables e below (T7.setTop (mkF m 16 #[.val (.ref o0), .val (.int (1 : Int32)), .val (.ref o2), .unset, .unset] [(.ref o0)])) _
    refine st9 _ ?_
    show Steps p.tables e below (T9.setTop (mkF m 19 #[.val (.ref o0), .val (.int (1 : Int32)), .val (.ref o2), .unset, .unset] [(.int (2 : Int32))])) _
    refine XS.dup X9.here hx rfl (hb hby d3826_19) rfl rfl ?_
    show Steps p.tables e below (T9.setTop (mkF m 20 #[.val (.ref o0), .val (.int (1 : Int32)), .val (.ref o2), .unset, .unset] [(.int (2 : Int32)), (.int (2 : Int32))])) _
    refine XS.istoreN X9.here hx rfl (hb hby d3826_20) rfl (l' := #[.val (.ref o0), .val (.int (1 : Int32)), .val (.ref o2), .val (.int (2 : Int32)), .unset]) rfl ?_
    show Steps p.tables e below (T9.setTop (mkF m 21 #[.val (.ref o0), .val (.int (1 : Int32)), .val (.ref o2), .val (.int (2 : Int32)), .unset] [(.int (2 : Int32))])) _
    refine XS.aloadN X9.here hx rfl (hb hby d3826_21) rfl rfl ?_
    show Steps p.tables e below (T9.setTop (mkF m 22 #[.val (.ref o0), .val (.int (1 : Int32)), .val (.ref o2), .val (.int (2 : Int32)), .unset] [(.ref o0), (.int (2 : Int32))])) _
    refine st11 _ ?_
    show Steps p.tables e below (T11.setTop (mkF m 25 #[.val (.ref o0), .val (.int (1 : Int32)), .val (.ref o2), .val (.int (2 : Int32)), .unset] [(.ref arr), (.int (2 : Int32))])) _
    refine XS.dup X11.here hx rfl (hb hby d3826_25) rfl rfl ?_
    show Steps p.tables e below (T11.setTop (mkF m 26 #[.val (.ref o0), .val (.int (1 : Int32)), .val (.ref o2), .val (.int (2 : Int32)), .unset] [(.ref arr), (.ref arr), (.int (2 : Int32))])) _
    refine XS.astore X11.here hx rfl (hb hby d3826_26) rfl rfl (l' := #[.val (.ref o0), .val (.int (1 : Int32)), .val (.ref o2), .val (.int (2 : Int32)), .val (.ref arr)]) rfl ?_
    show Steps p.tables e below (T11.setTop (mkF m 28 #[.val (.ref o0), .val (.int (1 : Int32)), .val (.ref o2), .val (.int (2 : Int32)), .val (.ref arr)] [(.ref arr), (.int (2 : Int32))])) _
    refine X11.arraylength hx (by rw [e11]; exact Ar13.1) (State.isArrayOf_alike hZ.alike Ar13.2.1) (g := (mkF m 28 #[.val (.ref o0), .val (.int (1 : Int32)), .val (.ref o2), .val (.int (2 : Int32)), .val (.ref arr)] [(.ref arr), (.int (2 : Int32))])) rfl rfl (hb hby d3826_28) _ ?_
    rw [len_of Sz13 Nn13]
    show Steps p.tables e below (T11.setTop (mkF m 29 #[.val (.ref o0), .val (.int (1 : Int32)), .val (.ref o2), .val (.int (2 : Int32)), .val (.ref arr)] [(.int (10 : Int32)), (.int (2 : Int32))])) _
    refine XS.icmpYes X11.here hx rfl (pc0 := 29) (pc' := 38) rfl (hb hby d3826_29) rfl (feq (by decide)).2 (by decide) (by decide) ?_
    show Steps p.tables e below (T11.setTop (mkF m 38 #[.val (.ref o0), .val (.int (1 : Int32)), .val (.ref o2), .val (.int (2 : Int32)), .val (.ref arr)] [])) _
    refine XS.aload X11.here hx rfl (hb hby d3826_38) rfl rfl ?_
    show Steps p.tables e below (T11.setTop (mkF m 40 #[.val (.ref o0), .val (.int (1 : Int32)), .val (.ref o2), .val (.int (2 : Int32)), .val (.ref arr)] [(.ref arr)])) _
    refine XS.iloadN X11.here hx rfl (hb hby d3826_40) rfl ?_
    show Steps p.tables e below (T11.setTop (mkF m 41 #[.val (.ref o0), .val (.int (1 : Int32)), .val (.ref o2), .val (.int (2 : Int32)), .val (.ref arr)] [(.int (1 : Int32)), (.ref arr)])) _
    refine XS.aload X11.here hx rfl (hb hby d3826_41) rfl rfl ?_
    show Steps p.tables e below (T11.setTop (mkF m 43 #[.val (.ref o0), .val (.int (1 : Int32)), .val (.ref o2), .val (.int (2 : Int32)), .val (.ref arr)] [(.ref arr), (.int (1 : Int32)), (.ref arr)])) _
    refine XS.iloadN X11.here hx rfl (hb hby d3826_43) rfl ?_
    show Steps p.tables e below (T11.setTop (mkF m 44 #[.val (.ref o0), .val (.int (1 : Int32)), .val (.ref o2), .val (.int (2 : Int32)), .val (.ref arr)] [(.int (1 : Int32)), (.ref arr), (.int (1 : Int32)), (.ref arr)])) _
    refine XS.iconst X11.here hx rfl (hb hby d3826_44) ?_
    show Steps p.tables e below (T11.setTop (mkF m 45 #[.val (.ref o0), .val (.int (1 : Int32)), .val (.ref o2), .val (.int (2 : Int32)), .val (.ref arr)] [(.int (1 : Int32)), (.int (1 : Int32)), (.ref arr), (.int (1 : Int32)), (.ref arr)])) _
    refine XS.iadd X11.here hx rfl (hb hby d3826_45) rfl ?_
    show Steps p.tables e below (T11.setTop (mkF m 46 #[.val (.ref o0), .val (.int (1 : Int32)), .val (.ref o2), .val (.int (2 : Int32)), .val (.ref arr)] [(.int (2 : Int32)), (.ref arr), (.int (1 : Int32)), (.ref arr)])) _
    refine XS.iloadN X11.here hx rfl (hb hby d3826_46) rfl ?_
    show Steps p.tables e below (T11.setTop (mkF m 47 #[.val (.ref o0), .val (.int (1 : Int32)), .val (.ref o2), .val (.int (2 : Int32)), .val (.ref arr)] [(.int (2 : Int32)), (.int (2 : Int32)), (.ref arr), (.int (1 : Int32)), (.ref arr)])) _
    refine XS.iloadN X11.here hx rfl (hb hby d3826_47) rfl ?_
    show Steps p.tables e below (T11.setTop (mkF m 48 #[.val (.ref o0), .val (.int (1 : Int32)), .val (.ref o2), .val (.int (2 : Int32)), .val (.ref arr)] [(.int (1 : Int32)), (.int (2 : Int32)), (.int (2 : Int32)), (.ref arr), (.int (1 : Int32)), (.ref arr)])) _
    refine XS.isub X11.here hx rfl (hb hby d3826_48) rfl ?_
    show Steps p.tables e below (T11.setTop (mkF m 49 #[.val (.ref o0), .val (.int (1 : Int32)), .val (.ref o2), .val (.int (2 : Int32)), .val (.ref arr)] [(.int (1 : Int32)), (.int (2 : Int32)), (.ref arr), (.int (1 : Int32)), (.ref arr)])) _
    refine st16 _ ?_
    show Steps p.tables e below (T16.setTop (mkF m 52 #[.val (.ref o0), .val (.int (1 : Int32)), .val (.ref o2), .val (.int (2 : Int32)), .val (.ref arr)] [])) _
    refine XS.aload X16.here hx rfl (hb hby d3826_52) rfl rfl ?_
    show Steps p.tables e below (T16.setTop (mkF m 54 #[.val (.ref o0), .val (.int (1 : Int32)), .val (.ref o2), .val (.int (2 : Int32)), .val (.ref arr)] [(.ref arr)])) _
    refine XS.iloadN X16.here hx rfl (hb hby d3826_54) rfl ?_
    show Steps p.tables e below (T16.setTop (mkF m 55 #[.val (.ref o0), .val (.int (1 : Int32)), .val (.ref o2), .val (.int (2 : Int32)), .val (.ref arr)] [(.int (1 : Int32)), (.ref arr)])) _
    refine XS.aloadN X16.here hx rfl (hb hby d3826_55) rfl rfl ?_
    show Steps p.tables e below (T16.setTop (mkF m 56 #[.val (.ref o0), .val (.int (1 : Int32)), .val (.ref o2), .val (.int (2 : Int32)), .val (.ref arr)] [(.ref o2), (.int (1 : Int32)), (.ref arr)])) _
    refine st19 _ ?_
    show Steps p.tables e below (T19.setTop (mkF m 57 #[.val (.ref o0), .val (.int (1 : Int32)), .val (.ref o2), .val (.int (2 : Int32)), .val (.ref arr)] [])) _
    refine XS.aloadN X19.here hx rfl (hb hby d3826_57) rfl rfl ?_
    show Steps p.tables e below (T19.setTop (mkF m 58 #[.val (.ref o0), .val (.int (1 : Int32)), .val (.ref o2), .val (.int (2 : Int32)), .val (.ref arr)] [(.ref o0)])) _
    refine XS.iloadN X19.here hx rfl (hb hby d3826_58) rfl ?_
    show Steps p.tables e below (T19.setTop (mkF m 59 #[.val (.ref o0), .val (.int (1 : Int32)), .val (.ref o2), .val (.int (2 : Int32)), .val (.ref arr)] [(.int (2 : Int32)), (.ref o0)])) _
    refine XS.iconst X19.here hx rfl (hb hby d3826_59) ?_
    show Steps p.tables e below (T19.setTop (mkF m 60 #[.val (.ref o0), .val (.int (1 : Int32)), .val (.ref o2), .val (.int (2 : Int32)), .val (.ref arr)] [(.int (1 : Int32)), (.int (2 : Int32)), (.ref o0)])) _
    refine XS.iadd X19.here hx rfl (hb hby d3826_60) rfl ?_
    show Steps p.tables e below (T19.setTop (mkF m 61 #[.val (.ref o0), .val (.int (1 : Int32)), .val (.ref o2), .val (.int (2 : Int32)), .val (.ref arr)] [(.int (3 : Int32)), (.ref o0)])) _
    refine st22 _ ?_
    show Steps p.tables e below (T22.setTop (mkF m 64 #[.val (.ref o0), .val (.int (1 : Int32)), .val (.ref o2), .val (.int (2 : Int32)), .val (.ref arr)] [])) _
    exact X22.returnOut hx Bd.returns (hb hby d3826_64) hr
  · show Q3826_2_1 Z o0 o2 arr ka mc x0 x1 h0 n0 _ T22.heap _
    rw [e22]
    exact ⟨rfl, N22, J22, Fw22, c23, c24, c25⟩
theorem ef_3826_2_2 (m : MethodId) (o0 : Addr) (o2 : Addr) : entryFrame m #[(.ref o0), (.int (2 : Int32)), (.ref o2)] 5 = mkF m 0 #[.val (.ref o0), .val (.int (2 : Int32)), .val (.ref o2), .unset, .unset] [] := by first | (simp [entryFrame, mkF, argsToLocals, Value.category]; done) | rfl
def Q3826_2_2 (Z : State) (o0 : Addr) (o2 : Addr) (arr : Addr) (ka : ClassId) (mc : Int32) (x0 : Addr) (x1 : Addr) (h0 : Heap) (n0 : Nat) (v : Option Value) (h : Heap) (L : List Loc) : Prop := v = none ∧ Fr n0 L ∧ Keep h0 h [o0, arr] ∧ Fld Z h o0 "java/util/ArrayList" "size" "I" (.int (3 : Int32)) ∧ Fld Z h o0 "java/util/AbstractList" "modCount" "I" (.int (mc + (1 : Int32))) ∧ Fld Z h o0 "java/util/ArrayList" "elementData" "[Ljava/lang/Object;" (.ref arr) ∧ Arv Z h arr ka (.object "java/lang/Object") (10 : Int32) [(.ref x0), (.ref x1), (.ref o2)] .null
set_option maxRecDepth 65536 in
set_option maxHeartbeats 40000000 in
theorem rm3826_2_2 (l : Launch) (Z : State) (a0 : Array Value) (hw : ∀ d ∈ tables_1, d.before a0 Z = true) (ws : List Jvm.Cond) (o0 : Addr) (o2 : Addr) (arr : Addr) (ka : ClassId) (mc : Int32) (x0 : Addr) (x1 : Addr) (h0 : Heap) (n0 : Nat) (Z0 : n0 ≤ h0.size) (E_o0 : Exa Z h0 o0 "java/util/ArrayList") (F_elementData_o0 : Fld Z h0 o0 "java/util/ArrayList" "elementData" "[Ljava/lang/Object;" (.ref arr)) (V_arr : Arv Z h0 arr ka (.object "java/lang/Object") (10 : Int32) [(.ref x0), (.ref x1)] .null) (ovr_ka : Ovr Z ka "java/lang/Object") (F_size_o0 : Fld Z h0 o0 "java/util/ArrayList" "size" "I" (.int (2 : Int32))) (F_modCount_o0 : Fld Z h0 o0 "java/util/AbstractList" "modCount" "I" (.int mc)) (g_o0 : n0 ≤ o0) (g_arr : n0 ≤ arr) (E_o2 : Exa Z h0 o2 "com/example/tierline/tierline/csv/LineProblems$Problem") (E_x0 : Exa Z h0 x0 "com/example/tierline/tierline/csv/LineProblems$Problem") (E_x1 : Exa Z h0 x1 "com/example/tierline/tierline/csv/LineProblems$Problem") :
    MetFree l (⟨"java/util/ArrayList", "add", "(ILjava/lang/Object;)V"⟩ : MethodName) (head1 (Jvm.Cond.code (⟨"java/util/ArrayList", "add", "(ILjava/lang/Object;)V"⟩ : MethodName) jdk_38_method_26_code 5 none :: ws) ({ frames := 1, cells := 0, slots := 0, locals := 18 } : Room)) (fun a U => a = #[(.ref o0), (.int (2 : Int32)), (.ref o2)] ∧ Z.Warmed39 U.vm ∧ U.heap = h0) (fun _ _ _ _ _ => True) (fun _ U o U' => ∃ v L, o = .returned v ∧ Q3826_2_2 Z o0 o2 arr ka mc x0 x1 h0 n0 v U'.heap L ∧ FrameEnd U o U' L ({ frames := 1, cells := 0, slots := 0, locals := 18 } : Room).cells ({ frames := 1, cells := 0, slots := 0, locals := 18 } : Room).slots) := by
  refine MetFree.of_bodySF (plainFor_of_name pn_java_util_ArrayList) hisR ?_
  intro p e s m args below meth c s₁ Bd hml0 hP hK
  obtain ⟨rfl, hZ, hh⟩ := hP
  have hx := Bd.exec
  have hby := Bd.bytes
  have hml : c.maxLocals = 5 := hml0
  have hown : s.vm.findClass "java/util/ArrayList" = some m.cls := findClass_of_methodNamed Bd.named
  have hnm := (name_of_methodNamed Bd.named Bd.method).1
  have X0 : Stand p l e ({ frames := 1, cells := 0, slots := 0, locals := 18 } : Room) s m #[(.ref o0), (.int (2 : Int32)), (.ref o2)] below meth c s₁ [] 0 0 := Stand.of_body Bd
  have e0 : s₁.heap = h0 := by rw [← hh, Bd.state]; rfl
  have N0 := Fr.nil n0
  have pre0 : ∀ t, Steps p.tables e below (s₁.setTop (mkF m 0 #[.val (.ref o0), .val (.int (2 : Int32)), .val (.ref o2), .unset, .unset] [])) t → Steps p.tables e below (s₁.setTop (entryFrame m #[(.ref o0), (.int (2 : Int32)), (.ref o2)] 5)) t := fun t k => castTop (ef_3826_2_2 m o0 o2) k
  obtain ⟨cq1, qh1, qh1'⟩ := E_o0.cell
  -- pc 2: ArrayList.rangeCheckForAdd by rm3845
  obtain ⟨_, _, ⟨T1, L1, k1, n1⟩, -, X1, ⟨Lc1, hQ1, l1, y1, z1'⟩, st1⟩ := X0.privateBack hx (y := (⟨"java/util/ArrayList", "rangeCheckForAdd", "(I)V"⟩ : MethodName)) hown (mvT hZ (hw _ (List.mem_of_getElem? (i := 116) rfl))) (mvT hZ (hw _ (List.mem_of_getElem? (i := 117) rfl))) (own_selP hZ (hw _ (List.mem_of_getElem? (i := 18) rfl)) (hw _ (List.mem_of_getElem? (i := 118) rfl)) (hw _ (List.mem_of_getElem? (i := 117) rfl)) (by decide)) (Cond.privateMethod_at (mvP hZ (hw _ (List.mem_of_getElem? (i := 118) rfl)) (args := #[]))) (mvT hZ (hw _ (List.mem_of_getElem? (i := 120) rfl))) (by decide) (backOf (W := 0) (rm3845 l Z a0 hw [] o0 (2 : Int32) (2 : Int32) h0 n0 Z0 F_size_o0 (by decide) (by decide)) hZ (hw _ (List.mem_of_getElem? (i := 120) rfl)) (hw _ (List.mem_of_getElem? (i := 19) rfl)) (by decide) (by decide)) (g := (mkF m 2 #[.val (.ref o0), .val (.int (2 : Int32)), .val (.ref o2), .unset, .unset] [(.int (2 : Int32)), (.ref o0)])) rfl (by rw [hml]; rfl) (Steps.refl _) (a := o0) (by rw [e0]; exact qh1) qh1' (argsL := [(.int (2 : Int32))]) (rest := []) (lenOf pd_6 rfl) rfl (by show 2 * 0 + _ ≤ _; exact Nat.le_of_eq rfl) (hb hby d3826_2) (fun _ _ => ⟨rfl, e0, (by decide : 0 + 0 ≤ _), (by decide : 0 + 0 ≤ _)⟩)
  dsimp only [Pt.U, Pt.locs, Pt.cells, Pt.slots] at X1 l1 y1 z1' st1 hQ1
  subst l1 y1 z1'
  obtain ⟨rfl, N1q, K1⟩ := hQ1
  have N1 := Fr.app N0 N1q
  have J1 : Keep h0 T1.heap [o0, arr] := (Keep.refl h0 [o0, arr]).trans K1 all0
  have c2 : Fld Z T1.heap o0 "java/util/AbstractList" "modCount" "I" (.int mc) := (F_modCount_o0.keep K1 nin0)
  obtain ⟨T3, X3, e3, st3⟩ := getF X1 hx hZ hown (host := "") (Or.inl (hw _ (List.mem_of_getElem? (i := 121) rfl))) (Via.of (hw _ (List.mem_of_getElem? (i := 122) rfl))) rfl c2 (g := (mkF m 7 #[.val (.ref o0), .val (.int (2 : Int32)), .val (.ref o2), .unset, .unset] [(.ref o0), (.ref o0)])) rfl rfl (hb hby d3826_7)
  have c4 : Exa Z T1.heap o0 "java/util/ArrayList" := (E_o0.keep K1)
  have c5 : Arv Z T1.heap arr ka (.object "java/lang/Object") (10 : Int32) [(.ref x0), (.ref x1)] .null := (V_arr.keep K1 nin0)
  have ne6 : arr ≠ o0 := (Ne.symm (Exa.neArv c4 c5 (hw _ (List.mem_of_getElem? (i := 18) rfl))))
  obtain ⟨T7, h7, X7, e7, W7, st7⟩ := putF X3 hx hZ hown (host := "") (Or.inl (hw _ (List.mem_of_getElem? (i := 121) rfl))) (Via.of (hw _ (List.mem_of_getElem? (i := 122) rfl))) e3 c2 c4 (Or.inl (hw _ (List.mem_of_getElem? (i := 37) rfl))) (hw _ (List.mem_of_getElem? (i := 18) rfl)) (ty := .int) (by decide) rfl rfl (g := (mkF m 12 #[.val (.ref o0), .val (.int (2 : Int32)), .val (.ref o2), .unset, .unset] [(.int (mc + (1 : Int32))), (.ref o0)])) rfl rfl (hb hby d3826_12)
  have Fw7 : Fld Z h7 o0 "java/util/AbstractList" "modCount" "I" (.int (mc + (1 : Int32))) := c2.same W7
  have J7 : Keep h0 h7 [o0, arr] := J1.wr W7 (Or.inl (List.mem_of_getElem? (i := 0) rfl))
  have N7 := Fr.snoc X7 N1 g_o0
  have c8 : Fld Z h7 o0 "java/util/ArrayList" "size" "I" (.int (2 : Int32)) := ((F_size_o0.keep K1 nin0).other W7 (Or.inr (slot_ne (Or.inl (hw _ (List.mem_of_getElem? (i := 107) rfl))) (Or.inl (hw _ (List.mem_of_getElem? (i := 37) rfl))) (by decide) (t := .int) (t' := .int) (by decide) (by decide))))
  obtain ⟨T9, X9, e9, st9⟩ := getF X7 hx hZ hown (host := "") (Or.inl (hw _ (List.mem_of_getElem? (i := 106) rfl))) Via.refl e7 c8 (g := (mkF m 16 #[.val (.ref o0), .val (.int (2 : Int32)), .val (.ref o2), .unset, .unset] [(.ref o0)])) rfl rfl (hb hby d3826_16)
  have c10 : Fld Z h7 o0 "java/util/ArrayList" "elementData" "[Ljava/lang/Object;" (.ref arr) := ((F_elementData_o0.keep K1 nin0).other W7 (Or.inr (slot_ne (Or.inl (hw _ (List.mem_of_getElem? (i := 40) rfl))) (Or.inl (hw _ (List.mem_of_getElem? (i := 37) rfl))) (by decide) (t := (.array (.object "java/lang/Object"))) (t' := .int) (by decide) (by decide))))
  obtain ⟨T11, X11, e11, st11⟩ := getF X9 hx hZ hown (host := "") (Or.inl (hw _ (List.mem_of_getElem? (i := 39) rfl))) Via.refl e9 c10 (g := (mkF m 22 #[.val (.ref o0), .val (.int (2 : Int32)), .val (.ref o2), .val (.int (2 : Int32)), .unset] [(.ref o0), (.int (2 : Int32))])) rfl rfl (hb hby d3826_22)
  have c12 : Arv Z h7 arr ka (.object "java/lang/Object") (10 : Int32) [(.ref x0), (.ref x1)] .null := (c5.other W7 ne6)
  obtain ⟨cl13, Ar13, -, Sz13, Nn13, -, -⟩ := id c12
  obtain ⟨cq14, Aq14, qq14, -⟩ := id c12
  obtain ⟨T15, h15, L15, X15, e15, N15, K15, Vc15, st15⟩ := cpA X11 hx hZ hown (hw _ (List.mem_of_getElem? (i := 139) rfl)) (hw _ (List.mem_of_getElem? (i := 142) rfl)) (hw _ (List.mem_of_getElem? (i := 140) rfl)) (hw _ (List.mem_of_getElem? (i := 141) rfl)) e11 c12 (c12.pad (pad_rep [(.ref x0), (.ref x1)] .null 1)) (Or.inr ⟨rfl, rfl, trivial⟩) (by decide) (by decide) (by decide) (by decide) (by decide) (us := []) rfl (Nat.le_of_ble_eq_true rfl) N7 g_arr (g := (mkF m 49 #[.val (.ref o0), .val (.int (2 : Int32)), .val (.ref o2), .val (.int (2 : Int32)), .val (.ref arr)] [(.int (0 : Int32)), (.int (3 : Int32)), (.ref arr), (.int (2 : Int32)), (.ref arr)])) rfl (by rw [hml]; rfl) (rest := []) rfl (hb hby d3826_49) (by decide) (W := 0) (by show 2 * 0 + _ ≤ _; exact Nat.le_of_eq rfl) (by decide)
  have J15 : Keep h0 h15 [o0, arr] := J7.trans K15 (allS (Or.inl (List.mem_of_getElem? (i := 1) rfl)) all0)
  have V15 : Arv Z h15 arr ka (.object "java/lang/Object") (10 : Int32) [(.ref x0), (.ref x1), .null] .null := Vc15
  have c16 : Exa Z h15 o2 "com/example/tierline/tierline/csv/LineProblems$Problem" := (((E_o2.keep K1).wr W7).keep K15)
  obtain ⟨cl17, Ar17, qk17, Sz17, Nn17, Hs17, Gs17⟩ := id V15
  have hin17 : ¬ ((2 : Int32) < 0 ∨ cl17.slots.size ≤ ((2 : Int32)).toNatClampNeg) := inb_of Sz17 ⟨by decide, by decide⟩
  obtain ⟨T18, h18, X18, e18, W18, st18⟩ := stR X15 hx hZ e15 Ar17 (j := (2 : Int32)) hin17 rfl (Sto.ofV Ar17 qk17 ovr_ka (Ins.of_exa c16 (hw _ (List.mem_of_getElem? (i := 143) rfl)))) (g := (mkF m 56 #[.val (.ref o0), .val (.int (2 : Int32)), .val (.ref o2), .val (.int (2 : Int32)), .val (.ref arr)] [(.ref o2), (.int (2 : Int32)), (.ref arr)])) rfl rfl (hb hby d3826_56)
  have V18 : Arv Z h18 arr ka (.object "java/lang/Object") (10 : Int32) [(.ref x0), (.ref x1), (.ref o2)] .null := Arv.set Ar17 qk17 Sz17 Nn17 Hs17 Gs17 rfl W18 2 rfl (Nat.le_of_ble_eq_true rfl)
  have J18 : Keep h0 h18 [o0, arr] := J15.wr W18 (Or.inl (List.mem_of_getElem? (i := 1) rfl))
  have N18 := Fr.snoc X18 N15 g_arr
  have c19 : Fld Z h18 o0 "java/util/ArrayList" "size" "I" (.int (2 : Int32)) := ((c8.keep K15 (ninS (Ne.symm ne6) nin0)).other W18 (Or.inl (Ne.symm ne6)))
  have c20 : Exa Z h18 o0 "java/util/ArrayList" := (((c4.wr W7).keep K15).wr W18)
  obtain ⟨T21, h21, X21, e21, W21, st21⟩ := putF X18 hx hZ hown (host := "") (Or.inl (hw _ (List.mem_of_getElem? (i := 106) rfl))) Via.refl e18 c19 c20 (Or.inl (hw _ (List.mem_of_getElem? (i := 107) rfl))) (hw _ (List.mem_of_getElem? (i := 18) rfl)) (ty := .int) (by decide) rfl rfl (g := (mkF m 61 #[.val (.ref o0), .val (.int (2 : Int32)), .val (.ref o2), .val (.int (2 : Int32)), .val (.ref arr)] [(.int (3 : Int32)), (.ref o0)])) rfl rfl (hb hby d3826_61)
  have Fw21 : Fld Z h21 o0 "java/util/ArrayList" "size" "I" (.int (3 : Int32)) := c19.same W21
  have J21 : Keep h0 h21 [o0, arr] := J18.wr W21 (Or.inl (List.mem_of_getElem? (i := 0) rfl))
  have N21 := Fr.snoc X21 N18 g_o0
  have c22 : Fld Z h21 o0 "java/util/AbstractList" "modCount" "I" (.int (mc + (1 : Int32))) := (((Fw7.keep K15 (ninS (Ne.symm ne6) nin0)).other W18 (Or.inl (Ne.symm ne6))).other W21 (Or.inr (slot_ne (Or.inl (hw _ (List.mem_of_getElem? (i := 37) rfl))) (Or.inl (hw _ (List.mem_of_getElem? (i := 107) rfl))) (by decide) (t := .int) (t' := .int) (by decide) (by decide))))
  have c23 : Fld Z h21 o0 "java/util/ArrayList" "elementData" "[Ljava/lang/Object;" (.ref arr) := (((c10.keep K15 (ninS (Ne.symm ne6) nin0)).other W18 (Or.inl (Ne.symm ne6))).other W21 (Or.inr (slot_ne (Or.inl (hw _ (List.mem_of_getElem? (i := 40) rfl))) (Or.inl (hw _ (List.mem_of_getElem? (i := 107) rfl))) (by decide) (t := (.array (.object "java/lang/Object"))) (t' := .int) (by decide) (by decide))))
  have c24 : Arv Z h21 arr ka (.object "java/lang/Object") (10 : Int32) [(.ref x0), (.ref x1), (.ref o2)] .null := (V18.other W21 ne6)
  obtain ⟨fs, hr, hrun, hended, hW, hsame⟩ := X21.leave (v := none) (fun _ => rfl)
  refine ⟨_, _, pre0 _ ?_, hrun, hended, _, _, rfl, ?_, ⟨_, rfl⟩, hW, hsame.mono (by decide) (by decide)⟩
  · show Steps p.tables e below (s₁.setTop (mkF m 0 #[.val (.ref o0), .val (.int (2 : Int32)), .val (.ref o2), .unset, .unset] [])) _
    refine XS.aloadN X0.here hx rfl (hb hby d3826_0) rfl rfl ?_
    show Steps p.tables e below (s₁.setTop (mkF m 1 #[.val (.ref o0), .val (.int (2 : Int32)), .val (.ref o2), .unset, .unset] [(.ref o0)])) _
    refine XS.iloadN X0.here hx rfl (hb hby d3826_1) rfl ?_
    show Steps p.tables e below (s₁.setTop (mkF m 2 #[.val (.ref o0), .val (.int (2 : Int32)), .val (.ref o2), .unset, .unset] [(.int (2 : Int32)), (.ref o0)])) _
    refine st1.trans ?_
    show Steps p.tables e below (T1.setTop (mkF m 5 #[.val (.ref o0), .val (.int (2 : Int32)), .val (.ref o2), .unset, .unset] [])) _
    refine XS.aloadN X1.here hx rfl (hb hby d3826_5) rfl rfl ?_
    show Steps p.tables e below (T1.setTop (mkF m 6 #[.val (.ref o0), .val (.int (2 : Int32)), .val (.ref o2), .unset, .unset] [(.ref o0)])) _
    refine XS.dup X1.here hx rfl (hb hby d3826_6) rfl rfl ?_
    show Steps p.tables e below (T1.setTop (mkF m 7 #[.val (.ref o0), .val (.int (2 : Int32)), .val (.ref o2), .unset, .unset] [(.ref o0), (.ref o0)])) _
    refine st3 _ ?_
    show Steps p.tables e below (T3.setTop (mkF m 10 #[.val (.ref o0), .val (.int (2 : Int32)), .val (.ref o2), .unset, .unset] [(.int mc), (.ref o0)])) _
    refine XS.iconst X3.here hx rfl (hb hby d3826_10) ?_
    show Steps p.tables e below (T3.setTop (mkF m 11 #[.val (.ref o0), .val (.int (2 : Int32)), .val (.ref o2), .unset, .unset] [(.int (1 : Int32)), (.int mc), (.ref o0)])) _
    refine XS.iadd X3.here hx rfl (hb hby d3826_11) rfl ?_
    show Steps p.tables e below (T3.setTop (mkF m 12 #[.val (.ref o0), .val (.int (2 : Int32)), .val (.ref o2), .unset, .unset] [(.int (mc + (1 : Int32))), (.ref o0)])) _
    refine st7 _ ?_
    show Steps p.tables e below (T7.setTop (mkF m 15 #[.val (.ref o0), .val (.int (2 : Int32)), .val (.ref o2), .unset, .unset] [])) _
    refine XS.aloadN X7.here hx rfl (hb hby d3826_15) rfl rfl ?_
    show Steps p.tables e below (T7.setTop (mkF m 16 #[.val (.ref o0), .val (.int (2 : Int32)), .val (.ref o2), .unset, .unset] [(.ref o0)])) _
    refine st9 _ ?_
    show Steps p.tables e below (T9.setTop (mkF m 19 #[.val (.ref o0), .val (.int (2 : Int32)), .val (.ref o2), .unset, .unset] [(.int (2 : Int32))])) _
    refine XS.dup X9.here hx rfl (hb hby d3826_19) rfl rfl ?_
    show Steps p.tables e below (T9.setTop (mkF m 20 #[.val (.ref o0), .val (.int (2 : Int32)), .val (.ref o2), .unset, .unset] [(.int (2 : Int32)), (.int (2 : Int32))])) _
    refine XS.istoreN X9.here hx rfl (hb hby d3826_20) rfl (l' := #[.val (.ref o0), .val (.int (2 : Int32)), .val (.ref o2), .val (.int (2 : Int32)), .unset]) rfl ?_
    show Steps p.tables e below (T9.setTop (mkF m 21 #[.val (.ref o0), .val (.int (2 : Int32)), .val (.ref o2), .val (.int (2 : Int32)), .unset] [(.int (2 : Int32))])) _
    refine XS.aloadN X9.here hx rfl (hb hby d3826_21) rfl rfl ?_
    show Steps p.tables e below (T9.setTop (mkF m 22 #[.val (.ref o0), .val (.int (2 : Int32)), .val (.ref o2), .val (.int (2 : Int32)), .unset] [(.ref o0), (.int (2 : Int32))])) _
    refine st11 _ ?_
    show Steps p.tables e below (T11.setTop (mkF m 25 #[.val (.ref o0), .val (.int (2 : Int32)), .val (.ref o2), .val (.int (2 : Int32)), .unset] [(.ref arr), (.int (2 : Int32))])) _
    refine XS.dup X11.here hx rfl (hb hby d3826_25) rfl rfl ?_
    show Steps p.tables e below (T11.setTop (mkF m 26 #[.val (.ref o0), .val (.int (2 : Int32)), .val (.ref o2), .val (.int (2 : Int32)), .unset] [(.ref arr), (.ref arr), (.int (2 : Int32))])) _
    refine XS.astore X11.here hx rfl (hb hby d3826_26) rfl rfl (l' := #[.val (.ref o0), .val (.int (2 : Int32)), .val (.ref o2), .val (.int (2 : Int32)), .val (.ref arr)]) rfl ?_
    show Steps p.tables e below (T11.setTop (mkF m 28 #[.val (.ref o0), .val (.int (2 : Int32)), .val (.ref o2), .val (.int (2 : Int32)), .val (.ref arr)] [(.ref arr), (.int (2 : Int32))])) _
    refine X11.arraylength hx (by rw [e11]; exact Ar13.1) (State.isArrayOf_alike hZ.alike Ar13.2.1) (g := (mkF m 28 #[.val (.ref o0), .val (.int (2 : Int32)), .val (.ref o2), .val (.int (2 : Int32)), .val (.ref arr)] [(.ref arr), (.int (2 : Int32))])) rfl rfl (hb hby d3826_28) _ ?_
    rw [len_of Sz13 Nn13]
    show Steps p.tables e below (T11.setTop (mkF m 29 #[.val (.ref o0), .val (.int (2 : Int32)), .val (.ref o2), .val (.int (2 : Int32)), .val (.ref arr)] [(.int (10 : Int32)), (.int (2 : Int32))])) _
    refine XS.icmpYes X11.here hx rfl (pc0 := 29) (pc' := 38) rfl (hb hby d3826_29) rfl (feq (by decide)).2 (by decide) (by decide) ?_
    show Steps p.tables e below (T11.setTop (mkF m 38 #[.val (.ref o0), .val (.int (2 : Int32)), .val (.ref o2), .val (.int (2 : Int32)), .val (.ref arr)] [])) _
    refine XS.aload X11.here hx rfl (hb hby d3826_38) rfl rfl ?_
    show Steps p.tables e below (T11.setTop (mkF m 40 #[.val (.ref o0), .val (.int (2 : Int32)), .val (.ref o2), .val (.int (2 : Int32)), .val (.ref arr)] [(.ref arr)])) _
    refine XS.iloadN X11.here hx rfl (hb hby d3826_40) rfl ?_
    show Steps p.tables e below (T11.setTop (mkF m 41 #[.val (.ref o0), .val (.int (2 : Int32)), .val (.ref o2), .val (.int (2 : Int32)), .val (.ref arr)] [(.int (2 : Int32)), (.ref arr)])) _
    refine XS.aload X11.here hx rfl (hb hby d3826_41) rfl rfl ?_
    show Steps p.tables e below (T11.setTop (mkF m 43 #[.val (.ref o0), .val (.int (2 : Int32)), .val (.ref o2), .val (.int (2 : Int32)), .val (.ref arr)] [(.ref arr), (.int (2 : Int32)), (.ref arr)])) _
    refine XS.iloadN X11.here hx rfl (hb hby d3826_43) rfl ?_
    show Steps p.tables e below (T11.setTop (mkF m 44 #[.val (.ref o0), .val (.int (2 : Int32)), .val (.ref o2), .val (.int (2 : Int32)), .val (.ref arr)] [(.int (2 : Int32)), (.ref arr), (.int (2 : Int32)), (.ref arr)])) _
    refine XS.iconst X11.here hx rfl (hb hby d3826_44) ?_
    show Steps p.tables e below (T11.setTop (mkF m 45 #[.val (.ref o0), .val (.int (2 : Int32)), .val (.ref o2), .val (.int (2 : Int32)), .val (.ref arr)] [(.int (1 : Int32)), (.int (2 : Int32)), (.ref arr), (.int (2 : Int32)), (.ref arr)])) _
    refine XS.iadd X11.here hx rfl (hb hby d3826_45) rfl ?_
    show Steps p.tables e below (T11.setTop (mkF m 46 #[.val (.ref o0), .val (.int (2 : Int32)), .val (.ref o2), .val (.int (2 : Int32)), .val (.ref arr)] [(.int (3 : Int32)), (.ref arr), (.int (2 : Int32)), (.ref arr)])) _
    refine XS.iloadN X11.here hx rfl (hb hby d3826_46) rfl ?_
    show Steps p.tables e below (T11.setTop (mkF m 47 #[.val (.ref o0), .val (.int (2 : Int32)), .val (.ref o2), .val (.int (2 : Int32)), .val (.ref arr)] [(.int (2 : Int32)), (.int (3 : Int32)), (.ref arr), (.int (2 : Int32)), (.ref arr)])) _
    refine XS.iloadN X11.here hx rfl (hb hby d3826_47) rfl ?_
    show Steps p.tables e below (T11.setTop (mkF m 48 #[.val (.ref o0), .val (.int (2 : Int32)), .val (.ref o2), .val (.int (2 : Int32)), .val (.ref arr)] [(.int (2 : Int32)), (.int (2 : Int32)), (.int (3 : Int32)), (.ref arr), (.int (2 : Int32)), (.ref arr)])) _
    refine XS.isub X11.here hx rfl (hb hby d3826_48) rfl ?_
    show Steps p.tables e below (T11.setTop (mkF m 49 #[.val (.ref o0), .val (.int (2 : Int32)), .val (.ref o2), .val (.int (2 : Int32)), .val (.ref arr)] [(.int (0 : Int32)), (.int (3 : Int32)), (.ref arr), (.int (2 : Int32)), (.ref arr)])) _
    refine st15 _ ?_
    show Steps p.tables e below (T15.setTop (mkF m 52 #[.val (.ref o0), .val (.int (2 : Int32)), .val (.ref o2), .val (.int (2 : Int32)), .val (.ref arr)] [])) _
    refine XS.aload X15.here hx rfl (hb hby d3826_52) rfl rfl ?_
    show Steps p.tables e below (T15.setTop (mkF m 54 #[.val (.ref o0), .val (.int (2 : Int32)), .val (.ref o2), .val (.int (2 : Int32)), .val (.ref arr)] [(.ref arr)])) _
    refine XS.iloadN X15.here hx rfl (hb hby d3826_54) rfl ?_
    show Steps p.tables e below (T15.setTop (mkF m 55 #[.val (.ref o0), .val (.int (2 : Int32)), .val (.ref o2), .val (.int (2 : Int32)), .val (.ref arr)] [(.int (2 : Int32)), (.ref arr)])) _
    refine XS.aloadN X15.here hx rfl (hb hby d3826_55) rfl rfl ?_
    show Steps p.tables e below (T15.setTop (mkF m 56 #[.val (.ref o0), .val (.int (2 : Int32)), .val (.ref o2), .val (.int (2 : Int32)), .val (.ref arr)] [(.ref o2), (.int (2 : Int32)), (.ref arr)])) _
    refine st18 _ ?_
    show Steps p.tables e below (T18.setTop (mkF m 57 #[.val (.ref o0), .val (.int (2 : Int32)), .val (.ref o2), .val (.int (2 : Int32)), .val (.ref arr)] [])) _
    refine XS.aloadN X18.here hx rfl (hb hby d3826_57) rfl rfl ?_
    show Steps p.tables e below (T18.setTop (mkF m 58 #[.val (.ref o0), .val (.int (2 : Int32)), .val (.ref o2), .val (.int (2 : Int32)), .val (.ref arr)] [(.ref o0)])) _
    refine XS.iloadN X18.here hx rfl (hb hby d3826_58) rfl ?_
    show Steps p.tables e below (T18.setTop (mkF m 59 #[.val (.ref o0), .val (.int (2 : Int32)), .val (.ref o2), .val (.int (2 : Int32)), .val (.ref arr)] [(.int (2 : Int32)), (.ref o0)])) _
    refine XS.iconst X18.here hx rfl (hb hby d3826_59) ?_
    show Steps p.tables e below (T18.setTop (mkF m 60 #[.val (.ref o0), .val (.int (2 : Int32)), .val (.ref o2), .val (.int (2 : Int32)), .val (.ref arr)] [(.int (1 : Int32)), (.int (2 : Int32)), (.ref o0)])) _
    refine XS.iadd X18.here hx rfl (hb hby d3826_60) rfl ?_
    show Steps p.tables e below (T18.setTop (mkF m 61 #[.val (.ref o0), .val (.int (2 : Int32)), .val (.ref o2), .val (.int (2 : Int32)), .val (.ref arr)] [(.int (3 : Int32)), (.ref o0)])) _
    refine st21 _ ?_
    show Steps p.tables e below (T21.setTop (mkF m 64 #[.val (.ref o0), .val (.int (2 : Int32)), .val (.ref o2), .val (.int (2 : Int32)), .val (.ref arr)] [])) _
    exact X21.returnOut hx Bd.returns (hb hby d3826_64) hr
  · show Q3826_2_2 Z o0 o2 arr ka mc x0 x1 h0 n0 _ T21.heap _
    rw [e21]
    exact ⟨rfl, N21, J21, Fw21, c22, c23, c24⟩
theorem d4111_0 : decode jdk_41_method_11_code 0 = .ok (.iload_n 0, 1) := by decide +kernel
theorem d4111_1 : decode jdk_41_method_11_code 1 = .ok (.ifCond .lt 8, 3) := by decide +kernel
theorem d4111_4 : decode jdk_41_method_11_code 4 = .ok (.iload_n 0, 1) := by decide +kernel
theorem d4111_5 : decode jdk_41_method_11_code 5 = .ok (.iload_n 1, 1) := by decide +kernel
theorem d4111_6 : decode jdk_41_method_11_code 6 = .ok (.if_icmp .lt 10, 3) := by decide +kernel
theorem d4111_16 : decode jdk_41_method_11_code 16 = .ok (.iload_n 0, 1) := by decide +kernel
theorem d4111_17 : decode jdk_41_method_11_code 17 = .ok (.ireturn, 1) := by decide +kernel
theorem pn_jdk_internal_util_Preconditions : plainName "jdk/internal/util/Preconditions" = true := by first | (simp [plainName, overriddenIn]; done) | decide +kernel
theorem ef_4111_0_1 (m : MethodId)  : entryFrame m #[(.int (0 : Int32)), (.int (1 : Int32)), .null] 3 = mkF m 0 #[.val (.int (0 : Int32)), .val (.int (1 : Int32)), .val .null] [] := by first | (simp [entryFrame, mkF, argsToLocals, Value.category]; done) | rfl
def Q4111_0_1 (Z : State)  (h0 : Heap) (n0 : Nat) (v : Option Value) (h : Heap) (L : List Loc) : Prop := v = some (.int (0 : Int32)) ∧ Fr n0 L ∧ Keep h0 h []
set_option maxRecDepth 65536 in
set_option maxHeartbeats 40000000 in
theorem rm4111_0_1 (l : Launch) (Z : State) (a0 : Array Value) (hw : ∀ d ∈ tables_1, d.before a0 Z = true) (ws : List Jvm.Cond)  (h0 : Heap) (n0 : Nat) (Z0 : n0 ≤ h0.size) :
    MetFree l (⟨"jdk/internal/util/Preconditions", "checkIndex", "(IILjava/util/function/BiFunction;)I"⟩ : MethodName) (head1 (Jvm.Cond.code (⟨"jdk/internal/util/Preconditions", "checkIndex", "(IILjava/util/function/BiFunction;)I"⟩ : MethodName) jdk_41_method_11_code 3 (some .int) :: ws) ({ frames := 0, cells := 0, slots := 0, locals := 0 } : Room)) (fun a U => a = #[(.int (0 : Int32)), (.int (1 : Int32)), .null] ∧ Z.Warmed39 U.vm ∧ U.heap = h0) (fun _ _ _ _ _ => True) (fun _ U o U' => ∃ v L, o = .returned v ∧ Q4111_0_1 Z  h0 n0 v U'.heap L ∧ FrameEnd U o U' L ({ frames := 0, cells := 0, slots := 0, locals := 0 } : Room).cells ({ frames := 0, cells := 0, slots := 0, locals := 0 } : Room).slots) := by
  refine MetFree.of_bodySF (plainFor_of_name pn_jdk_internal_util_Preconditions) hisR ?_
  intro p e s m args below meth c s₁ Bd hml0 hP hK
  obtain ⟨rfl, hZ, hh⟩ := hP
  have hx := Bd.exec
  have hby := Bd.bytes
  have hml : c.maxLocals = 3 := hml0
  have hown : s.vm.findClass "jdk/internal/util/Preconditions" = some m.cls := findClass_of_methodNamed Bd.named
  have hnm := (name_of_methodNamed Bd.named Bd.method).1
  have X0 : Stand p l e ({ frames := 0, cells := 0, slots := 0, locals := 0 } : Room) s m #[(.int (0 : Int32)), (.int (1 : Int32)), .null] below meth c s₁ [] 0 0 := Stand.of_body Bd
  have e0 : s₁.heap = h0 := by rw [← hh, Bd.state]; rfl
  have N0 := Fr.nil n0
  have pre0 : ∀ t, Steps p.tables e below (s₁.setTop (mkF m 0 #[.val (.int (0 : Int32)), .val (.int (1 : Int32)), .val .null] [])) t → Steps p.tables e below (s₁.setTop (entryFrame m #[(.int (0 : Int32)), (.int (1 : Int32)), .null] 3)) t := fun t k => castTop (ef_4111_0_1 m ) k
  obtain ⟨fs, hr, hrun, hended, hW, hsame⟩ := X0.leave (v := some (.int (0 : Int32))) (fun h => by rw [Bd.returns] at h; cases h)
  refine ⟨_, _, pre0 _ ?_, hrun, hended, _, _, rfl, ?_, ⟨_, rfl⟩, hW, hsame.mono (by decide) (by decide)⟩
  · show Steps p.tables e below (s₁.setTop (mkF m 0 #[.val (.int (0 : Int32)), .val (.int (1 : Int32)), .val .null] [])) _
    refine XS.iloadN X0.here hx rfl (hb hby d4111_0) rfl ?_
    show Steps p.tables e below (s₁.setTop (mkF m 1 #[.val (.int (0 : Int32)), .val (.int (1 : Int32)), .val .null] [(.int (0 : Int32))])) _
    refine XS.ifNo X0.here hx rfl (hb hby d4111_1) rfl ((if0 _ _).trans (flt (by decide)).1) ?_
    show Steps p.tables e below (s₁.setTop (mkF m 4 #[.val (.int (0 : Int32)), .val (.int (1 : Int32)), .val .null] [])) _
    refine XS.iloadN X0.here hx rfl (hb hby d4111_4) rfl ?_
    show Steps p.tables e below (s₁.setTop (mkF m 5 #[.val (.int (0 : Int32)), .val (.int (1 : Int32)), .val .null] [(.int (0 : Int32))])) _
    refine XS.iloadN X0.here hx rfl (hb hby d4111_5) rfl ?_
    show Steps p.tables e below (s₁.setTop (mkF m 6 #[.val (.int (0 : Int32)), .val (.int (1 : Int32)), .val .null] [(.int (1 : Int32)), (.int (0 : Int32))])) _
    refine XS.icmpYes X0.here hx rfl (pc0 := 6) (pc' := 16) rfl (hb hby d4111_6) rfl (tlt (by decide)).1 (by decide) (by decide) ?_
    show Steps p.tables e below (s₁.setTop (mkF m 16 #[.val (.int (0 : Int32)), .val (.int (1 : Int32)), .val .null] [])) _
    refine XS.iloadN X0.here hx rfl (hb hby d4111_16) rfl ?_
    show Steps p.tables e below (s₁.setTop (mkF m 17 #[.val (.int (0 : Int32)), .val (.int (1 : Int32)), .val .null] [(.int (0 : Int32))])) _
    exact retI X0 hx Bd.returns (hb hby d4111_17) hr
  · show Q4111_0_1 Z  h0 n0 _ s₁.heap _
    rw [e0]
    exact ⟨rfl, N0, (Keep.refl h0 [])⟩
theorem d3117_0 : decode jdk_31_method_17_code 0 = .ok (.iload_n 0, 1) := by decide +kernel
theorem d3117_1 : decode jdk_31_method_17_code 1 = .ok (.iload_n 1, 1) := by decide +kernel
theorem d3117_2 : decode jdk_31_method_17_code 2 = .ok (.aconst_null, 1) := by decide +kernel
theorem d3117_3 : decode jdk_31_method_17_code 3 = .ok (.invokestatic 105, 3) := by decide +kernel
theorem d3117_6 : decode jdk_31_method_17_code 6 = .ok (.ireturn, 1) := by decide +kernel
theorem pn_java_util_Objects : plainName "java/util/Objects" = true := by first | (simp [plainName, overriddenIn]; done) | decide +kernel
theorem pd_8 : parseMethodDescriptor "(IILjava/util/function/BiFunction;)I" = some ⟨[.int, .int, (.object "java/util/function/BiFunction")], some .int⟩ := by decide +kernel
theorem ef_3117_0_1 (m : MethodId)  : entryFrame m #[(.int (0 : Int32)), (.int (1 : Int32))] 2 = mkF m 0 #[.val (.int (0 : Int32)), .val (.int (1 : Int32))] [] := by first | (simp [entryFrame, mkF, argsToLocals, Value.category]; done) | rfl
def Q3117_0_1 (Z : State)  (h0 : Heap) (n0 : Nat) (v : Option Value) (h : Heap) (L : List Loc) : Prop := v = some (.int (0 : Int32)) ∧ Fr n0 L ∧ Keep h0 h []
set_option maxRecDepth 65536 in
set_option maxHeartbeats 40000000 in
theorem rm3117_0_1 (l : Launch) (Z : State) (a0 : Array Value) (hw : ∀ d ∈ tables_1, d.before a0 Z = true) (ws : List Jvm.Cond)  (h0 : Heap) (n0 : Nat) (Z0 : n0 ≤ h0.size) :
    MetFree l (⟨"java/util/Objects", "checkIndex", "(II)I"⟩ : MethodName) (head1 (Jvm.Cond.code (⟨"java/util/Objects", "checkIndex", "(II)I"⟩ : MethodName) jdk_31_method_17_code 2 (some .int) :: ws) ({ frames := 1, cells := 0, slots := 0, locals := 14 } : Room)) (fun a U => a = #[(.int (0 : Int32)), (.int (1 : Int32))] ∧ Z.Warmed39 U.vm ∧ U.heap = h0) (fun _ _ _ _ _ => True) (fun _ U o U' => ∃ v L, o = .returned v ∧ Q3117_0_1 Z  h0 n0 v U'.heap L ∧ FrameEnd U o U' L ({ frames := 1, cells := 0, slots := 0, locals := 14 } : Room).cells ({ frames := 1, cells := 0, slots := 0, locals := 14 } : Room).slots) := by
  refine MetFree.of_bodySF (plainFor_of_name pn_java_util_Objects) hisR ?_
  intro p e s m args below meth c s₁ Bd hml0 hP hK
  obtain ⟨rfl, hZ, hh⟩ := hP
  have hx := Bd.exec
  have hby := Bd.bytes
  have hml : c.maxLocals = 2 := hml0
  have hown : s.vm.findClass "java/util/Objects" = some m.cls := findClass_of_methodNamed Bd.named
  have hnm := (name_of_methodNamed Bd.named Bd.method).1
  have X0 : Stand p l e ({ frames := 1, cells := 0, slots := 0, locals := 14 } : Room) s m #[(.int (0 : Int32)), (.int (1 : Int32))] below meth c s₁ [] 0 0 := Stand.of_body Bd
  have e0 : s₁.heap = h0 := by rw [← hh, Bd.state]; rfl
  have N0 := Fr.nil n0
  have pre0 : ∀ t, Steps p.tables e below (s₁.setTop (mkF m 0 #[.val (.int (0 : Int32)), .val (.int (1 : Int32))] [])) t → Steps p.tables e below (s₁.setTop (entryFrame m #[(.int (0 : Int32)), (.int (1 : Int32))] 2)) t := fun t k => castTop (ef_3117_0_1 m ) k
  -- pc 3: Preconditions.checkIndex by rm4111_0_1
  obtain ⟨_, _, ⟨T1, L1, k1, n1⟩, -, X1, ⟨Lc1, hQ1, l1, y1, z1'⟩, st1⟩ := Jvm.LawKit.callS X0 hx (y := (⟨"jdk/internal/util/Preconditions", "checkIndex", "(IILjava/util/function/BiFunction;)I"⟩ : MethodName)) hown (mvT hZ (hw _ (List.mem_of_getElem? (i := 161) rfl))) (mvT hZ (hw _ (List.mem_of_getElem? (i := 162) rfl))) (mvT hZ (hw _ (List.mem_of_getElem? (i := 163) rfl))) (mvT hZ (hw _ (List.mem_of_getElem? (i := 164) rfl))) (by decide) (backOf (W := 0) (rm4111_0_1 l Z a0 hw []  h0 n0 Z0 ) hZ (hw _ (List.mem_of_getElem? (i := 164) rfl)) (hw _ (List.mem_of_getElem? (i := 163) rfl)) (by decide) (by decide)) (g := (mkF m 3 #[.val (.int (0 : Int32)), .val (.int (1 : Int32))] [.null, (.int (1 : Int32)), (.int (0 : Int32))])) rfl (by rw [hml]; rfl) (argsL := [(.int (0 : Int32)), (.int (1 : Int32)), .null]) (rest := []) (lenOf pd_8 rfl) rfl (by show 2 * 0 + _ ≤ _; exact Nat.le_of_eq rfl) (hb hby d3117_3) (fun _ _ => ⟨rfl, e0, (by decide : 0 + 0 ≤ _), (by decide : 0 + 0 ≤ _)⟩)
  dsimp only [Pt.U, Pt.locs, Pt.cells, Pt.slots] at X1 l1 y1 z1' st1 hQ1
  subst l1 y1 z1'
  obtain ⟨rfl, N1q, K1⟩ := hQ1
  have N1 := Fr.app N0 N1q
  have J1 : Keep h0 T1.heap [] := (Keep.refl h0 []).trans K1 all0
  obtain ⟨fs, hr, hrun, hended, hW, hsame⟩ := X1.leave (v := some (.int (0 : Int32))) (fun h => by rw [Bd.returns] at h; cases h)
  refine ⟨_, _, pre0 _ ?_, hrun, hended, _, _, rfl, ?_, ⟨_, rfl⟩, hW, hsame.mono (by decide) (by decide)⟩
  · show Steps p.tables e below (s₁.setTop (mkF m 0 #[.val (.int (0 : Int32)), .val (.int (1 : Int32))] [])) _
    refine XS.iloadN X0.here hx rfl (hb hby d3117_0) rfl ?_
    show Steps p.tables e below (s₁.setTop (mkF m 1 #[.val (.int (0 : Int32)), .val (.int (1 : Int32))] [(.int (0 : Int32))])) _
    refine XS.iloadN X0.here hx rfl (hb hby d3117_1) rfl ?_
    show Steps p.tables e below (s₁.setTop (mkF m 2 #[.val (.int (0 : Int32)), .val (.int (1 : Int32))] [(.int (1 : Int32)), (.int (0 : Int32))])) _
    refine XS.aconstNull X0.here hx rfl (hb hby d3117_2) ?_
    show Steps p.tables e below (s₁.setTop (mkF m 3 #[.val (.int (0 : Int32)), .val (.int (1 : Int32))] [.null, (.int (1 : Int32)), (.int (0 : Int32))])) _
    refine st1 _ ?_
    show Steps p.tables e below (T1.setTop (mkF m 6 #[.val (.int (0 : Int32)), .val (.int (1 : Int32))] [(.int (0 : Int32))])) _
    exact retI X1 hx Bd.returns (hb hby d3117_6) hr
  · show Q3117_0_1 Z  h0 n0 _ T1.heap _
    exact ⟨rfl, N1, J1⟩
theorem d3818_0 : decode jdk_38_method_18_code 0 = .ok (.aload_n 0, 1) := by decide +kernel
theorem d3818_1 : decode jdk_38_method_18_code 1 = .ok (.getfield 9, 3) := by decide +kernel
theorem d3818_4 : decode jdk_38_method_18_code 4 = .ok (.iload_n 1, 1) := by decide +kernel
theorem d3818_5 : decode jdk_38_method_18_code 5 = .ok (.aaload, 1) := by decide +kernel
theorem d3818_6 : decode jdk_38_method_18_code 6 = .ok (.areturn, 1) := by decide +kernel
theorem ef_3818_0 (m : MethodId) (o0 : Addr) : entryFrame m #[(.ref o0), (.int (0 : Int32))] 2 = mkF m 0 #[.val (.ref o0), .val (.int (0 : Int32))] [] := by first | (simp [entryFrame, mkF, argsToLocals, Value.category]; done) | rfl
def Q3818_0 (Z : State) (o0 : Addr) (arr : Addr) (ka : ClassId) (vs : List Value) (r : Addr) (h0 : Heap) (n0 : Nat) (v : Option Value) (h : Heap) (L : List Loc) : Prop := v = some (.ref r) ∧ Fr n0 L ∧ Keep h0 h []
set_option maxRecDepth 65536 in
set_option maxHeartbeats 40000000 in
theorem rm3818_0 (l : Launch) (Z : State) (a0 : Array Value) (hw : ∀ d ∈ tables_1, d.before a0 Z = true) (ws : List Jvm.Cond) (o0 : Addr) (arr : Addr) (ka : ClassId) (vs : List Value) (r : Addr) (h0 : Heap) (n0 : Nat) (Z0 : n0 ≤ h0.size) (F_elementData_o0 : Fld Z h0 o0 "java/util/ArrayList" "elementData" "[Ljava/lang/Object;" (.ref arr)) (V_arr : Arv Z h0 arr ka (.object "java/lang/Object") (10 : Int32) vs .null) (hat : vs.getD (0 : Int32).toNatClampNeg .null = .ref r) :
    MetFree l (⟨"java/util/ArrayList", "elementData", "(I)Ljava/lang/Object;"⟩ : MethodName) (head1 (Jvm.Cond.code (⟨"java/util/ArrayList", "elementData", "(I)Ljava/lang/Object;"⟩ : MethodName) jdk_38_method_18_code 2 (some (.object "java/lang/Object")) :: ws) ({ frames := 0, cells := 0, slots := 0, locals := 0 } : Room)) (fun a U => a = #[(.ref o0), (.int (0 : Int32))] ∧ Z.Warmed39 U.vm ∧ U.heap = h0) (fun _ _ _ _ _ => True) (fun _ U o U' => ∃ v L, o = .returned v ∧ Q3818_0 Z o0 arr ka vs r h0 n0 v U'.heap L ∧ FrameEnd U o U' L ({ frames := 0, cells := 0, slots := 0, locals := 0 } : Room).cells ({ frames := 0, cells := 0, slots := 0, locals := 0 } : Room).slots) := by
  refine MetFree.of_bodySF (plainFor_of_name pn_java_util_ArrayList) hisR ?_
  intro p e s m args below meth c s₁ Bd hml0 hP hK
  obtain ⟨rfl, hZ, hh⟩ := hP
  have hx := Bd.exec
  have hby := Bd.bytes
  have hml : c.maxLocals = 2 := hml0
  have hown : s.vm.findClass "java/util/ArrayList" = some m.cls := findClass_of_methodNamed Bd.named
  have hnm := (name_of_methodNamed Bd.named Bd.method).1
  have X0 : Stand p l e ({ frames := 0, cells := 0, slots := 0, locals := 0 } : Room) s m #[(.ref o0), (.int (0 : Int32))] below meth c s₁ [] 0 0 := Stand.of_body Bd
  have e0 : s₁.heap = h0 := by rw [← hh, Bd.state]; rfl
  have N0 := Fr.nil n0
  have pre0 : ∀ t, Steps p.tables e below (s₁.setTop (mkF m 0 #[.val (.ref o0), .val (.int (0 : Int32))] [])) t → Steps p.tables e below (s₁.setTop (entryFrame m #[(.ref o0), (.int (0 : Int32))] 2)) t := fun t k => castTop (ef_3818_0 m o0) k
  obtain ⟨T1, X1, e1, st1⟩ := getF X0 hx hZ hown (host := "") (Or.inl (hw _ (List.mem_of_getElem? (i := 39) rfl))) Via.refl e0 F_elementData_o0 (g := (mkF m 1 #[.val (.ref o0), .val (.int (0 : Int32))] [(.ref o0)])) rfl rfl (hb hby d3818_1)
  obtain ⟨cl2, Ar2, -, Sz2, Nn2, Hs2, -⟩ := id V_arr
  have hin2 : ¬ ((0 : Int32) < 0 ∨ cl2.slots.size ≤ ((0 : Int32)).toNatClampNeg) := inb_of Sz2 ⟨by decide, by decide⟩
  have hat2 : cl2.slots[((0 : Int32)).toNatClampNeg]? = some (.ref r) := Hs2.at hin2 hat
  obtain ⟨fs, hr, hrun, hended, hW, hsame⟩ := X1.leave (v := some (.ref r)) (fun h => by rw [Bd.returns] at h; cases h)
  refine ⟨_, _, pre0 _ ?_, hrun, hended, _, _, rfl, ?_, ⟨_, rfl⟩, hW, hsame.mono (by decide) (by decide)⟩
  · show Steps p.tables e below (s₁.setTop (mkF m 0 #[.val (.ref o0), .val (.int (0 : Int32))] [])) _
    refine XS.aloadN X0.here hx rfl (hb hby d3818_0) rfl rfl ?_
    show Steps p.tables e below (s₁.setTop (mkF m 1 #[.val (.ref o0), .val (.int (0 : Int32))] [(.ref o0)])) _
    refine st1 _ ?_
    show Steps p.tables e below (T1.setTop (mkF m 4 #[.val (.ref o0), .val (.int (0 : Int32))] [(.ref arr)])) _
    refine XS.iloadN X1.here hx rfl (hb hby d3818_4) rfl ?_
    show Steps p.tables e below (T1.setTop (mkF m 5 #[.val (.ref o0), .val (.int (0 : Int32))] [(.int (0 : Int32)), (.ref arr)])) _
    refine X1.aaload hx (j := (0 : Int32)) (v := (.ref r)) (by rw [e1]; exact Ar2.1) (State.isArrayOf_alike hZ.alike Ar2.2.1) rfl Ar2.2.2 hin2 hat2 (g := (mkF m 5 #[.val (.ref o0), .val (.int (0 : Int32))] [(.int (0 : Int32)), (.ref arr)])) rfl rfl (hb hby d3818_5) _ ?_
    show Steps p.tables e below (T1.setTop (mkF m 6 #[.val (.ref o0), .val (.int (0 : Int32))] [(.ref r)])) _
    jvm_step X1.here [X1.here.top, hx, (hb hby d3818_6), X1.method', Bd.returns, Value.isRef, FieldType.isReference]
    first | (intro acts; rw [hr _ acts rfl rfl rfl]) | rw [hr _ _ rfl rfl rfl]
    exact Steps.refl _
  · show Q3818_0 Z o0 arr ka vs r h0 n0 _ T1.heap _
    rw [e1]
    exact ⟨rfl, N0, (Keep.refl h0 [])⟩
theorem d3820_0 : decode jdk_38_method_20_code 0 = .ok (.iload_n 1, 1) := by decide +kernel
theorem d3820_1 : decode jdk_38_method_20_code 1 = .ok (.aload_n 0, 1) := by decide +kernel
theorem d3820_2 : decode jdk_38_method_20_code 2 = .ok (.getfield 48, 3) := by decide +kernel
theorem d3820_5 : decode jdk_38_method_20_code 5 = .ok (.invokestatic 118, 3) := by decide +kernel
theorem d3820_8 : decode jdk_38_method_20_code 8 = .ok (.pop, 1) := by decide +kernel
theorem d3820_9 : decode jdk_38_method_20_code 9 = .ok (.aload_n 0, 1) := by decide +kernel
theorem d3820_10 : decode jdk_38_method_20_code 10 = .ok (.iload_n 1, 1) := by decide +kernel
theorem d3820_11 : decode jdk_38_method_20_code 11 = .ok (.invokevirtual 123, 3) := by decide +kernel
theorem d3820_14 : decode jdk_38_method_20_code 14 = .ok (.areturn, 1) := by decide +kernel
theorem pd_9 : parseMethodDescriptor "(I)Ljava/lang/Object;" = some ⟨[.int], some (.object "java/lang/Object")⟩ := by decide +kernel
theorem ef_3820_0_1 (m : MethodId) (o0 : Addr) : entryFrame m #[(.ref o0), (.int (0 : Int32))] 2 = mkF m 0 #[.val (.ref o0), .val (.int (0 : Int32))] [] := by first | (simp [entryFrame, mkF, argsToLocals, Value.category]; done) | rfl
def Q3820_0_1 (Z : State) (o0 : Addr) (arr : Addr) (ka : ClassId) (vs : List Value) (r : Addr) (h0 : Heap) (n0 : Nat) (v : Option Value) (h : Heap) (L : List Loc) : Prop := v = some (.ref r) ∧ Fr n0 L ∧ Keep h0 h []
set_option maxRecDepth 65536 in
set_option maxHeartbeats 40000000 in
theorem rm3820_0_1 (l : Launch) (Z : State) (a0 : Array Value) (hw : ∀ d ∈ tables_1, d.before a0 Z = true) (ws : List Jvm.Cond) (o0 : Addr) (arr : Addr) (ka : ClassId) (vs : List Value) (r : Addr) (h0 : Heap) (n0 : Nat) (Z0 : n0 ≤ h0.size) (E_o0 : Exa Z h0 o0 "java/util/ArrayList") (F_size_o0 : Fld Z h0 o0 "java/util/ArrayList" "size" "I" (.int (1 : Int32))) (F_elementData_o0 : Fld Z h0 o0 "java/util/ArrayList" "elementData" "[Ljava/lang/Object;" (.ref arr)) (V_arr : Arv Z h0 arr ka (.object "java/lang/Object") (10 : Int32) vs .null) (hat : vs.getD (0 : Int32).toNatClampNeg .null = .ref r) :
    MetFree l (⟨"java/util/ArrayList", "get", "(I)Ljava/lang/Object;"⟩ : MethodName) (head1 (Jvm.Cond.code (⟨"java/util/ArrayList", "get", "(I)Ljava/lang/Object;"⟩ : MethodName) jdk_38_method_20_code 2 (some (.object "java/lang/Object")) :: ws) ({ frames := 2, cells := 0, slots := 0, locals := 27 } : Room)) (fun a U => a = #[(.ref o0), (.int (0 : Int32))] ∧ Z.Warmed39 U.vm ∧ U.heap = h0) (fun _ _ _ _ _ => True) (fun _ U o U' => ∃ v L, o = .returned v ∧ Q3820_0_1 Z o0 arr ka vs r h0 n0 v U'.heap L ∧ FrameEnd U o U' L ({ frames := 2, cells := 0, slots := 0, locals := 27 } : Room).cells ({ frames := 2, cells := 0, slots := 0, locals := 27 } : Room).slots) := by
  refine MetFree.of_bodySF (plainFor_of_name pn_java_util_ArrayList) hisR ?_
  intro p e s m args below meth c s₁ Bd hml0 hP hK
  obtain ⟨rfl, hZ, hh⟩ := hP
  have hx := Bd.exec
  have hby := Bd.bytes
  have hml : c.maxLocals = 2 := hml0
  have hown : s.vm.findClass "java/util/ArrayList" = some m.cls := findClass_of_methodNamed Bd.named
  have hnm := (name_of_methodNamed Bd.named Bd.method).1
  have X0 : Stand p l e ({ frames := 2, cells := 0, slots := 0, locals := 27 } : Room) s m #[(.ref o0), (.int (0 : Int32))] below meth c s₁ [] 0 0 := Stand.of_body Bd
  have e0 : s₁.heap = h0 := by rw [← hh, Bd.state]; rfl
  have N0 := Fr.nil n0
  have pre0 : ∀ t, Steps p.tables e below (s₁.setTop (mkF m 0 #[.val (.ref o0), .val (.int (0 : Int32))] [])) t → Steps p.tables e below (s₁.setTop (entryFrame m #[(.ref o0), (.int (0 : Int32))] 2)) t := fun t k => castTop (ef_3820_0_1 m o0) k
  obtain ⟨T1, X1, e1, st1⟩ := getF X0 hx hZ hown (host := "") (Or.inl (hw _ (List.mem_of_getElem? (i := 106) rfl))) Via.refl e0 F_size_o0 (g := (mkF m 2 #[.val (.ref o0), .val (.int (0 : Int32))] [(.ref o0), (.int (0 : Int32))])) rfl rfl (hb hby d3820_2)
  -- pc 5: Objects.checkIndex by rm3117_0_1
  obtain ⟨_, _, ⟨T2, L2, k2, n2⟩, -, X2, ⟨Lc2, hQ2, l2, y2, z2'⟩, st2⟩ := Jvm.LawKit.callS X1 hx (y := (⟨"java/util/Objects", "checkIndex", "(II)I"⟩ : MethodName)) hown (mvT hZ (hw _ (List.mem_of_getElem? (i := 157) rfl))) (mvT hZ (hw _ (List.mem_of_getElem? (i := 158) rfl))) (mvT hZ (hw _ (List.mem_of_getElem? (i := 159) rfl))) (mvT hZ (hw _ (List.mem_of_getElem? (i := 160) rfl))) (by decide) (backOf (W := 0) (rm3117_0_1 l Z a0 hw []  h0 n0 Z0 ) hZ (hw _ (List.mem_of_getElem? (i := 160) rfl)) (hw _ (List.mem_of_getElem? (i := 159) rfl)) (by decide) (by decide)) (g := (mkF m 5 #[.val (.ref o0), .val (.int (0 : Int32))] [(.int (1 : Int32)), (.int (0 : Int32))])) rfl (by rw [hml]; rfl) (argsL := [(.int (0 : Int32)), (.int (1 : Int32))]) (rest := []) (lenOf pd_4 rfl) rfl (by show 2 * 0 + _ ≤ _; exact Nat.le_of_eq rfl) (hb hby d3820_5) (fun _ _ => ⟨rfl, e1, (by decide : 0 + 0 ≤ _), (by decide : 0 + 0 ≤ _)⟩)
  dsimp only [Pt.U, Pt.locs, Pt.cells, Pt.slots] at X2 l2 y2 z2' st2 hQ2
  subst l2 y2 z2'
  obtain ⟨rfl, N2q, K2⟩ := hQ2
  have N2 := Fr.app N0 N2q
  have J2 : Keep h0 T2.heap [] := (Keep.refl h0 []).trans K2 all0
  have c3 : Fld Z T2.heap o0 "java/util/ArrayList" "elementData" "[Ljava/lang/Object;" (.ref arr) := (F_elementData_o0.keep K2 nin0)
  have c4 : Arv Z T2.heap arr ka (.object "java/lang/Object") (10 : Int32) vs .null := (V_arr.keep K2 nin0)
  have z5 : n0 ≤ T2.heap.size := (Nat.le_trans Z0 K2.1)
  have c7 : Exa Z T2.heap o0 "java/util/ArrayList" := (E_o0.keep K2)
  obtain ⟨cq6, kq6, q6a, q6b, q6c⟩ := isOf hZ rfl c7
  -- pc 11: ArrayList.elementData by rm3818_0
  obtain ⟨_, _, ⟨T6, L6, k6, n6⟩, -, X6, ⟨Lc6, hQ6, l6, y6, z6'⟩, st6⟩ := X2.virtualBack hx (y := (⟨"java/util/ArrayList", "elementData", "(I)Ljava/lang/Object;"⟩ : MethodName)) (z := (⟨"java/util/ArrayList", "elementData", "(I)Ljava/lang/Object;"⟩ : MethodName)) hown (mvT hZ (hw _ (List.mem_of_getElem? (i := 165) rfl))) (mvT hZ (hw _ (List.mem_of_getElem? (i := 166) rfl))) (notFace_of_selects (args := #[]) (mvT hZ (hw _ (List.mem_of_getElem? (i := 168) rfl)))) (mvT hZ (hw _ (List.mem_of_getElem? (i := 168) rfl))) (mvT hZ (hw _ (List.mem_of_getElem? (i := 167) rfl))) (by decide) (backOf (W := 0) (rm3818_0 l Z a0 hw [] o0 arr ka vs r T2.heap n0 z5 c3 c4 hat) hZ (hw _ (List.mem_of_getElem? (i := 169) rfl)) (hw _ (List.mem_of_getElem? (i := 19) rfl)) (by decide) (by decide)) q6a q6c (g := (mkF m 11 #[.val (.ref o0), .val (.int (0 : Int32))] [(.int (0 : Int32)), (.ref o0)])) rfl (by rw [hml]; rfl) (Steps.refl _) (argsL := [(.int (0 : Int32))]) (rest := []) (lenOf pd_9 rfl) rfl (by show 2 * 0 + _ ≤ _; exact Nat.le_of_eq rfl) (hb hby d3820_11) (fun _ _ => ⟨rfl, rfl, (by decide : 0 + 0 ≤ _), (by decide : 0 + 0 ≤ _)⟩)
  dsimp only [Pt.U, Pt.locs, Pt.cells, Pt.slots] at X6 l6 y6 z6' st6 hQ6
  subst l6 y6 z6'
  obtain ⟨rfl, N6q, K6⟩ := hQ6
  have N6 := Fr.app N2 N6q
  have J6 : Keep h0 T6.heap [] := J2.trans K6 all0
  obtain ⟨fs, hr, hrun, hended, hW, hsame⟩ := X6.leave (v := some (.ref r)) (fun h => by rw [Bd.returns] at h; cases h)
  refine ⟨_, _, pre0 _ ?_, hrun, hended, _, _, rfl, ?_, ⟨_, rfl⟩, hW, hsame.mono (by decide) (by decide)⟩
  · show Steps p.tables e below (s₁.setTop (mkF m 0 #[.val (.ref o0), .val (.int (0 : Int32))] [])) _
    refine XS.iloadN X0.here hx rfl (hb hby d3820_0) rfl ?_
    show Steps p.tables e below (s₁.setTop (mkF m 1 #[.val (.ref o0), .val (.int (0 : Int32))] [(.int (0 : Int32))])) _
    refine XS.aloadN X0.here hx rfl (hb hby d3820_1) rfl rfl ?_
    show Steps p.tables e below (s₁.setTop (mkF m 2 #[.val (.ref o0), .val (.int (0 : Int32))] [(.ref o0), (.int (0 : Int32))])) _
    refine st1 _ ?_
    show Steps p.tables e below (T1.setTop (mkF m 5 #[.val (.ref o0), .val (.int (0 : Int32))] [(.int (1 : Int32)), (.int (0 : Int32))])) _
    refine st2 _ ?_
    show Steps p.tables e below (T2.setTop (mkF m 8 #[.val (.ref o0), .val (.int (0 : Int32))] [(.int (0 : Int32))])) _
    refine XS.pop X2.here hx rfl (hb hby d3820_8) rfl rfl ?_
    show Steps p.tables e below (T2.setTop (mkF m 9 #[.val (.ref o0), .val (.int (0 : Int32))] [])) _
    refine XS.aloadN X2.here hx rfl (hb hby d3820_9) rfl rfl ?_
    show Steps p.tables e below (T2.setTop (mkF m 10 #[.val (.ref o0), .val (.int (0 : Int32))] [(.ref o0)])) _
    refine XS.iloadN X2.here hx rfl (hb hby d3820_10) rfl ?_
    show Steps p.tables e below (T2.setTop (mkF m 11 #[.val (.ref o0), .val (.int (0 : Int32))] [(.int (0 : Int32)), (.ref o0)])) _
    refine st6.trans ?_
    show Steps p.tables e below (T6.setTop (mkF m 14 #[.val (.ref o0), .val (.int (0 : Int32))] [(.ref r)])) _
    jvm_step X6.here [X6.here.top, hx, (hb hby d3820_14), X6.method', Bd.returns, Value.isRef, FieldType.isReference]
    first | (intro acts; rw [hr _ acts rfl rfl rfl]) | rw [hr _ _ rfl rfl rfl]
    exact Steps.refl _
  · show Q3820_0_1 Z o0 arr ka vs r h0 n0 _ T6.heap _
    exact ⟨rfl, N6, J6⟩
theorem ef_4111_1_2 (m : MethodId)  : entryFrame m #[(.int (1 : Int32)), (.int (2 : Int32)), .null] 3 = mkF m 0 #[.val (.int (1 : Int32)), .val (.int (2 : Int32)), .val .null] [] := by first | (simp [entryFrame, mkF, argsToLocals, Value.category]; done) | rfl
def Q4111_1_2 (Z : State)  (h0 : Heap) (n0 : Nat) (v : Option Value) (h : Heap) (L : List Loc) : Prop := v = some (.int (1 : Int32)) ∧ Fr n0 L ∧ Keep h0 h []
set_option maxRecDepth 65536 in
set_option maxHeartbeats 40000000 in
theorem rm4111_1_2 (l : Launch) (Z : State) (a0 : Array Value) (hw : ∀ d ∈ tables_1, d.before a0 Z = true) (ws : List Jvm.Cond)  (h0 : Heap) (n0 : Nat) (Z0 : n0 ≤ h0.size) :
    MetFree l (⟨"jdk/internal/util/Preconditions", "checkIndex", "(IILjava/util/function/BiFunction;)I"⟩ : MethodName) (head1 (Jvm.Cond.code (⟨"jdk/internal/util/Preconditions", "checkIndex", "(IILjava/util/function/BiFunction;)I"⟩ : MethodName) jdk_41_method_11_code 3 (some .int) :: ws) ({ frames := 0, cells := 0, slots := 0, locals := 0 } : Room)) (fun a U => a = #[(.int (1 : Int32)), (.int (2 : Int32)), .null] ∧ Z.Warmed39 U.vm ∧ U.heap = h0) (fun _ _ _ _ _ => True) (fun _ U o U' => ∃ v L, o = .returned v ∧ Q4111_1_2 Z  h0 n0 v U'.heap L ∧ FrameEnd U o U' L ({ frames := 0, cells := 0, slots := 0, locals := 0 } : Room).cells ({ frames := 0, cells := 0, slots := 0, locals := 0 } : Room).slots) := by
  refine MetFree.of_bodySF (plainFor_of_name pn_jdk_internal_util_Preconditions) hisR ?_
  intro p e s m args below meth c s₁ Bd hml0 hP hK
  obtain ⟨rfl, hZ, hh⟩ := hP
  have hx := Bd.exec
  have hby := Bd.bytes
  have hml : c.maxLocals = 3 := hml0
  have hown : s.vm.findClass "jdk/internal/util/Preconditions" = some m.cls := findClass_of_methodNamed Bd.named
  have hnm := (name_of_methodNamed Bd.named Bd.method).1
  have X0 : Stand p l e ({ frames := 0, cells := 0, slots := 0, locals := 0 } : Room) s m #[(.int (1 : Int32)), (.int (2 : Int32)), .null] below meth c s₁ [] 0 0 := Stand.of_body Bd
  have e0 : s₁.heap = h0 := by rw [← hh, Bd.state]; rfl
  have N0 := Fr.nil n0
  have pre0 : ∀ t, Steps p.tables e below (s₁.setTop (mkF m 0 #[.val (.int (1 : Int32)), .val (.int (2 : Int32)), .val .null] [])) t → Steps p.tables e below (s₁.setTop (entryFrame m #[(.int (1 : Int32)), (.int (2 : Int32)), .null] 3)) t := fun t k => castTop (ef_4111_1_2 m ) k
  obtain ⟨fs, hr, hrun, hended, hW, hsame⟩ := X0.leave (v := some (.int (1 : Int32))) (fun h => by rw [Bd.returns] at h; cases h)
  refine ⟨_, _, pre0 _ ?_, hrun, hended, _, _, rfl, ?_, ⟨_, rfl⟩, hW, hsame.mono (by decide) (by decide)⟩
  · show Steps p.tables e below (s₁.setTop (mkF m 0 #[.val (.int (1 : Int32)), .val (.int (2 : Int32)), .val .null] [])) _
    refine XS.iloadN X0.here hx rfl (hb hby d4111_0) rfl ?_
    show Steps p.tables e below (s₁.setTop (mkF m 1 #[.val (.int (1 : Int32)), .val (.int (2 : Int32)), .val .null] [(.int (1 : Int32))])) _
    refine XS.ifNo X0.here hx rfl (hb hby d4111_1) rfl ((if0 _ _).trans (flt (by decide)).1) ?_
    show Steps p.tables e below (s₁.setTop (mkF m 4 #[.val (.int (1 : Int32)), .val (.int (2 : Int32)), .val .null] [])) _
    refine XS.iloadN X0.here hx rfl (hb hby d4111_4) rfl ?_
    show Steps p.tables e below (s₁.setTop (mkF m 5 #[.val (.int (1 : Int32)), .val (.int (2 : Int32)), .val .null] [(.int (1 : Int32))])) _
    refine XS.iloadN X0.here hx rfl (hb hby d4111_5) rfl ?_
    show Steps p.tables e below (s₁.setTop (mkF m 6 #[.val (.int (1 : Int32)), .val (.int (2 : Int32)), .val .null] [(.int (2 : Int32)), (.int (1 : Int32))])) _
    refine XS.icmpYes X0.here hx rfl (pc0 := 6) (pc' := 16) rfl (hb hby d4111_6) rfl (tlt (by decide)).1 (by decide) (by decide) ?_
    show Steps p.tables e below (s₁.setTop (mkF m 16 #[.val (.int (1 : Int32)), .val (.int (2 : Int32)), .val .null] [])) _
    refine XS.iloadN X0.here hx rfl (hb hby d4111_16) rfl ?_
    show Steps p.tables e below (s₁.setTop (mkF m 17 #[.val (.int (1 : Int32)), .val (.int (2 : Int32)), .val .null] [(.int (1 : Int32))])) _
    exact retI X0 hx Bd.returns (hb hby d4111_17) hr
  · show Q4111_1_2 Z  h0 n0 _ s₁.heap _
    rw [e0]
    exact ⟨rfl, N0, (Keep.refl h0 [])⟩
theorem ef_3117_1_2 (m : MethodId)  : entryFrame m #[(.int (1 : Int32)), (.int (2 : Int32))] 2 = mkF m 0 #[.val (.int (1 : Int32)), .val (.int (2 : Int32))] [] := by first | (simp [entryFrame, mkF, argsToLocals, Value.category]; done) | rfl
def Q3117_1_2 (Z : State)  (h0 : Heap) (n0 : Nat) (v : Option Value) (h : Heap) (L : List Loc) : Prop := v = some (.int (1 : Int32)) ∧ Fr n0 L ∧ Keep h0 h []
set_option maxRecDepth 65536 in
set_option maxHeartbeats 40000000 in
theorem rm3117_1_2 (l : Launch) (Z : State) (a0 : Array Value) (hw : ∀ d ∈ tables_1, d.before a0 Z = true) (ws : List Jvm.Cond)  (h0 : Heap) (n0 : Nat) (Z0 : n0 ≤ h0.size) :
    MetFree l (⟨"java/util/Objects", "checkIndex", "(II)I"⟩ : MethodName) (head1 (Jvm.Cond.code (⟨"java/util/Objects", "checkIndex", "(II)I"⟩ : MethodName) jdk_31_method_17_code 2 (some .int) :: ws) ({ frames := 1, cells := 0, slots := 0, locals := 14 } : Room)) (fun a U => a = #[(.int (1 : Int32)), (.int (2 : Int32))] ∧ Z.Warmed39 U.vm ∧ U.heap = h0) (fun _ _ _ _ _ => True) (fun _ U o U' => ∃ v L, o = .returned v ∧ Q3117_1_2 Z  h0 n0 v U'.heap L ∧ FrameEnd U o U' L ({ frames := 1, cells := 0, slots := 0, locals := 14 } : Room).cells ({ frames := 1, cells := 0, slots := 0, locals := 14 } : Room).slots) := by
  refine MetFree.of_bodySF (plainFor_of_name pn_java_util_Objects) hisR ?_
  intro p e s m args below meth c s₁ Bd hml0 hP hK
  obtain ⟨rfl, hZ, hh⟩ := hP
  have hx := Bd.exec
  have hby := Bd.bytes
  have hml : c.maxLocals = 2 := hml0
  have hown : s.vm.findClass "java/util/Objects" = some m.cls := findClass_of_methodNamed Bd.named
  have hnm := (name_of_methodNamed Bd.named Bd.method).1
  have X0 : Stand p l e ({ frames := 1, cells := 0, slots := 0, locals := 14 } : Room) s m #[(.int (1 : Int32)), (.int (2 : Int32))] below meth c s₁ [] 0 0 := Stand.of_body Bd
  have e0 : s₁.heap = h0 := by rw [← hh, Bd.state]; rfl
  have N0 := Fr.nil n0
  have pre0 : ∀ t, Steps p.tables e below (s₁.setTop (mkF m 0 #[.val (.int (1 : Int32)), .val (.int (2 : Int32))] [])) t → Steps p.tables e below (s₁.setTop (entryFrame m #[(.int (1 : Int32)), (.int (2 : Int32))] 2)) t := fun t k => castTop (ef_3117_1_2 m ) k
  -- pc 3: Preconditions.checkIndex by rm4111_1_2
  obtain ⟨_, _, ⟨T1, L1, k1, n1⟩, -, X1, ⟨Lc1, hQ1, l1, y1, z1'⟩, st1⟩ := Jvm.LawKit.callS X0 hx (y := (⟨"jdk/internal/util/Preconditions", "checkIndex", "(IILjava/util/function/BiFunction;)I"⟩ : MethodName)) hown (mvT hZ (hw _ (List.mem_of_getElem? (i := 161) rfl))) (mvT hZ (hw _ (List.mem_of_getElem? (i := 162) rfl))) (mvT hZ (hw _ (List.mem_of_getElem? (i := 163) rfl))) (mvT hZ (hw _ (List.mem_of_getElem? (i := 164) rfl))) (by decide) (backOf (W := 0) (rm4111_1_2 l Z a0 hw []  h0 n0 Z0 ) hZ (hw _ (List.mem_of_getElem? (i := 164) rfl)) (hw _ (List.mem_of_getElem? (i := 163) rfl)) (by decide) (by decide)) (g := (mkF m 3 #[.val (.int (1 : Int32)), .val (.int (2 : Int32))] [.null, (.int (2 : Int32)), (.int (1 : Int32))])) rfl (by rw [hml]; rfl) (argsL := [(.int (1 : Int32)), (.int (2 : Int32)), .null]) (rest := []) (lenOf pd_8 rfl) rfl (by show 2 * 0 + _ ≤ _; exact Nat.le_of_eq rfl) (hb hby d3117_3) (fun _ _ => ⟨rfl, e0, (by decide : 0 + 0 ≤ _), (by decide : 0 + 0 ≤ _)⟩)
  dsimp only [Pt.U, Pt.locs, Pt.cells, Pt.slots] at X1 l1 y1 z1' st1 hQ1
  subst l1 y1 z1'
  obtain ⟨rfl, N1q, K1⟩ := hQ1
  have N1 := Fr.app N0 N1q
  have J1 : Keep h0 T1.heap [] := (Keep.refl h0 []).trans K1 all0
  obtain ⟨fs, hr, hrun, hended, hW, hsame⟩ := X1.leave (v := some (.int (1 : Int32))) (fun h => by rw [Bd.returns] at h; cases h)
  refine ⟨_, _, pre0 _ ?_, hrun, hended, _, _, rfl, ?_, ⟨_, rfl⟩, hW, hsame.mono (by decide) (by decide)⟩
  · show Steps p.tables e below (s₁.setTop (mkF m 0 #[.val (.int (1 : Int32)), .val (.int (2 : Int32))] [])) _
    refine XS.iloadN X0.here hx rfl (hb hby d3117_0) rfl ?_
    show Steps p.tables e below (s₁.setTop (mkF m 1 #[.val (.int (1 : Int32)), .val (.int (2 : Int32))] [(.int (1 : Int32))])) _
    refine XS.iloadN X0.here hx rfl (hb hby d3117_1) rfl ?_
    show Steps p.tables e below (s₁.setTop (mkF m 2 #[.val (.int (1 : Int32)), .val (.int (2 : Int32))] [(.int (2 : Int32)), (.int (1 : Int32))])) _
    refine XS.aconstNull X0.here hx rfl (hb hby d3117_2) ?_
    show Steps p.tables e below (s₁.setTop (mkF m 3 #[.val (.int (1 : Int32)), .val (.int (2 : Int32))] [.null, (.int (2 : Int32)), (.int (1 : Int32))])) _
    refine st1 _ ?_
    show Steps p.tables e below (T1.setTop (mkF m 6 #[.val (.int (1 : Int32)), .val (.int (2 : Int32))] [(.int (1 : Int32))])) _
    exact retI X1 hx Bd.returns (hb hby d3117_6) hr
  · show Q3117_1_2 Z  h0 n0 _ T1.heap _
    exact ⟨rfl, N1, J1⟩
theorem ef_3818_1 (m : MethodId) (o0 : Addr) : entryFrame m #[(.ref o0), (.int (1 : Int32))] 2 = mkF m 0 #[.val (.ref o0), .val (.int (1 : Int32))] [] := by first | (simp [entryFrame, mkF, argsToLocals, Value.category]; done) | rfl
def Q3818_1 (Z : State) (o0 : Addr) (arr : Addr) (ka : ClassId) (vs : List Value) (r : Addr) (h0 : Heap) (n0 : Nat) (v : Option Value) (h : Heap) (L : List Loc) : Prop := v = some (.ref r) ∧ Fr n0 L ∧ Keep h0 h []
set_option maxRecDepth 65536 in
set_option maxHeartbeats 40000000 in
theorem rm3818_1 (l : Launch) (Z : State) (a0 : Array Value) (hw : ∀ d ∈ tables_1, d.before a0 Z = true) (ws : List Jvm.Cond) (o0 : Addr) (arr : Addr) (ka : ClassId) (vs : List Value) (r : Addr) (h0 : Heap) (n0 : Nat) (Z0 : n0 ≤ h0.size) (F_elementData_o0 : Fld Z h0 o0 "java/util/ArrayList" "elementData" "[Ljava/lang/Object;" (.ref arr)) (V_arr : Arv Z h0 arr ka (.object "java/lang/Object") (10 : Int32) vs .null) (hat : vs.getD (1 : Int32).toNatClampNeg .null = .ref r) :
    MetFree l (⟨"java/util/ArrayList", "elementData", "(I)Ljava/lang/Object;"⟩ : MethodName) (head1 (Jvm.Cond.code (⟨"java/util/ArrayList", "elementData", "(I)Ljava/lang/Object;"⟩ : MethodName) jdk_38_method_18_code 2 (some (.object "java/lang/Object")) :: ws) ({ frames := 0, cells := 0, slots := 0, locals := 0 } : Room)) (fun a U => a = #[(.ref o0), (.int (1 : Int32))] ∧ Z.Warmed39 U.vm ∧ U.heap = h0) (fun _ _ _ _ _ => True) (fun _ U o U' => ∃ v L, o = .returned v ∧ Q3818_1 Z o0 arr ka vs r h0 n0 v U'.heap L ∧ FrameEnd U o U' L ({ frames := 0, cells := 0, slots := 0, locals := 0 } : Room).cells ({ frames := 0, cells := 0, slots := 0, locals := 0 } : Room).slots) := by
  refine MetFree.of_bodySF (plainFor_of_name pn_java_util_ArrayList) hisR ?_
  intro p e s m args below meth c s₁ Bd hml0 hP hK
  obtain ⟨rfl, hZ, hh⟩ := hP
  have hx := Bd.exec
  have hby := Bd.bytes
  have hml : c.maxLocals = 2 := hml0
  have hown : s.vm.findClass "java/util/ArrayList" = some m.cls := findClass_of_methodNamed Bd.named
  have hnm := (name_of_methodNamed Bd.named Bd.method).1
  have X0 : Stand p l e ({ frames := 0, cells := 0, slots := 0, locals := 0 } : Room) s m #[(.ref o0), (.int (1 : Int32))] below meth c s₁ [] 0 0 := Stand.of_body Bd
  have e0 : s₁.heap = h0 := by rw [← hh, Bd.state]; rfl
  have N0 := Fr.nil n0
  have pre0 : ∀ t, Steps p.tables e below (s₁.setTop (mkF m 0 #[.val (.ref o0), .val (.int (1 : Int32))] [])) t → Steps p.tables e below (s₁.setTop (entryFrame m #[(.ref o0), (.int (1 : Int32))] 2)) t := fun t k => castTop (ef_3818_1 m o0) k
  obtain ⟨T1, X1, e1, st1⟩ := getF X0 hx hZ hown (host := "") (Or.inl (hw _ (List.mem_of_getElem? (i := 39) rfl))) Via.refl e0 F_elementData_o0 (g := (mkF m 1 #[.val (.ref o0), .val (.int (1 : Int32))] [(.ref o0)])) rfl rfl (hb hby d3818_1)
  obtain ⟨cl2, Ar2, -, Sz2, Nn2, Hs2, -⟩ := id V_arr
  have hin2 : ¬ ((1 : Int32) < 0 ∨ cl2.slots.size ≤ ((1 : Int32)).toNatClampNeg) := inb_of Sz2 ⟨by decide, by decide⟩
  have hat2 : cl2.slots[((1 : Int32)).toNatClampNeg]? = some (.ref r) := Hs2.at hin2 hat
  obtain ⟨fs, hr, hrun, hended, hW, hsame⟩ := X1.leave (v := some (.ref r)) (fun h => by rw [Bd.returns] at h; cases h)
  refine ⟨_, _, pre0 _ ?_, hrun, hended, _, _, rfl, ?_, ⟨_, rfl⟩, hW, hsame.mono (by decide) (by decide)⟩
  · show Steps p.tables e below (s₁.setTop (mkF m 0 #[.val (.ref o0), .val (.int (1 : Int32))] [])) _
    refine XS.aloadN X0.here hx rfl (hb hby d3818_0) rfl rfl ?_
    show Steps p.tables e below (s₁.setTop (mkF m 1 #[.val (.ref o0), .val (.int (1 : Int32))] [(.ref o0)])) _
    refine st1 _ ?_
    show Steps p.tables e below (T1.setTop (mkF m 4 #[.val (.ref o0), .val (.int (1 : Int32))] [(.ref arr)])) _
    refine XS.iloadN X1.here hx rfl (hb hby d3818_4) rfl ?_
    show Steps p.tables e below (T1.setTop (mkF m 5 #[.val (.ref o0), .val (.int (1 : Int32))] [(.int (1 : Int32)), (.ref arr)])) _
    refine X1.aaload hx (j := (1 : Int32)) (v := (.ref r)) (by rw [e1]; exact Ar2.1) (State.isArrayOf_alike hZ.alike Ar2.2.1) rfl Ar2.2.2 hin2 hat2 (g := (mkF m 5 #[.val (.ref o0), .val (.int (1 : Int32))] [(.int (1 : Int32)), (.ref arr)])) rfl rfl (hb hby d3818_5) _ ?_
    show Steps p.tables e below (T1.setTop (mkF m 6 #[.val (.ref o0), .val (.int (1 : Int32))] [(.ref r)])) _
    jvm_step X1.here [X1.here.top, hx, (hb hby d3818_6), X1.method', Bd.returns, Value.isRef, FieldType.isReference]
    first | (intro acts; rw [hr _ acts rfl rfl rfl]) | rw [hr _ _ rfl rfl rfl]
    exact Steps.refl _
  · show Q3818_1 Z o0 arr ka vs r h0 n0 _ T1.heap _
    rw [e1]
    exact ⟨rfl, N0, (Keep.refl h0 [])⟩
theorem ef_3820_1_2 (m : MethodId) (o0 : Addr) : entryFrame m #[(.ref o0), (.int (1 : Int32))] 2 = mkF m 0 #[.val (.ref o0), .val (.int (1 : Int32))] [] := by first | (simp [entryFrame, mkF, argsToLocals, Value.category]; done) | rfl
def Q3820_1_2 (Z : State) (o0 : Addr) (arr : Addr) (ka : ClassId) (vs : List Value) (r : Addr) (h0 : Heap) (n0 : Nat) (v : Option Value) (h : Heap) (L : List Loc) : Prop := v = some (.ref r) ∧ Fr n0 L ∧ Keep h0 h []
set_option maxRecDepth 65536 in
set_option maxHeartbeats 40000000 in
theorem rm3820_1_2 (l : Launch) (Z : State) (a0 : Array Value) (hw : ∀ d ∈ tables_1, d.before a0 Z = true) (ws : List Jvm.Cond) (o0 : Addr) (arr : Addr) (ka : ClassId) (vs : List Value) (r : Addr) (h0 : Heap) (n0 : Nat) (Z0 : n0 ≤ h0.size) (E_o0 : Exa Z h0 o0 "java/util/ArrayList") (F_size_o0 : Fld Z h0 o0 "java/util/ArrayList" "size" "I" (.int (2 : Int32))) (F_elementData_o0 : Fld Z h0 o0 "java/util/ArrayList" "elementData" "[Ljava/lang/Object;" (.ref arr)) (V_arr : Arv Z h0 arr ka (.object "java/lang/Object") (10 : Int32) vs .null) (hat : vs.getD (1 : Int32).toNatClampNeg .null = .ref r) :
    MetFree l (⟨"java/util/ArrayList", "get", "(I)Ljava/lang/Object;"⟩ : MethodName) (head1 (Jvm.Cond.code (⟨"java/util/ArrayList", "get", "(I)Ljava/lang/Object;"⟩ : MethodName) jdk_38_method_20_code 2 (some (.object "java/lang/Object")) :: ws) ({ frames := 2, cells := 0, slots := 0, locals := 27 } : Room)) (fun a U => a = #[(.ref o0), (.int (1 : Int32))] ∧ Z.Warmed39 U.vm ∧ U.heap = h0) (fun _ _ _ _ _ => True) (fun _ U o U' => ∃ v L, o = .returned v ∧ Q3820_1_2 Z o0 arr ka vs r h0 n0 v U'.heap L ∧ FrameEnd U o U' L ({ frames := 2, cells := 0, slots := 0, locals := 27 } : Room).cells ({ frames := 2, cells := 0, slots := 0, locals := 27 } : Room).slots) := by
  refine MetFree.of_bodySF (plainFor_of_name pn_java_util_ArrayList) hisR ?_
  intro p e s m args below meth c s₁ Bd hml0 hP hK
  obtain ⟨rfl, hZ, hh⟩ := hP
  have hx := Bd.exec
  have hby := Bd.bytes
  have hml : c.maxLocals = 2 := hml0
  have hown : s.vm.findClass "java/util/ArrayList" = some m.cls := findClass_of_methodNamed Bd.named
  have hnm := (name_of_methodNamed Bd.named Bd.method).1
  have X0 : Stand p l e ({ frames := 2, cells := 0, slots := 0, locals := 27 } : Room) s m #[(.ref o0), (.int (1 : Int32))] below meth c s₁ [] 0 0 := Stand.of_body Bd
  have e0 : s₁.heap = h0 := by rw [← hh, Bd.state]; rfl
  have N0 := Fr.nil n0
  have pre0 : ∀ t, Steps p.tables e below (s₁.setTop (mkF m 0 #[.val (.ref o0), .val (.int (1 : Int32))] [])) t → Steps p.tables e below (s₁.setTop (entryFrame m #[(.ref o0), (.int (1 : Int32))] 2)) t := fun t k => castTop (ef_3820_1_2 m o0) k
  obtain ⟨T1, X1, e1, st1⟩ := getF X0 hx hZ hown (host := "") (Or.inl (hw _ (List.mem_of_getElem? (i := 106) rfl))) Via.refl e0 F_size_o0 (g := (mkF m 2 #[.val (.ref o0), .val (.int (1 : Int32))] [(.ref o0), (.int (1 : Int32))])) rfl rfl (hb hby d3820_2)
  -- pc 5: Objects.checkIndex by rm3117_1_2
  obtain ⟨_, _, ⟨T2, L2, k2, n2⟩, -, X2, ⟨Lc2, hQ2, l2, y2, z2'⟩, st2⟩ := Jvm.LawKit.callS X1 hx (y := (⟨"java/util/Objects", "checkIndex", "(II)I"⟩ : MethodName)) hown (mvT hZ (hw _ (List.mem_of_getElem? (i := 157) rfl))) (mvT hZ (hw _ (List.mem_of_getElem? (i := 158) rfl))) (mvT hZ (hw _ (List.mem_of_getElem? (i := 159) rfl))) (mvT hZ (hw _ (List.mem_of_getElem? (i := 160) rfl))) (by decide) (backOf (W := 0) (rm3117_1_2 l Z a0 hw []  h0 n0 Z0 ) hZ (hw _ (List.mem_of_getElem? (i := 160) rfl)) (hw _ (List.mem_of_getElem? (i := 159) rfl)) (by decide) (by decide)) (g := (mkF m 5 #[.val (.ref o0), .val (.int (1 : Int32))] [(.int (2 : Int32)), (.int (1 : Int32))])) rfl (by rw [hml]; rfl) (argsL := [(.int (1 : Int32)), (.int (2 : Int32))]) (rest := []) (lenOf pd_4 rfl) rfl (by show 2 * 0 + _ ≤ _; exact Nat.le_of_eq rfl) (hb hby d3820_5) (fun _ _ => ⟨rfl, e1, (by decide : 0 + 0 ≤ _), (by decide : 0 + 0 ≤ _)⟩)
  dsimp only [Pt.U, Pt.locs, Pt.cells, Pt.slots] at X2 l2 y2 z2' st2 hQ2
  subst l2 y2 z2'
  obtain ⟨rfl, N2q, K2⟩ := hQ2
  have N2 := Fr.app N0 N2q
  have J2 : Keep h0 T2.heap [] := (Keep.refl h0 []).trans K2 all0
  have c3 : Fld Z T2.heap o0 "java/util/ArrayList" "elementData" "[Ljava/lang/Object;" (.ref arr) := (F_elementData_o0.keep K2 nin0)
  have c4 : Arv Z T2.heap arr ka (.object "java/lang/Object") (10 : Int32) vs .null := (V_arr.keep K2 nin0)
  have z5 : n0 ≤ T2.heap.size := (Nat.le_trans Z0 K2.1)
  have c7 : Exa Z T2.heap o0 "java/util/ArrayList" := (E_o0.keep K2)
  obtain ⟨cq6, kq6, q6a, q6b, q6c⟩ := isOf hZ rfl c7
  -- pc 11: ArrayList.elementData by rm3818_1
  obtain ⟨_, _, ⟨T6, L6, k6, n6⟩, -, X6, ⟨Lc6, hQ6, l6, y6, z6'⟩, st6⟩ := X2.virtualBack hx (y := (⟨"java/util/ArrayList", "elementData", "(I)Ljava/lang/Object;"⟩ : MethodName)) (z := (⟨"java/util/ArrayList", "elementData", "(I)Ljava/lang/Object;"⟩ : MethodName)) hown (mvT hZ (hw _ (List.mem_of_getElem? (i := 165) rfl))) (mvT hZ (hw _ (List.mem_of_getElem? (i := 166) rfl))) (notFace_of_selects (args := #[]) (mvT hZ (hw _ (List.mem_of_getElem? (i := 168) rfl)))) (mvT hZ (hw _ (List.mem_of_getElem? (i := 168) rfl))) (mvT hZ (hw _ (List.mem_of_getElem? (i := 167) rfl))) (by decide) (backOf (W := 0) (rm3818_1 l Z a0 hw [] o0 arr ka vs r T2.heap n0 z5 c3 c4 hat) hZ (hw _ (List.mem_of_getElem? (i := 169) rfl)) (hw _ (List.mem_of_getElem? (i := 19) rfl)) (by decide) (by decide)) q6a q6c (g := (mkF m 11 #[.val (.ref o0), .val (.int (1 : Int32))] [(.int (1 : Int32)), (.ref o0)])) rfl (by rw [hml]; rfl) (Steps.refl _) (argsL := [(.int (1 : Int32))]) (rest := []) (lenOf pd_9 rfl) rfl (by show 2 * 0 + _ ≤ _; exact Nat.le_of_eq rfl) (hb hby d3820_11) (fun _ _ => ⟨rfl, rfl, (by decide : 0 + 0 ≤ _), (by decide : 0 + 0 ≤ _)⟩)
  dsimp only [Pt.U, Pt.locs, Pt.cells, Pt.slots] at X6 l6 y6 z6' st6 hQ6
  subst l6 y6 z6'
  obtain ⟨rfl, N6q, K6⟩ := hQ6
  have N6 := Fr.app N2 N6q
  have J6 : Keep h0 T6.heap [] := J2.trans K6 all0
  obtain ⟨fs, hr, hrun, hended, hW, hsame⟩ := X6.leave (v := some (.ref r)) (fun h => by rw [Bd.returns] at h; cases h)
  refine ⟨_, _, pre0 _ ?_, hrun, hended, _, _, rfl, ?_, ⟨_, rfl⟩, hW, hsame.mono (by decide) (by decide)⟩
  · show Steps p.tables e below (s₁.setTop (mkF m 0 #[.val (.ref o0), .val (.int (1 : Int32))] [])) _
    refine XS.iloadN X0.here hx rfl (hb hby d3820_0) rfl ?_
    show Steps p.tables e below (s₁.setTop (mkF m 1 #[.val (.ref o0), .val (.int (1 : Int32))] [(.int (1 : Int32))])) _
    refine XS.aloadN X0.here hx rfl (hb hby d3820_1) rfl rfl ?_
    show Steps p.tables e below (s₁.setTop (mkF m 2 #[.val (.ref o0), .val (.int (1 : Int32))] [(.ref o0), (.int (1 : Int32))])) _
    refine st1 _ ?_
    show Steps p.tables e below (T1.setTop (mkF m 5 #[.val (.ref o0), .val (.int (1 : Int32))] [(.int (2 : Int32)), (.int (1 : Int32))])) _
    refine st2 _ ?_
    show Steps p.tables e below (T2.setTop (mkF m 8 #[.val (.ref o0), .val (.int (1 : Int32))] [(.int (1 : Int32))])) _
    refine XS.pop X2.here hx rfl (hb hby d3820_8) rfl rfl ?_
    show Steps p.tables e below (T2.setTop (mkF m 9 #[.val (.ref o0), .val (.int (1 : Int32))] [])) _
    refine XS.aloadN X2.here hx rfl (hb hby d3820_9) rfl rfl ?_
    show Steps p.tables e below (T2.setTop (mkF m 10 #[.val (.ref o0), .val (.int (1 : Int32))] [(.ref o0)])) _
    refine XS.iloadN X2.here hx rfl (hb hby d3820_10) rfl ?_
    show Steps p.tables e below (T2.setTop (mkF m 11 #[.val (.ref o0), .val (.int (1 : Int32))] [(.int (1 : Int32)), (.ref o0)])) _
    refine st6.trans ?_
    show Steps p.tables e below (T6.setTop (mkF m 14 #[.val (.ref o0), .val (.int (1 : Int32))] [(.ref r)])) _
    jvm_step X6.here [X6.here.top, hx, (hb hby d3820_14), X6.method', Bd.returns, Value.isRef, FieldType.isReference]
    first | (intro acts; rw [hr _ acts rfl rfl rfl]) | rw [hr _ _ rfl rfl rfl]
    exact Steps.refl _
  · show Q3820_1_2 Z o0 arr ka vs r h0 n0 _ T6.heap _
    exact ⟨rfl, N6, J6⟩
theorem ef_4111_0_2 (m : MethodId)  : entryFrame m #[(.int (0 : Int32)), (.int (2 : Int32)), .null] 3 = mkF m 0 #[.val (.int (0 : Int32)), .val (.int (2 : Int32)), .val .null] [] := by first | (simp [entryFrame, mkF, argsToLocals, Value.category]; done) | rfl
def Q4111_0_2 (Z : State)  (h0 : Heap) (n0 : Nat) (v : Option Value) (h : Heap) (L : List Loc) : Prop := v = some (.int (0 : Int32)) ∧ Fr n0 L ∧ Keep h0 h []
set_option maxRecDepth 65536 in
set_option maxHeartbeats 40000000 in
theorem rm4111_0_2 (l : Launch) (Z : State) (a0 : Array Value) (hw : ∀ d ∈ tables_1, d.before a0 Z = true) (ws : List Jvm.Cond)  (h0 : Heap) (n0 : Nat) (Z0 : n0 ≤ h0.size) :
    MetFree l (⟨"jdk/internal/util/Preconditions", "checkIndex", "(IILjava/util/function/BiFunction;)I"⟩ : MethodName) (head1 (Jvm.Cond.code (⟨"jdk/internal/util/Preconditions", "checkIndex", "(IILjava/util/function/BiFunction;)I"⟩ : MethodName) jdk_41_method_11_code 3 (some .int) :: ws) ({ frames := 0, cells := 0, slots := 0, locals := 0 } : Room)) (fun a U => a = #[(.int (0 : Int32)), (.int (2 : Int32)), .null] ∧ Z.Warmed39 U.vm ∧ U.heap = h0) (fun _ _ _ _ _ => True) (fun _ U o U' => ∃ v L, o = .returned v ∧ Q4111_0_2 Z  h0 n0 v U'.heap L ∧ FrameEnd U o U' L ({ frames := 0, cells := 0, slots := 0, locals := 0 } : Room).cells ({ frames := 0, cells := 0, slots := 0, locals := 0 } : Room).slots) := by
  refine MetFree.of_bodySF (plainFor_of_name pn_jdk_internal_util_Preconditions) hisR ?_
  intro p e s m args below meth c s₁ Bd hml0 hP hK
  obtain ⟨rfl, hZ, hh⟩ := hP
  have hx := Bd.exec
  have hby := Bd.bytes
  have hml : c.maxLocals = 3 := hml0
  have hown : s.vm.findClass "jdk/internal/util/Preconditions" = some m.cls := findClass_of_methodNamed Bd.named
  have hnm := (name_of_methodNamed Bd.named Bd.method).1
  have X0 : Stand p l e ({ frames := 0, cells := 0, slots := 0, locals := 0 } : Room) s m #[(.int (0 : Int32)), (.int (2 : Int32)), .null] below meth c s₁ [] 0 0 := Stand.of_body Bd
  have e0 : s₁.heap = h0 := by rw [← hh, Bd.state]; rfl
  have N0 := Fr.nil n0
  have pre0 : ∀ t, Steps p.tables e below (s₁.setTop (mkF m 0 #[.val (.int (0 : Int32)), .val (.int (2 : Int32)), .val .null] [])) t → Steps p.tables e below (s₁.setTop (entryFrame m #[(.int (0 : Int32)), (.int (2 : Int32)), .null] 3)) t := fun t k => castTop (ef_4111_0_2 m ) k
  obtain ⟨fs, hr, hrun, hended, hW, hsame⟩ := X0.leave (v := some (.int (0 : Int32))) (fun h => by rw [Bd.returns] at h; cases h)
  refine ⟨_, _, pre0 _ ?_, hrun, hended, _, _, rfl, ?_, ⟨_, rfl⟩, hW, hsame.mono (by decide) (by decide)⟩
  · show Steps p.tables e below (s₁.setTop (mkF m 0 #[.val (.int (0 : Int32)), .val (.int (2 : Int32)), .val .null] [])) _
    refine XS.iloadN X0.here hx rfl (hb hby d4111_0) rfl ?_
    show Steps p.tables e below (s₁.setTop (mkF m 1 #[.val (.int (0 : Int32)), .val (.int (2 : Int32)), .val .null] [(.int (0 : Int32))])) _
    refine XS.ifNo X0.here hx rfl (hb hby d4111_1) rfl ((if0 _ _).trans (flt (by decide)).1) ?_
    show Steps p.tables e below (s₁.setTop (mkF m 4 #[.val (.int (0 : Int32)), .val (.int (2 : Int32)), .val .null] [])) _
    refine XS.iloadN X0.here hx rfl (hb hby d4111_4) rfl ?_
    show Steps p.tables e below (s₁.setTop (mkF m 5 #[.val (.int (0 : Int32)), .val (.int (2 : Int32)), .val .null] [(.int (0 : Int32))])) _
    refine XS.iloadN X0.here hx rfl (hb hby d4111_5) rfl ?_
    show Steps p.tables e below (s₁.setTop (mkF m 6 #[.val (.int (0 : Int32)), .val (.int (2 : Int32)), .val .null] [(.int (2 : Int32)), (.int (0 : Int32))])) _
    refine XS.icmpYes X0.here hx rfl (pc0 := 6) (pc' := 16) rfl (hb hby d4111_6) rfl (tlt (by decide)).1 (by decide) (by decide) ?_
    show Steps p.tables e below (s₁.setTop (mkF m 16 #[.val (.int (0 : Int32)), .val (.int (2 : Int32)), .val .null] [])) _
    refine XS.iloadN X0.here hx rfl (hb hby d4111_16) rfl ?_
    show Steps p.tables e below (s₁.setTop (mkF m 17 #[.val (.int (0 : Int32)), .val (.int (2 : Int32)), .val .null] [(.int (0 : Int32))])) _
    exact retI X0 hx Bd.returns (hb hby d4111_17) hr
  · show Q4111_0_2 Z  h0 n0 _ s₁.heap _
    rw [e0]
    exact ⟨rfl, N0, (Keep.refl h0 [])⟩
theorem ef_3117_0_2 (m : MethodId)  : entryFrame m #[(.int (0 : Int32)), (.int (2 : Int32))] 2 = mkF m 0 #[.val (.int (0 : Int32)), .val (.int (2 : Int32))] [] := by first | (simp [entryFrame, mkF, argsToLocals, Value.category]; done) | rfl
def Q3117_0_2 (Z : State)  (h0 : Heap) (n0 : Nat) (v : Option Value) (h : Heap) (L : List Loc) : Prop := v = some (.int (0 : Int32)) ∧ Fr n0 L ∧ Keep h0 h []
set_option maxRecDepth 65536 in
set_option maxHeartbeats 40000000 in
theorem rm3117_0_2 (l : Launch) (Z : State) (a0 : Array Value) (hw : ∀ d ∈ tables_1, d.before a0 Z = true) (ws : List Jvm.Cond)  (h0 : Heap) (n0 : Nat) (Z0 : n0 ≤ h0.size) :
    MetFree l (⟨"java/util/Objects", "checkIndex", "(II)I"⟩ : MethodName) (head1 (Jvm.Cond.code (⟨"java/util/Objects", "checkIndex", "(II)I"⟩ : MethodName) jdk_31_method_17_code 2 (some .int) :: ws) ({ frames := 1, cells := 0, slots := 0, locals := 14 } : Room)) (fun a U => a = #[(.int (0 : Int32)), (.int (2 : Int32))] ∧ Z.Warmed39 U.vm ∧ U.heap = h0) (fun _ _ _ _ _ => True) (fun _ U o U' => ∃ v L, o = .returned v ∧ Q3117_0_2 Z  h0 n0 v U'.heap L ∧ FrameEnd U o U' L ({ frames := 1, cells := 0, slots := 0, locals := 14 } : Room).cells ({ frames := 1, cells := 0, slots := 0, locals := 14 } : Room).slots) := by
  refine MetFree.of_bodySF (plainFor_of_name pn_java_util_Objects) hisR ?_
  intro p e s m args below meth c s₁ Bd hml0 hP hK
  obtain ⟨rfl, hZ, hh⟩ := hP
  have hx := Bd.exec
  have hby := Bd.bytes
  have hml : c.maxLocals = 2 := hml0
  have hown : s.vm.findClass "java/util/Objects" = some m.cls := findClass_of_methodNamed Bd.named
  have hnm := (name_of_methodNamed Bd.named Bd.method).1
  have X0 : Stand p l e ({ frames := 1, cells := 0, slots := 0, locals := 14 } : Room) s m #[(.int (0 : Int32)), (.int (2 : Int32))] below meth c s₁ [] 0 0 := Stand.of_body Bd
  have e0 : s₁.heap = h0 := by rw [← hh, Bd.state]; rfl
  have N0 := Fr.nil n0
  have pre0 : ∀ t, Steps p.tables e below (s₁.setTop (mkF m 0 #[.val (.int (0 : Int32)), .val (.int (2 : Int32))] [])) t → Steps p.tables e below (s₁.setTop (entryFrame m #[(.int (0 : Int32)), (.int (2 : Int32))] 2)) t := fun t k => castTop (ef_3117_0_2 m ) k
  -- pc 3: Preconditions.checkIndex by rm4111_0_2
  obtain ⟨_, _, ⟨T1, L1, k1, n1⟩, -, X1, ⟨Lc1, hQ1, l1, y1, z1'⟩, st1⟩ := Jvm.LawKit.callS X0 hx (y := (⟨"jdk/internal/util/Preconditions", "checkIndex", "(IILjava/util/function/BiFunction;)I"⟩ : MethodName)) hown (mvT hZ (hw _ (List.mem_of_getElem? (i := 161) rfl))) (mvT hZ (hw _ (List.mem_of_getElem? (i := 162) rfl))) (mvT hZ (hw _ (List.mem_of_getElem? (i := 163) rfl))) (mvT hZ (hw _ (List.mem_of_getElem? (i := 164) rfl))) (by decide) (backOf (W := 0) (rm4111_0_2 l Z a0 hw []  h0 n0 Z0 ) hZ (hw _ (List.mem_of_getElem? (i := 164) rfl)) (hw _ (List.mem_of_getElem? (i := 163) rfl)) (by decide) (by decide)) (g := (mkF m 3 #[.val (.int (0 : Int32)), .val (.int (2 : Int32))] [.null, (.int (2 : Int32)), (.int (0 : Int32))])) rfl (by rw [hml]; rfl) (argsL := [(.int (0 : Int32)), (.int (2 : Int32)), .null]) (rest := []) (lenOf pd_8 rfl) rfl (by show 2 * 0 + _ ≤ _; exact Nat.le_of_eq rfl) (hb hby d3117_3) (fun _ _ => ⟨rfl, e0, (by decide : 0 + 0 ≤ _), (by decide : 0 + 0 ≤ _)⟩)
  dsimp only [Pt.U, Pt.locs, Pt.cells, Pt.slots] at X1 l1 y1 z1' st1 hQ1
  subst l1 y1 z1'
  obtain ⟨rfl, N1q, K1⟩ := hQ1
  have N1 := Fr.app N0 N1q
  have J1 : Keep h0 T1.heap [] := (Keep.refl h0 []).trans K1 all0
  obtain ⟨fs, hr, hrun, hended, hW, hsame⟩ := X1.leave (v := some (.int (0 : Int32))) (fun h => by rw [Bd.returns] at h; cases h)
  refine ⟨_, _, pre0 _ ?_, hrun, hended, _, _, rfl, ?_, ⟨_, rfl⟩, hW, hsame.mono (by decide) (by decide)⟩
  · show Steps p.tables e below (s₁.setTop (mkF m 0 #[.val (.int (0 : Int32)), .val (.int (2 : Int32))] [])) _
    refine XS.iloadN X0.here hx rfl (hb hby d3117_0) rfl ?_
    show Steps p.tables e below (s₁.setTop (mkF m 1 #[.val (.int (0 : Int32)), .val (.int (2 : Int32))] [(.int (0 : Int32))])) _
    refine XS.iloadN X0.here hx rfl (hb hby d3117_1) rfl ?_
    show Steps p.tables e below (s₁.setTop (mkF m 2 #[.val (.int (0 : Int32)), .val (.int (2 : Int32))] [(.int (2 : Int32)), (.int (0 : Int32))])) _
    refine XS.aconstNull X0.here hx rfl (hb hby d3117_2) ?_
    show Steps p.tables e below (s₁.setTop (mkF m 3 #[.val (.int (0 : Int32)), .val (.int (2 : Int32))] [.null, (.int (2 : Int32)), (.int (0 : Int32))])) _
    refine st1 _ ?_
    show Steps p.tables e below (T1.setTop (mkF m 6 #[.val (.int (0 : Int32)), .val (.int (2 : Int32))] [(.int (0 : Int32))])) _
    exact retI X1 hx Bd.returns (hb hby d3117_6) hr
  · show Q3117_0_2 Z  h0 n0 _ T1.heap _
    exact ⟨rfl, N1, J1⟩
theorem ef_3820_0_2 (m : MethodId) (o0 : Addr) : entryFrame m #[(.ref o0), (.int (0 : Int32))] 2 = mkF m 0 #[.val (.ref o0), .val (.int (0 : Int32))] [] := by first | (simp [entryFrame, mkF, argsToLocals, Value.category]; done) | rfl
def Q3820_0_2 (Z : State) (o0 : Addr) (arr : Addr) (ka : ClassId) (vs : List Value) (r : Addr) (h0 : Heap) (n0 : Nat) (v : Option Value) (h : Heap) (L : List Loc) : Prop := v = some (.ref r) ∧ Fr n0 L ∧ Keep h0 h []
set_option maxRecDepth 65536 in
set_option maxHeartbeats 40000000 in
theorem rm3820_0_2 (l : Launch) (Z : State) (a0 : Array Value) (hw : ∀ d ∈ tables_1, d.before a0 Z = true) (ws : List Jvm.Cond) (o0 : Addr) (arr : Addr) (ka : ClassId) (vs : List Value) (r : Addr) (h0 : Heap) (n0 : Nat) (Z0 : n0 ≤ h0.size) (E_o0 : Exa Z h0 o0 "java/util/ArrayList") (F_size_o0 : Fld Z h0 o0 "java/util/ArrayList" "size" "I" (.int (2 : Int32))) (F_elementData_o0 : Fld Z h0 o0 "java/util/ArrayList" "elementData" "[Ljava/lang/Object;" (.ref arr)) (V_arr : Arv Z h0 arr ka (.object "java/lang/Object") (10 : Int32) vs .null) (hat : vs.getD (0 : Int32).toNatClampNeg .null = .ref r) :
    MetFree l (⟨"java/util/ArrayList", "get", "(I)Ljava/lang/Object;"⟩ : MethodName) (head1 (Jvm.Cond.code (⟨"java/util/ArrayList", "get", "(I)Ljava/lang/Object;"⟩ : MethodName) jdk_38_method_20_code 2 (some (.object "java/lang/Object")) :: ws) ({ frames := 2, cells := 0, slots := 0, locals := 27 } : Room)) (fun a U => a = #[(.ref o0), (.int (0 : Int32))] ∧ Z.Warmed39 U.vm ∧ U.heap = h0) (fun _ _ _ _ _ => True) (fun _ U o U' => ∃ v L, o = .returned v ∧ Q3820_0_2 Z o0 arr ka vs r h0 n0 v U'.heap L ∧ FrameEnd U o U' L ({ frames := 2, cells := 0, slots := 0, locals := 27 } : Room).cells ({ frames := 2, cells := 0, slots := 0, locals := 27 } : Room).slots) := by
  refine MetFree.of_bodySF (plainFor_of_name pn_java_util_ArrayList) hisR ?_
  intro p e s m args below meth c s₁ Bd hml0 hP hK
  obtain ⟨rfl, hZ, hh⟩ := hP
  have hx := Bd.exec
  have hby := Bd.bytes
  have hml : c.maxLocals = 2 := hml0
  have hown : s.vm.findClass "java/util/ArrayList" = some m.cls := findClass_of_methodNamed Bd.named
  have hnm := (name_of_methodNamed Bd.named Bd.method).1
  have X0 : Stand p l e ({ frames := 2, cells := 0, slots := 0, locals := 27 } : Room) s m #[(.ref o0), (.int (0 : Int32))] below meth c s₁ [] 0 0 := Stand.of_body Bd
  have e0 : s₁.heap = h0 := by rw [← hh, Bd.state]; rfl
  have N0 := Fr.nil n0
  have pre0 : ∀ t, Steps p.tables e below (s₁.setTop (mkF m 0 #[.val (.ref o0), .val (.int (0 : Int32))] [])) t → Steps p.tables e below (s₁.setTop (entryFrame m #[(.ref o0), (.int (0 : Int32))] 2)) t := fun t k => castTop (ef_3820_0_2 m o0) k
  obtain ⟨T1, X1, e1, st1⟩ := getF X0 hx hZ hown (host := "") (Or.inl (hw _ (List.mem_of_getElem? (i := 106) rfl))) Via.refl e0 F_size_o0 (g := (mkF m 2 #[.val (.ref o0), .val (.int (0 : Int32))] [(.ref o0), (.int (0 : Int32))])) rfl rfl (hb hby d3820_2)
  -- pc 5: Objects.checkIndex by rm3117_0_2
  obtain ⟨_, _, ⟨T2, L2, k2, n2⟩, -, X2, ⟨Lc2, hQ2, l2, y2, z2'⟩, st2⟩ := Jvm.LawKit.callS X1 hx (y := (⟨"java/util/Objects", "checkIndex", "(II)I"⟩ : MethodName)) hown (mvT hZ (hw _ (List.mem_of_getElem? (i := 157) rfl))) (mvT hZ (hw _ (List.mem_of_getElem? (i := 158) rfl))) (mvT hZ (hw _ (List.mem_of_getElem? (i := 159) rfl))) (mvT hZ (hw _ (List.mem_of_getElem? (i := 160) rfl))) (by decide) (backOf (W := 0) (rm3117_0_2 l Z a0 hw []  h0 n0 Z0 ) hZ (hw _ (List.mem_of_getElem? (i := 160) rfl)) (hw _ (List.mem_of_getElem? (i := 159) rfl)) (by decide) (by decide)) (g := (mkF m 5 #[.val (.ref o0), .val (.int (0 : Int32))] [(.int (2 : Int32)), (.int (0 : Int32))])) rfl (by rw [hml]; rfl) (argsL := [(.int (0 : Int32)), (.int (2 : Int32))]) (rest := []) (lenOf pd_4 rfl) rfl (by show 2 * 0 + _ ≤ _; exact Nat.le_of_eq rfl) (hb hby d3820_5) (fun _ _ => ⟨rfl, e1, (by decide : 0 + 0 ≤ _), (by decide : 0 + 0 ≤ _)⟩)
  dsimp only [Pt.U, Pt.locs, Pt.cells, Pt.slots] at X2 l2 y2 z2' st2 hQ2
  subst l2 y2 z2'
  obtain ⟨rfl, N2q, K2⟩ := hQ2
  have N2 := Fr.app N0 N2q
  have J2 : Keep h0 T2.heap [] := (Keep.refl h0 []).trans K2 all0
  have c3 : Fld Z T2.heap o0 "java/util/ArrayList" "elementData" "[Ljava/lang/Object;" (.ref arr) := (F_elementData_o0.keep K2 nin0)
  have c4 : Arv Z T2.heap arr ka (.object "java/lang/Object") (10 : Int32) vs .null := (V_arr.keep K2 nin0)
  have z5 : n0 ≤ T2.heap.size := (Nat.le_trans Z0 K2.1)
  have c7 : Exa Z T2.heap o0 "java/util/ArrayList" := (E_o0.keep K2)
  obtain ⟨cq6, kq6, q6a, q6b, q6c⟩ := isOf hZ rfl c7
  -- pc 11: ArrayList.elementData by rm3818_0
  obtain ⟨_, _, ⟨T6, L6, k6, n6⟩, -, X6, ⟨Lc6, hQ6, l6, y6, z6'⟩, st6⟩ := X2.virtualBack hx (y := (⟨"java/util/ArrayList", "elementData", "(I)Ljava/lang/Object;"⟩ : MethodName)) (z := (⟨"java/util/ArrayList", "elementData", "(I)Ljava/lang/Object;"⟩ : MethodName)) hown (mvT hZ (hw _ (List.mem_of_getElem? (i := 165) rfl))) (mvT hZ (hw _ (List.mem_of_getElem? (i := 166) rfl))) (notFace_of_selects (args := #[]) (mvT hZ (hw _ (List.mem_of_getElem? (i := 168) rfl)))) (mvT hZ (hw _ (List.mem_of_getElem? (i := 168) rfl))) (mvT hZ (hw _ (List.mem_of_getElem? (i := 167) rfl))) (by decide) (backOf (W := 0) (rm3818_0 l Z a0 hw [] o0 arr ka vs r T2.heap n0 z5 c3 c4 hat) hZ (hw _ (List.mem_of_getElem? (i := 169) rfl)) (hw _ (List.mem_of_getElem? (i := 19) rfl)) (by decide) (by decide)) q6a q6c (g := (mkF m 11 #[.val (.ref o0), .val (.int (0 : Int32))] [(.int (0 : Int32)), (.ref o0)])) rfl (by rw [hml]; rfl) (Steps.refl _) (argsL := [(.int (0 : Int32))]) (rest := []) (lenOf pd_9 rfl) rfl (by show 2 * 0 + _ ≤ _; exact Nat.le_of_eq rfl) (hb hby d3820_11) (fun _ _ => ⟨rfl, rfl, (by decide : 0 + 0 ≤ _), (by decide : 0 + 0 ≤ _)⟩)
  dsimp only [Pt.U, Pt.locs, Pt.cells, Pt.slots] at X6 l6 y6 z6' st6 hQ6
  subst l6 y6 z6'
  obtain ⟨rfl, N6q, K6⟩ := hQ6
  have N6 := Fr.app N2 N6q
  have J6 : Keep h0 T6.heap [] := J2.trans K6 all0
  obtain ⟨fs, hr, hrun, hended, hW, hsame⟩ := X6.leave (v := some (.ref r)) (fun h => by rw [Bd.returns] at h; cases h)
  refine ⟨_, _, pre0 _ ?_, hrun, hended, _, _, rfl, ?_, ⟨_, rfl⟩, hW, hsame.mono (by decide) (by decide)⟩
  · show Steps p.tables e below (s₁.setTop (mkF m 0 #[.val (.ref o0), .val (.int (0 : Int32))] [])) _
    refine XS.iloadN X0.here hx rfl (hb hby d3820_0) rfl ?_
    show Steps p.tables e below (s₁.setTop (mkF m 1 #[.val (.ref o0), .val (.int (0 : Int32))] [(.int (0 : Int32))])) _
    refine XS.aloadN X0.here hx rfl (hb hby d3820_1) rfl rfl ?_
    show Steps p.tables e below (s₁.setTop (mkF m 2 #[.val (.ref o0), .val (.int (0 : Int32))] [(.ref o0), (.int (0 : Int32))])) _
    refine st1 _ ?_
    show Steps p.tables e below (T1.setTop (mkF m 5 #[.val (.ref o0), .val (.int (0 : Int32))] [(.int (2 : Int32)), (.int (0 : Int32))])) _
    refine st2 _ ?_
    show Steps p.tables e below (T2.setTop (mkF m 8 #[.val (.ref o0), .val (.int (0 : Int32))] [(.int (0 : Int32))])) _
    refine XS.pop X2.here hx rfl (hb hby d3820_8) rfl rfl ?_
    show Steps p.tables e below (T2.setTop (mkF m 9 #[.val (.ref o0), .val (.int (0 : Int32))] [])) _
    refine XS.aloadN X2.here hx rfl (hb hby d3820_9) rfl rfl ?_
    show Steps p.tables e below (T2.setTop (mkF m 10 #[.val (.ref o0), .val (.int (0 : Int32))] [(.ref o0)])) _
    refine XS.iloadN X2.here hx rfl (hb hby d3820_10) rfl ?_
    show Steps p.tables e below (T2.setTop (mkF m 11 #[.val (.ref o0), .val (.int (0 : Int32))] [(.int (0 : Int32)), (.ref o0)])) _
    refine st6.trans ?_
    show Steps p.tables e below (T6.setTop (mkF m 14 #[.val (.ref o0), .val (.int (0 : Int32))] [(.ref r)])) _
    jvm_step X6.here [X6.here.top, hx, (hb hby d3820_14), X6.method', Bd.returns, Value.isRef, FieldType.isReference]
    first | (intro acts; rw [hr _ acts rfl rfl rfl]) | rw [hr _ _ rfl rfl rfl]
    exact Steps.refl _
  · show Q3820_0_2 Z o0 arr ka vs r h0 n0 _ T6.heap _
    exact ⟨rfl, N6, J6⟩
theorem d485_0 : decode prog_48_method_5_code 0 = .ok (.aload_n 0, 1) := by decide +kernel
theorem d485_1 : decode prog_48_method_5_code 1 = .ok (.dup, 1) := by decide +kernel
theorem d485_2 : decode prog_48_method_5_code 2 = .ok (.getfield 29, 3) := by decide +kernel
theorem d485_5 : decode prog_48_method_5_code 5 = .ok (.lconst 1, 1) := by decide +kernel
theorem d485_6 : decode prog_48_method_5_code 6 = .ok (.ladd, 1) := by decide +kernel
theorem d485_7 : decode prog_48_method_5_code 7 = .ok (.putfield 29, 3) := by decide +kernel
theorem d485_10 : decode prog_48_method_5_code 10 = .ok (.aload_n 0, 1) := by decide +kernel
theorem d485_11 : decode prog_48_method_5_code 11 = .ok (.getfield 10, 3) := by decide +kernel
theorem d485_14 : decode prog_48_method_5_code 14 = .ok (.invokeinterface 33 1, 5) := by decide +kernel
theorem d485_19 : decode prog_48_method_5_code 19 = .ok (.istore_n 3, 1) := by decide +kernel
theorem d485_20 : decode prog_48_method_5_code 20 = .ok (.iload_n 3, 1) := by decide +kernel
theorem d485_21 : decode prog_48_method_5_code 21 = .ok (.ifCond .le 32, 3) := by decide +kernel
theorem d485_53 : decode prog_48_method_5_code 53 = .ok (.iload_n 3, 1) := by decide +kernel
theorem d485_54 : decode prog_48_method_5_code 54 = .ok (.bipush 100, 2) := by decide +kernel
theorem d485_56 : decode prog_48_method_5_code 56 = .ok (.if_icmp .ge 40, 3) := by decide +kernel
theorem d485_59 : decode prog_48_method_5_code 59 = .ok (.aload_n 0, 1) := by decide +kernel
theorem d485_60 : decode prog_48_method_5_code 60 = .ok (.getfield 10, 3) := by decide +kernel
theorem d485_63 : decode prog_48_method_5_code 63 = .ok (.iload_n 3, 1) := by decide +kernel
theorem d485_64 : decode prog_48_method_5_code 64 = .ok (.aload_n 1, 1) := by decide +kernel
theorem d485_65 : decode prog_48_method_5_code 65 = .ok (.invokeinterface 47 3, 5) := by decide +kernel
theorem d485_70 : decode prog_48_method_5_code 70 = .ok (.aload_n 0, 1) := by decide +kernel
theorem d485_71 : decode prog_48_method_5_code 71 = .ok (.getfield 10, 3) := by decide +kernel
theorem d485_74 : decode prog_48_method_5_code 74 = .ok (.invokeinterface 33 1, 5) := by decide +kernel
theorem d485_79 : decode prog_48_method_5_code 79 = .ok (.bipush 100, 2) := by decide +kernel
theorem d485_81 : decode prog_48_method_5_code 81 = .ok (.if_icmp .le 15, 3) := by decide +kernel
theorem d485_96 : decode prog_48_method_5_code 96 = .ok (.return_, 1) := by decide +kernel
theorem pd_10 : parseMethodDescriptor "()I" = some ⟨[], some .int⟩ := by decide +kernel
theorem pd_11 : parseMethodDescriptor "(ILjava/lang/Object;)V" = some ⟨[.int, (.object "java/lang/Object")], none⟩ := by decide +kernel
theorem ef_485_0 (m : MethodId) (o0 : Addr) (o1 : Addr) (p2 : Int32) : entryFrame m #[(.ref o0), (.ref o1), (.int p2)] 4 = mkF m 0 #[.val (.ref o0), .val (.ref o1), .val (.int p2), .unset] [] := by first | (simp [entryFrame, mkF, argsToLocals, Value.category]; done) | rfl
def Q485_0 (Z : State) (o0 : Addr) (o1 : Addr) (p2 : Int32) (cnt : Int64) (li : Addr) (mc : Int32) (dd : Addr) (kd : ClassId) (lo : Int32) (co : Int32) (h0 : Heap) (n0 : Nat) (v : Option Value) (h : Heap) (L : List Loc) : Prop := ∃ na : Addr, ∃ nk : ClassId, ∃ y0 : Addr, ∃ m0 : Int32, ∃ d0 : Int32, v = none ∧ Fr n0 L ∧ Keep h0 h [o0, li] ∧ h0.size ≤ na ∧ Fld Z h o0 "com/example/tierline/tierline/csv/LineProblems" "count" "J" (.long (cnt + (1 : Int64))) ∧ Fld Z h o0 "com/example/tierline/tierline/csv/LineProblems" "listed" "Ljava/util/List;" (.ref li) ∧ Fld Z h li "java/util/ArrayList" "size" "I" (.int (1 : Int32)) ∧ Fld Z h li "java/util/AbstractList" "modCount" "I" (.int (mc + (1 : Int32))) ∧ Ovr Z nk "java/lang/Object" ∧ Exa Z h y0 "com/example/tierline/tierline/csv/LineProblems$Problem" ∧ Fld Z h y0 "com/example/tierline/tierline/csv/LineProblems$Problem" "line" "I" (.int m0) ∧ Fld Z h y0 "com/example/tierline/tierline/csv/LineProblems$Problem" "conflict" "Z" (.int d0) ∧ Fld Z h li "java/util/ArrayList" "elementData" "[Ljava/lang/Object;" (.ref na) ∧ Arv Z h na nk (.object "java/lang/Object") (10 : Int32) [(.ref y0)] .null
set_option maxRecDepth 65536 in
set_option maxHeartbeats 40000000 in
theorem rm485_0 (l : Launch) (Z : State) (a0 : Array Value) (hw : ∀ d ∈ tables_1, d.before a0 Z = true) (ws : List Jvm.Cond) (o0 : Addr) (o1 : Addr) (p2 : Int32) (cnt : Int64) (li : Addr) (mc : Int32) (dd : Addr) (kd : ClassId) (lo : Int32) (co : Int32) (h0 : Heap) (n0 : Nat) (Z0 : n0 ≤ h0.size) (E_o0 : Exa Z h0 o0 "com/example/tierline/tierline/csv/LineProblems") (F_count_o0 : Fld Z h0 o0 "com/example/tierline/tierline/csv/LineProblems" "count" "J" (.long cnt)) (F_listed_o0 : Fld Z h0 o0 "com/example/tierline/tierline/csv/LineProblems" "listed" "Ljava/util/List;" (.ref li)) (E_li : Exa Z h0 li "java/util/ArrayList") (F_size_li : Fld Z h0 li "java/util/ArrayList" "size" "I" (.int (0 : Int32))) (F_modCount_li : Fld Z h0 li "java/util/AbstractList" "modCount" "I" (.int mc)) (g_o0 : n0 ≤ o0) (g_li : n0 ≤ li) (F_elementData_li : Fld Z h0 li "java/util/ArrayList" "elementData" "[Ljava/lang/Object;" (.ref dd)) (V_dd : Arv Z h0 dd kd (.object "java/lang/Object") (0 : Int32) [] .null) (S_DEFAULTCAPACITY_EMPTY_ELEMENTDATA : Sta Z h0 "java/util/ArrayList" "DEFAULTCAPACITY_EMPTY_ELEMENTDATA" "[Ljava/lang/Object;" (.ref dd)) (E_o1 : Exa Z h0 o1 "com/example/tierline/tierline/csv/LineProblems$Problem") (F_line_o1 : Fld Z h0 o1 "com/example/tierline/tierline/csv/LineProblems$Problem" "line" "I" (.int lo)) (F_conflict_o1 : Fld Z h0 o1 "com/example/tierline/tierline/csv/LineProblems$Problem" "conflict" "Z" (.int co)) :
    MetFree l (⟨"com/example/tierline/tierline/csv/LineProblems", "add", "(Lcom/example/tierline/tierline/csv/LineProblems$Problem;Z)V"⟩ : MethodName) (head1 (Jvm.Cond.code (⟨"com/example/tierline/tierline/csv/LineProblems", "add", "(Lcom/example/tierline/tierline/csv/LineProblems$Problem;Z)V"⟩ : MethodName) prog_48_method_5_code 4 none :: ws) ({ frames := 4, cells := 1, slots := 10, locals := 57 } : Room)) (fun a U => a = #[(.ref o0), (.ref o1), (.int p2)] ∧ Z.Warmed39 U.vm ∧ U.heap = h0) (fun _ _ _ _ _ => True) (fun _ U o U' => ∃ v L, o = .returned v ∧ Q485_0 Z o0 o1 p2 cnt li mc dd kd lo co h0 n0 v U'.heap L ∧ FrameEnd U o U' L ({ frames := 4, cells := 1, slots := 10, locals := 57 } : Room).cells ({ frames := 4, cells := 1, slots := 10, locals := 57 } : Room).slots) := by
  refine MetFree.of_bodySF (plainFor_of_name pn_com_example_tierline_tierline_csv_LineProblems) hisR ?_
  intro p e s m args below meth c s₁ Bd hml0 hP hK
  obtain ⟨rfl, hZ, hh⟩ := hP
  have hx := Bd.exec
  have hby := Bd.bytes
  have hml : c.maxLocals = 4 := hml0
  have hown : s.vm.findClass "com/example/tierline/tierline/csv/LineProblems" = some m.cls := findClass_of_methodNamed Bd.named
  have hnm := (name_of_methodNamed Bd.named Bd.method).1
  have X0 : Stand p l e ({ frames := 4, cells := 1, slots := 10, locals := 57 } : Room) s m #[(.ref o0), (.ref o1), (.int p2)] below meth c s₁ [] 0 0 := Stand.of_body Bd
  have e0 : s₁.heap = h0 := by rw [← hh, Bd.state]; rfl
  have N0 := Fr.nil n0
  have pre0 : ∀ t, Steps p.tables e below (s₁.setTop (mkF m 0 #[.val (.ref o0), .val (.ref o1), .val (.int p2), .unset] [])) t → Steps p.tables e below (s₁.setTop (entryFrame m #[(.ref o0), (.ref o1), (.int p2)] 4)) t := fun t k => castTop (ef_485_0 m o0 o1 p2) k
  obtain ⟨T1, X1, e1, st1⟩ := getF X0 hx hZ hown (host := "") (Or.inl (hw _ (List.mem_of_getElem? (i := 50) rfl))) Via.refl e0 F_count_o0 (g := (mkF m 2 #[.val (.ref o0), .val (.ref o1), .val (.int p2), .unset] [(.ref o0), (.ref o0)])) rfl rfl (hb hby d485_2)
  have ne2 : dd ≠ o0 := (Ne.symm (Exa.neArv E_o0 V_dd (hw _ (List.mem_of_getElem? (i := 1) rfl))))
  have ne3 : li ≠ o0 := (ne_exa E_li E_o0 (by decide))
  have ne4 : o1 ≠ o0 := (ne_exa E_o1 E_o0 (by decide))
  obtain ⟨T5, h5, X5, e5, W5, st5⟩ := putF X1 hx hZ hown (host := "") (Or.inl (hw _ (List.mem_of_getElem? (i := 50) rfl))) Via.refl e1 F_count_o0 E_o0 (Or.inl (hw _ (List.mem_of_getElem? (i := 51) rfl))) (hw _ (List.mem_of_getElem? (i := 1) rfl)) (ty := .long) (by decide) rfl rfl (g := (mkF m 7 #[.val (.ref o0), .val (.ref o1), .val (.int p2), .unset] [(.long (cnt + (1 : Int64))), (.ref o0)])) rfl rfl (hb hby d485_7)
  have Fw5 : Fld Z h5 o0 "com/example/tierline/tierline/csv/LineProblems" "count" "J" (.long (cnt + (1 : Int64))) := F_count_o0.same W5
  have J5 : Keep h0 h5 [o0, li] := (Keep.refl h0 [o0, li]).wr W5 (Or.inl (List.mem_of_getElem? (i := 0) rfl))
  have N5 := Fr.snoc X5 N0 g_o0
  have c6 : Fld Z h5 o0 "com/example/tierline/tierline/csv/LineProblems" "listed" "Ljava/util/List;" (.ref li) := (F_listed_o0.other W5 (Or.inr (slot_ne (Or.inr (hw _ (List.mem_of_getElem? (i := 42) rfl))) (Or.inl (hw _ (List.mem_of_getElem? (i := 51) rfl))) (by decide) (t := (.object "java/util/List")) (t' := .long) (by decide) (by decide))))
  obtain ⟨T7, X7, e7, st7⟩ := getF X5 hx hZ hown (host := "") (Or.inl (hw _ (List.mem_of_getElem? (i := 41) rfl))) Via.refl e5 c6 (g := (mkF m 11 #[.val (.ref o0), .val (.ref o1), .val (.int p2), .unset] [(.ref o0)])) rfl rfl (hb hby d485_11)
  have c8 : Fld Z h5 li "java/util/ArrayList" "size" "I" (.int (0 : Int32)) := (F_size_li.other W5 (Or.inl ne3))
  have z9 : n0 ≤ h5.size := (Nat.le_trans Z0 (Keep.of_wr W5).1)
  have c11 : Exa Z h5 li "java/util/ArrayList" := (E_li.wr W5)
  obtain ⟨cq10, kq10, q10a, q10b, q10c⟩ := isOf hZ e7 c11
  -- pc 14: List.size by rm388
  obtain ⟨_, _, ⟨T10, L10, k10, n10⟩, -, X10, ⟨Lc10, hQ10, l10, y10, z10'⟩, st10⟩ := X7.interfaceBack hx (xi := (⟨"java/util/List", "size", "()I"⟩ : MethodName)) (y := (⟨"java/util/ArrayList", "size", "()I"⟩ : MethodName)) hown (mvT hZ (hw _ (List.mem_of_getElem? (i := 97) rfl))) (mvT hZ (hw _ (List.mem_of_getElem? (i := 98) rfl))) (mvT hZ (hw _ (List.mem_of_getElem? (i := 99) rfl))) (mvT hZ (hw _ (List.mem_of_getElem? (i := 100) rfl))) (mvT hZ (hw _ (List.mem_of_getElem? (i := 101) rfl))) (mvT hZ (hw _ (List.mem_of_getElem? (i := 102) rfl))) (mvT hZ (hw _ (List.mem_of_getElem? (i := 103) rfl))) (mvT hZ (hw _ (List.mem_of_getElem? (i := 104) rfl))) (by decide) (backOf (W := 0) (rm388 l Z a0 hw [] li (0 : Int32) h5 n0 z9 c8) hZ (hw _ (List.mem_of_getElem? (i := 105) rfl)) (hw _ (List.mem_of_getElem? (i := 19) rfl)) (by decide) (by decide)) q10a q10b q10c (g := (mkF m 14 #[.val (.ref o0), .val (.ref o1), .val (.int p2), .unset] [(.ref li)])) rfl (by rw [hml]; rfl) (Steps.refl _) (argsL := []) (rest := []) (lenOf pd_10 rfl) rfl (by show 2 * 0 + _ ≤ _; exact Nat.le_of_eq rfl) (hb hby d485_14) (fun _ _ => ⟨rfl, e7, (by decide : 0 + 0 ≤ _), (by decide : 0 + 0 ≤ _)⟩)
  dsimp only [Pt.U, Pt.locs, Pt.cells, Pt.slots] at X10 l10 y10 z10' st10 hQ10
  subst l10 y10 z10'
  obtain ⟨rfl, N10q, K10⟩ := hQ10
  have N10 := Fr.app N5 N10q
  have J10 : Keep h0 T10.heap [o0, li] := J5.trans K10 all0
  have c12 : Fld Z T10.heap o0 "com/example/tierline/tierline/csv/LineProblems" "listed" "Ljava/util/List;" (.ref li) := (c6.keep K10 nin0)
  obtain ⟨T13, X13, e13, st13⟩ := getF X10 hx hZ hown (host := "") (Or.inl (hw _ (List.mem_of_getElem? (i := 41) rfl))) Via.refl rfl c12 (g := (mkF m 60 #[.val (.ref o0), .val (.ref o1), .val (.int p2), .val (.int (0 : Int32))] [(.ref o0)])) rfl rfl (hb hby d485_60)
  have c14 : Exa Z T10.heap li "java/util/ArrayList" := (c11.keep K10)
  have c15 : Fld Z T10.heap li "java/util/ArrayList" "elementData" "[Ljava/lang/Object;" (.ref dd) := ((F_elementData_li.other W5 (Or.inl ne3)).keep K10 nin0)
  have c16 : Arv Z T10.heap dd kd (.object "java/lang/Object") (0 : Int32) [] .null := ((V_dd.other W5 ne2).keep K10 nin0)
  have c17 : Sta Z T10.heap "java/util/ArrayList" "DEFAULTCAPACITY_EMPTY_ELEMENTDATA" "[Ljava/lang/Object;" (.ref dd) := (own_Sta_keep (S_DEFAULTCAPACITY_EMPTY_ELEMENTDATA.wr W5) K10 all0)
  have c18 : Fld Z T10.heap li "java/util/ArrayList" "size" "I" (.int (0 : Int32)) := (c8.keep K10 nin0)
  have c19 : Fld Z T10.heap li "java/util/AbstractList" "modCount" "I" (.int mc) := ((F_modCount_li.other W5 (Or.inl ne3)).keep K10 nin0)
  have c20 : Exa Z T10.heap o1 "com/example/tierline/tierline/csv/LineProblems$Problem" := ((E_o1.wr W5).keep K10)
  have ne21 : dd ≠ li := (Ne.symm (Exa.neArv c14 c16 (hw _ (List.mem_of_getElem? (i := 18) rfl))))
  have ne22 : o1 ≠ li := (ne_exa c20 c14 (by decide))
  have z23 : n0 ≤ T10.heap.size := (Nat.le_trans z9 K10.1)
  obtain ⟨cq24, kq24, q24a, q24b, q24c⟩ := isOf hZ e13 c14
  -- pc 65: List.add by rm3826_0_0
  obtain ⟨_, _, ⟨T24, L24, k24, n24⟩, -, X24, ⟨Lc24, hQ24, l24, y24, z24'⟩, st24⟩ := X13.interfaceBack hx (xi := (⟨"java/util/List", "add", "(ILjava/lang/Object;)V"⟩ : MethodName)) (y := (⟨"java/util/ArrayList", "add", "(ILjava/lang/Object;)V"⟩ : MethodName)) hown (mvT hZ (hw _ (List.mem_of_getElem? (i := 108) rfl))) (mvT hZ (hw _ (List.mem_of_getElem? (i := 109) rfl))) (mvT hZ (hw _ (List.mem_of_getElem? (i := 110) rfl))) (mvT hZ (hw _ (List.mem_of_getElem? (i := 111) rfl))) (mvT hZ (hw _ (List.mem_of_getElem? (i := 112) rfl))) (mvT hZ (hw _ (List.mem_of_getElem? (i := 113) rfl))) (mvT hZ (hw _ (List.mem_of_getElem? (i := 114) rfl))) (mvT hZ (hw _ (List.mem_of_getElem? (i := 104) rfl))) (by decide) (backOf (W := 0) (rm3826_0_0 l Z a0 hw [] li o1 dd kd mc T10.heap n0 z23 c14 c15 c16 c17 c18 c19 g_li c20) hZ (hw _ (List.mem_of_getElem? (i := 115) rfl)) (hw _ (List.mem_of_getElem? (i := 19) rfl)) (by decide) (by decide)) q24a q24b q24c (g := (mkF m 65 #[.val (.ref o0), .val (.ref o1), .val (.int p2), .val (.int (0 : Int32))] [(.ref o1), (.int (0 : Int32)), (.ref li)])) rfl (by rw [hml]; rfl) (Steps.refl _) (argsL := [(.int (0 : Int32)), (.ref o1)]) (rest := []) (lenOf pd_11 rfl) rfl (by show 2 * 0 + _ ≤ _; exact Nat.le_of_eq rfl) (hb hby d485_65) (fun _ _ => ⟨rfl, e13, (by decide : 0 + 1 ≤ _), (by decide : 0 + 10 ≤ _)⟩)
  dsimp only [Pt.U, Pt.locs, Pt.cells, Pt.slots] at X24 l24 y24 z24' st24 hQ24
  subst l24 y24 z24'
  obtain ⟨b_24, kb_24, rfl, N24q, K24, r0_24, r1_24, r2_24, r3_24, r4_24, r5_24⟩ := hQ24
  have N24 := Fr.app N10 N24q
  have J24 : Keep h0 T24.heap [o0, li] := J10.trans K24 (allS (Or.inl (List.mem_of_getElem? (i := 1) rfl)) all0)
  have g_b_24 : n0 ≤ b_24 := Nat.le_trans z23 r0_24
  have sz_b_24 : h0.size ≤ b_24 := Nat.le_trans J10.1 r0_24
  have ne25 : o0 ≠ b_24 := Nat.ne_of_lt (Nat.lt_of_lt_of_le c12.lt r0_24)
  have ne26 : li ≠ b_24 := Nat.ne_of_lt (Nat.lt_of_lt_of_le c14.lt r0_24)
  have ne27 : dd ≠ b_24 := Nat.ne_of_lt (Nat.lt_of_lt_of_le c16.lt r0_24)
  have ne28 : o1 ≠ b_24 := Nat.ne_of_lt (Nat.lt_of_lt_of_le c20.lt r0_24)
  have c29 : Fld Z T24.heap o0 "com/example/tierline/tierline/csv/LineProblems" "listed" "Ljava/util/List;" (.ref li) := (c12.keep K24 (ninS (Ne.symm ne3) nin0))
  obtain ⟨T30, X30, e30, st30⟩ := getF X24 hx hZ hown (host := "") (Or.inl (hw _ (List.mem_of_getElem? (i := 41) rfl))) Via.refl rfl c29 (g := (mkF m 71 #[.val (.ref o0), .val (.ref o1), .val (.int p2), .val (.int (0 : Int32))] [(.ref o0)])) rfl rfl (hb hby d485_71)
  have z31 : n0 ≤ T24.heap.size := (Nat.le_trans z23 K24.1)
  have c33 : Exa Z T24.heap li "java/util/ArrayList" := (c14.keep K24)
  obtain ⟨cq32, kq32, q32a, q32b, q32c⟩ := isOf hZ e30 c33
  -- pc 74: List.size by rm388
  obtain ⟨_, _, ⟨T32, L32, k32, n32⟩, -, X32, ⟨Lc32, hQ32, l32, y32, z32'⟩, st32⟩ := X30.interfaceBack hx (xi := (⟨"java/util/List", "size", "()I"⟩ : MethodName)) (y := (⟨"java/util/ArrayList", "size", "()I"⟩ : MethodName)) hown (mvT hZ (hw _ (List.mem_of_getElem? (i := 97) rfl))) (mvT hZ (hw _ (List.mem_of_getElem? (i := 98) rfl))) (mvT hZ (hw _ (List.mem_of_getElem? (i := 99) rfl))) (mvT hZ (hw _ (List.mem_of_getElem? (i := 100) rfl))) (mvT hZ (hw _ (List.mem_of_getElem? (i := 101) rfl))) (mvT hZ (hw _ (List.mem_of_getElem? (i := 102) rfl))) (mvT hZ (hw _ (List.mem_of_getElem? (i := 103) rfl))) (mvT hZ (hw _ (List.mem_of_getElem? (i := 104) rfl))) (by decide) (backOf (W := 0) (rm388 l Z a0 hw [] li (1 : Int32) T24.heap n0 z31 r1_24) hZ (hw _ (List.mem_of_getElem? (i := 105) rfl)) (hw _ (List.mem_of_getElem? (i := 19) rfl)) (by decide) (by decide)) q32a q32b q32c (g := (mkF m 74 #[.val (.ref o0), .val (.ref o1), .val (.int p2), .val (.int (0 : Int32))] [(.ref li)])) rfl (by rw [hml]; rfl) (Steps.refl _) (argsL := []) (rest := []) (lenOf pd_10 rfl) rfl (by show 2 * 0 + _ ≤ _; exact Nat.le_of_eq rfl) (hb hby d485_74) (fun _ _ => ⟨rfl, e30, (by decide : 1 + 0 ≤ _), (by decide : 10 + 0 ≤ _)⟩)
  dsimp only [Pt.U, Pt.locs, Pt.cells, Pt.slots] at X32 l32 y32 z32' st32 hQ32
  subst l32 y32 z32'
  obtain ⟨rfl, N32q, K32⟩ := hQ32
  have N32 := Fr.app N24 N32q
  have J32 : Keep h0 T32.heap [o0, li] := J24.trans K32 all0
  have c34 : Fld Z T32.heap o0 "com/example/tierline/tierline/csv/LineProblems" "count" "J" (.long (cnt + (1 : Int64))) := (((Fw5.keep K10 nin0).keep K24 (ninS (Ne.symm ne3) nin0)).keep K32 nin0)
  have c35 : Fld Z T32.heap o0 "com/example/tierline/tierline/csv/LineProblems" "listed" "Ljava/util/List;" (.ref li) := (c29.keep K32 nin0)
  have c36 : Fld Z T32.heap li "java/util/ArrayList" "size" "I" (.int (1 : Int32)) := (r1_24.keep K32 nin0)
  have c37 : Fld Z T32.heap li "java/util/AbstractList" "modCount" "I" (.int (mc + (1 : Int32))) := (r2_24.keep K32 nin0)
  have c38 : Exa Z T32.heap o1 "com/example/tierline/tierline/csv/LineProblems$Problem" := ((c20.keep K24).keep K32)
  have c39 : Fld Z T32.heap o1 "com/example/tierline/tierline/csv/LineProblems$Problem" "line" "I" (.int lo) := ((((F_line_o1.other W5 (Or.inl ne4)).keep K10 nin0).keep K24 (ninS ne22 nin0)).keep K32 nin0)
  have c40 : Fld Z T32.heap o1 "com/example/tierline/tierline/csv/LineProblems$Problem" "conflict" "Z" (.int co) := ((((F_conflict_o1.other W5 (Or.inl ne4)).keep K10 nin0).keep K24 (ninS ne22 nin0)).keep K32 nin0)
  have c41 : Fld Z T32.heap li "java/util/ArrayList" "elementData" "[Ljava/lang/Object;" (.ref b_24) := (r3_24.keep K32 nin0)
  have c42 : Arv Z T32.heap b_24 kb_24 (.object "java/lang/Object") (10 : Int32) [(.ref o1)] .null := (r4_24.keep K32 nin0)
  obtain ⟨fs, hr, hrun, hended, hW, hsame⟩ := X32.leave (v := none) (fun _ => rfl)
  refine ⟨_, _, pre0 _ ?_, hrun, hended, _, _, rfl, ?_, ⟨_, rfl⟩, hW, hsame.mono (by decide) (by decide)⟩
  · show Steps p.tables e below (s₁.setTop (mkF m 0 #[.val (.ref o0), .val (.ref o1), .val (.int p2), .unset] [])) _
    refine XS.aloadN X0.here hx rfl (hb hby d485_0) rfl rfl ?_
    show Steps p.tables e below (s₁.setTop (mkF m 1 #[.val (.ref o0), .val (.ref o1), .val (.int p2), .unset] [(.ref o0)])) _
    refine XS.dup X0.here hx rfl (hb hby d485_1) rfl rfl ?_
    show Steps p.tables e below (s₁.setTop (mkF m 2 #[.val (.ref o0), .val (.ref o1), .val (.int p2), .unset] [(.ref o0), (.ref o0)])) _
    refine st1 _ ?_
    show Steps p.tables e below (T1.setTop (mkF m 5 #[.val (.ref o0), .val (.ref o1), .val (.int p2), .unset] [(.long cnt), (.ref o0)])) _
    refine XS.lconst X1.here hx rfl (hb hby d485_5) ?_
    show Steps p.tables e below (T1.setTop (mkF m 6 #[.val (.ref o0), .val (.ref o1), .val (.int p2), .unset] [(.long (1 : Int64)), (.long cnt), (.ref o0)])) _
    refine XS.ladd X1.here hx rfl (hb hby d485_6) rfl ?_
    show Steps p.tables e below (T1.setTop (mkF m 7 #[.val (.ref o0), .val (.ref o1), .val (.int p2), .unset] [(.long (cnt + (1 : Int64))), (.ref o0)])) _
    refine st5 _ ?_
    show Steps p.tables e below (T5.setTop (mkF m 10 #[.val (.ref o0), .val (.ref o1), .val (.int p2), .unset] [])) _
    refine XS.aloadN X5.here hx rfl (hb hby d485_10) rfl rfl ?_
    show Steps p.tables e below (T5.setTop (mkF m 11 #[.val (.ref o0), .val (.ref o1), .val (.int p2), .unset] [(.ref o0)])) _
    refine st7 _ ?_
    show Steps p.tables e below (T7.setTop (mkF m 14 #[.val (.ref o0), .val (.ref o1), .val (.int p2), .unset] [(.ref li)])) _
    refine st10.trans ?_
    show Steps p.tables e below (T10.setTop (mkF m 19 #[.val (.ref o0), .val (.ref o1), .val (.int p2), .unset] [(.int (0 : Int32))])) _
    refine XS.istoreN X10.here hx rfl (hb hby d485_19) rfl (l' := #[.val (.ref o0), .val (.ref o1), .val (.int p2), .val (.int (0 : Int32))]) rfl ?_
    show Steps p.tables e below (T10.setTop (mkF m 20 #[.val (.ref o0), .val (.ref o1), .val (.int p2), .val (.int (0 : Int32))] [])) _
    refine XS.iloadN X10.here hx rfl (hb hby d485_20) rfl ?_
    show Steps p.tables e below (T10.setTop (mkF m 21 #[.val (.ref o0), .val (.ref o1), .val (.int p2), .val (.int (0 : Int32))] [(.int (0 : Int32))])) _
    refine XS.ifYes X10.here hx rfl (pc0 := 21) (pc' := 53) rfl (hb hby d485_21) rfl ((if0 _ _).trans (flt (by decide)).2.2.2) (by decide) (by decide) ?_
    show Steps p.tables e below (T10.setTop (mkF m 53 #[.val (.ref o0), .val (.ref o1), .val (.int p2), .val (.int (0 : Int32))] [])) _
    refine XS.iloadN X10.here hx rfl (hb hby d485_53) rfl ?_
    show Steps p.tables e below (T10.setTop (mkF m 54 #[.val (.ref o0), .val (.ref o1), .val (.int p2), .val (.int (0 : Int32))] [(.int (0 : Int32))])) _
    refine XS.bipush X10.here hx rfl (hb hby d485_54) ?_
    show Steps p.tables e below (T10.setTop (mkF m 56 #[.val (.ref o0), .val (.ref o1), .val (.int p2), .val (.int (0 : Int32))] [(.int (100 : Int32)), (.int (0 : Int32))])) _
    refine XS.icmpNo X10.here hx rfl (hb hby d485_56) rfl (tlt (by decide)).2.1 ?_
    show Steps p.tables e below (T10.setTop (mkF m 59 #[.val (.ref o0), .val (.ref o1), .val (.int p2), .val (.int (0 : Int32))] [])) _
    refine XS.aloadN X10.here hx rfl (hb hby d485_59) rfl rfl ?_
    show Steps p.tables e below (T10.setTop (mkF m 60 #[.val (.ref o0), .val (.ref o1), .val (.int p2), .val (.int (0 : Int32))] [(.ref o0)])) _
    refine st13 _ ?_
    show Steps p.tables e below (T13.setTop (mkF m 63 #[.val (.ref o0), .val (.ref o1), .val (.int p2), .val (.int (0 : Int32))] [(.ref li)])) _
    refine XS.iloadN X13.here hx rfl (hb hby d485_63) rfl ?_
    show Steps p.tables e below (T13.setTop (mkF m 64 #[.val (.ref o0), .val (.ref o1), .val (.int p2), .val (.int (0 : Int32))] [(.int (0 : Int32)), (.ref li)])) _
    refine XS.aloadN X13.here hx rfl (hb hby d485_64) rfl rfl ?_
    show Steps p.tables e below (T13.setTop (mkF m 65 #[.val (.ref o0), .val (.ref o1), .val (.int p2), .val (.int (0 : Int32))] [(.ref o1), (.int (0 : Int32)), (.ref li)])) _
    refine st24.trans ?_
    show Steps p.tables e below (T24.setTop (mkF m 70 #[.val (.ref o0), .val (.ref o1), .val (.int p2), .val (.int (0 : Int32))] [])) _
    refine XS.aloadN X24.here hx rfl (hb hby d485_70) rfl rfl ?_
    show Steps p.tables e below (T24.setTop (mkF m 71 #[.val (.ref o0), .val (.ref o1), .val (.int p2), .val (.int (0 : Int32))] [(.ref o0)])) _
    refine st30 _ ?_
    show Steps p.tables e below (T30.setTop (mkF m 74 #[.val (.ref o0), .val (.ref o1), .val (.int p2), .val (.int (0 : Int32))] [(.ref li)])) _
    refine st32.trans ?_
    show Steps p.tables e below (T32.setTop (mkF m 79 #[.val (.ref o0), .val (.ref o1), .val (.int p2), .val (.int (0 : Int32))] [(.int (1 : Int32))])) _
    refine XS.bipush X32.here hx rfl (hb hby d485_79) ?_
    show Steps p.tables e below (T32.setTop (mkF m 81 #[.val (.ref o0), .val (.ref o1), .val (.int p2), .val (.int (0 : Int32))] [(.int (100 : Int32)), (.int (1 : Int32))])) _
    refine XS.icmpYes X32.here hx rfl (pc0 := 81) (pc' := 96) rfl (hb hby d485_81) rfl (flt (by decide)).2.2.2 (by decide) (by decide) ?_
    show Steps p.tables e below (T32.setTop (mkF m 96 #[.val (.ref o0), .val (.ref o1), .val (.int p2), .val (.int (0 : Int32))] [])) _
    exact X32.returnOut hx Bd.returns (hb hby d485_96) hr
  · show Q485_0 Z o0 o1 p2 cnt li mc dd kd lo co h0 n0 _ T32.heap _
    exact ⟨b_24, kb_24, o1, lo, co, rfl, N32, J32, sz_b_24, c34, c35, c36, c37, r5_24, c38, c39, c40, c41, c42⟩
theorem d482_0 : decode prog_48_method_2_code 0 = .ok (.aload_n 0, 1) := by decide +kernel
theorem d482_1 : decode prog_48_method_2_code 1 = .ok (.new 20, 3) := by decide +kernel
theorem d482_4 : decode prog_48_method_2_code 4 = .ok (.dup, 1) := by decide +kernel
theorem d482_5 : decode prog_48_method_2_code 5 = .ok (.iload_n 1, 1) := by decide +kernel
theorem d482_6 : decode prog_48_method_2_code 6 = .ok (.aload_n 2, 1) := by decide +kernel
theorem d482_7 : decode prog_48_method_2_code 7 = .ok (.iconst 0, 1) := by decide +kernel
theorem d482_8 : decode prog_48_method_2_code 8 = .ok (.invokespecial 22, 3) := by decide +kernel
theorem d482_11 : decode prog_48_method_2_code 11 = .ok (.iconst 0, 1) := by decide +kernel
theorem d482_12 : decode prog_48_method_2_code 12 = .ok (.invokevirtual 25, 3) := by decide +kernel
theorem d482_15 : decode prog_48_method_2_code 15 = .ok (.return_, 1) := by decide +kernel
theorem pd_12 : parseMethodDescriptor "(ILjava/lang/String;Z)V" = some ⟨[.int, (.object "java/lang/String"), .boolean], none⟩ := by decide +kernel
theorem pd_13 : parseMethodDescriptor "(Lcom/example/tierline/tierline/csv/LineProblems$Problem;Z)V" = some ⟨[(.object "com/example/tierline/tierline/csv/LineProblems$Problem"), .boolean], none⟩ := by decide +kernel
theorem ef_482_0 (m : MethodId) (o0 : Addr) (p1 : Int32) (o2 : Addr) : entryFrame m #[(.ref o0), (.int p1), (.ref o2)] 3 = mkF m 0 #[.val (.ref o0), .val (.int p1), .val (.ref o2)] [] := by first | (simp [entryFrame, mkF, argsToLocals, Value.category]; done) | rfl
def Q482_0 (Z : State) (o0 : Addr) (p1 : Int32) (o2 : Addr) (cnt : Int64) (li : Addr) (mc : Int32) (dd : Addr) (kd : ClassId) (h0 : Heap) (n0 : Nat) (v : Option Value) (h : Heap) (L : List Loc) : Prop := ∃ na : Addr, ∃ nk : ClassId, ∃ y0 : Addr, ∃ m0 : Int32, ∃ d0 : Int32, v = none ∧ Fr n0 L ∧ Keep h0 h [o0, li] ∧ h0.size ≤ na ∧ Fld Z h o0 "com/example/tierline/tierline/csv/LineProblems" "count" "J" (.long (cnt + (1 : Int64))) ∧ Fld Z h o0 "com/example/tierline/tierline/csv/LineProblems" "listed" "Ljava/util/List;" (.ref li) ∧ Fld Z h li "java/util/ArrayList" "size" "I" (.int (1 : Int32)) ∧ Fld Z h li "java/util/AbstractList" "modCount" "I" (.int (mc + (1 : Int32))) ∧ Ovr Z nk "java/lang/Object" ∧ Exa Z h y0 "com/example/tierline/tierline/csv/LineProblems$Problem" ∧ Fld Z h y0 "com/example/tierline/tierline/csv/LineProblems$Problem" "line" "I" (.int m0) ∧ Fld Z h y0 "com/example/tierline/tierline/csv/LineProblems$Problem" "conflict" "Z" (.int d0) ∧ Fld Z h li "java/util/ArrayList" "elementData" "[Ljava/lang/Object;" (.ref na) ∧ Arv Z h na nk (.object "java/lang/Object") (10 : Int32) [(.ref y0)] .null
set_option maxRecDepth 65536 in
set_option maxHeartbeats 40000000 in
theorem rm482_0 (l : Launch) (Z : State) (a0 : Array Value) (hw : ∀ d ∈ tables_1, d.before a0 Z = true) (ws : List Jvm.Cond) (o0 : Addr) (p1 : Int32) (o2 : Addr) (cnt : Int64) (li : Addr) (mc : Int32) (dd : Addr) (kd : ClassId) (h0 : Heap) (n0 : Nat) (Z0 : n0 ≤ h0.size) (E_o0 : Exa Z h0 o0 "com/example/tierline/tierline/csv/LineProblems") (F_count_o0 : Fld Z h0 o0 "com/example/tierline/tierline/csv/LineProblems" "count" "J" (.long cnt)) (F_listed_o0 : Fld Z h0 o0 "com/example/tierline/tierline/csv/LineProblems" "listed" "Ljava/util/List;" (.ref li)) (E_li : Exa Z h0 li "java/util/ArrayList") (F_size_li : Fld Z h0 li "java/util/ArrayList" "size" "I" (.int (0 : Int32))) (F_modCount_li : Fld Z h0 li "java/util/AbstractList" "modCount" "I" (.int mc)) (g_o0 : n0 ≤ o0) (g_li : n0 ≤ li) (F_elementData_li : Fld Z h0 li "java/util/ArrayList" "elementData" "[Ljava/lang/Object;" (.ref dd)) (V_dd : Arv Z h0 dd kd (.object "java/lang/Object") (0 : Int32) [] .null) (S_DEFAULTCAPACITY_EMPTY_ELEMENTDATA : Sta Z h0 "java/util/ArrayList" "DEFAULTCAPACITY_EMPTY_ELEMENTDATA" "[Ljava/lang/Object;" (.ref dd)) :
    MetFree l (⟨"com/example/tierline/tierline/csv/LineProblems", "add", "(ILjava/lang/String;)V"⟩ : MethodName) (head1 (Jvm.Cond.code (⟨"com/example/tierline/tierline/csv/LineProblems", "add", "(ILjava/lang/String;)V"⟩ : MethodName) prog_48_method_2_code 3 none :: ws) ({ frames := 5, cells := 2, slots := 13, locals := 72 } : Room)) (fun a U => a = #[(.ref o0), (.int p1), (.ref o2)] ∧ Z.Warmed39 U.vm ∧ U.heap = h0) (fun _ _ _ _ _ => True) (fun _ U o U' => ∃ v L, o = .returned v ∧ Q482_0 Z o0 p1 o2 cnt li mc dd kd h0 n0 v U'.heap L ∧ FrameEnd U o U' L ({ frames := 5, cells := 2, slots := 13, locals := 72 } : Room).cells ({ frames := 5, cells := 2, slots := 13, locals := 72 } : Room).slots) := by
  refine MetFree.of_bodySF (plainFor_of_name pn_com_example_tierline_tierline_csv_LineProblems) hisR ?_
  intro p e s m args below meth c s₁ Bd hml0 hP hK
  obtain ⟨rfl, hZ, hh⟩ := hP
  have hx := Bd.exec
  have hby := Bd.bytes
  have hml : c.maxLocals = 3 := hml0
  have hown : s.vm.findClass "com/example/tierline/tierline/csv/LineProblems" = some m.cls := findClass_of_methodNamed Bd.named
  have hnm := (name_of_methodNamed Bd.named Bd.method).1
  have X0 : Stand p l e ({ frames := 5, cells := 2, slots := 13, locals := 72 } : Room) s m #[(.ref o0), (.int p1), (.ref o2)] below meth c s₁ [] 0 0 := Stand.of_body Bd
  have e0 : s₁.heap = h0 := by rw [← hh, Bd.state]; rfl
  have N0 := Fr.nil n0
  have pre0 : ∀ t, Steps p.tables e below (s₁.setTop (mkF m 0 #[.val (.ref o0), .val (.int p1), .val (.ref o2)] [])) t → Steps p.tables e below (s₁.setTop (entryFrame m #[(.ref o0), (.int p1), (.ref o2)] 3)) t := fun t k => castTop (ef_482_0 m o0 p1 o2) k
  obtain ⟨T1, h1, X1, e1, E1, A1, D1, U1, st1⟩ := newO X0 hx hZ hown (hw _ (List.mem_of_getElem? (i := 80) rfl)) (hw _ (List.mem_of_getElem? (i := 81) rfl)) (hw _ (List.mem_of_getElem? (i := 82) rfl)) e0 (g := (mkF m 1 #[.val (.ref o0), .val (.int p1), .val (.ref o2)] [(.ref o0)])) rfl (hb hby d482_1) (by decide) (by decide)
  obtain ⟨b1, g1⟩ : ∃ z, z = h0.size := ⟨_, rfl⟩
  rw [← g1] at A1 D1 U1 st1
  have g_b1 : n0 ≤ b1 := Nat.le_trans Z0 (Nat.le_of_eq g1.symm)
  have sz_b1 : h0.size ≤ b1 := Nat.le_trans (Keep.refl h0 [o0, li]).1 (Nat.le_of_eq g1.symm)
  have ne2 : o0 ≠ b1 := Nat.ne_of_lt (Nat.lt_of_lt_of_le E_o0.lt (Nat.le_of_eq g1.symm))
  have ne3 : li ≠ b1 := Nat.ne_of_lt (Nat.lt_of_lt_of_le E_li.lt (Nat.le_of_eq g1.symm))
  have ne4 : dd ≠ b1 := Nat.ne_of_lt (Nat.lt_of_lt_of_le V_dd.lt (Nat.le_of_eq g1.symm))
  have F_line_b1 : Fld Z h1 b1 "com/example/tierline/tierline/csv/LineProblems$Problem" "line" "I" (.int (0 : Int32)) := D1 (Or.inr (hw _ (List.mem_of_getElem? (i := 88) rfl))) (ty := .int) (by decide)
  have F_reason_b1 : Fld Z h1 b1 "com/example/tierline/tierline/csv/LineProblems$Problem" "reason" "Ljava/lang/String;" .null := D1 (Or.inr (hw _ (List.mem_of_getElem? (i := 90) rfl))) (ty := (.object "java/lang/String")) (by decide)
  have F_conflict_b1 : Fld Z h1 b1 "com/example/tierline/tierline/csv/LineProblems$Problem" "conflict" "Z" (.int (0 : Int32)) := D1 (Or.inr (hw _ (List.mem_of_getElem? (i := 92) rfl))) (ty := .boolean) (by decide)
  have J1 : Keep h0 h1 [o0, li] := (Keep.refl h0 [o0, li]).ext E1
  have z5 : n0 ≤ h1.size := (Nat.le_trans Z0 E1.1)
  -- pc 8: LineProblems$Problem.<init> by rm49
  obtain ⟨_, _, ⟨T6, L6, k6, n6⟩, -, X6, ⟨Lc6, hQ6, l6, y6, z6'⟩, st6⟩ := own_specialBackR X1 hx (y := (⟨"com/example/tierline/tierline/csv/LineProblems$Problem", "<init>", "(ILjava/lang/String;Z)V"⟩ : MethodName)) rfl hown (own_mvRef hZ (hw _ (List.mem_of_getElem? (i := 83) rfl)) (hw _ (List.mem_of_getElem? (i := 84) rfl)) (by decide)) (mvT hZ (hw _ (List.mem_of_getElem? (i := 84) rfl))) (mvT hZ (hw _ (List.mem_of_getElem? (i := 85) rfl))) (by decide) (backOf (W := 2) (rm49 l Z a0 hw [] b1 p1 o2 (0 : Int32) h1 n0 z5 A1 F_line_b1 F_reason_b1 F_conflict_b1 g_b1) hZ (hw _ (List.mem_of_getElem? (i := 85) rfl)) (hw _ (List.mem_of_getElem? (i := 82) rfl)) (by decide) (by decide)) (g := (mkF m 8 #[.val (.ref o0), .val (.int p1), .val (.ref o2)] [(.int (0 : Int32)), (.ref o2), (.int p1), (.ref b1), (.ref b1), (.ref o0)])) rfl (by rw [hml]; rfl) (Steps.refl _) (a := b1) (argsL := [(.int p1), (.ref o2), (.int (0 : Int32))]) (rest := [(.ref b1), (.ref o0)]) (lenOf pd_12 rfl) rfl (by show 2 * 0 + _ ≤ _; exact Nat.le_of_eq rfl) (hb hby d482_8) (fun _ _ => ⟨rfl, e1, (by decide : 1 + 0 ≤ _), (by decide : 3 + 0 ≤ _)⟩)
  dsimp only [Pt.U, Pt.locs, Pt.cells, Pt.slots] at X6 l6 y6 z6' st6 hQ6
  subst l6 y6 z6'
  obtain ⟨rfl, N6q, K6, r0_6, r1_6⟩ := hQ6
  have N6 := Fr.app N0 N6q
  have J6 : Keep h0 T6.heap [o0, li] := J1.trans K6 (allS (Or.inr sz_b1) all0)
  have c7 : Exa Z T6.heap o0 "com/example/tierline/tierline/csv/LineProblems" := ((E_o0.ext E1).keep K6)
  have c8 : Fld Z T6.heap o0 "com/example/tierline/tierline/csv/LineProblems" "count" "J" (.long cnt) := ((F_count_o0.ext E1).keep K6 (ninS ne2 nin0))
  have c9 : Fld Z T6.heap o0 "com/example/tierline/tierline/csv/LineProblems" "listed" "Ljava/util/List;" (.ref li) := ((F_listed_o0.ext E1).keep K6 (ninS ne2 nin0))
  have c10 : Exa Z T6.heap li "java/util/ArrayList" := ((E_li.ext E1).keep K6)
  have c11 : Fld Z T6.heap li "java/util/ArrayList" "size" "I" (.int (0 : Int32)) := ((F_size_li.ext E1).keep K6 (ninS ne3 nin0))
  have c12 : Fld Z T6.heap li "java/util/AbstractList" "modCount" "I" (.int mc) := ((F_modCount_li.ext E1).keep K6 (ninS ne3 nin0))
  have c13 : Fld Z T6.heap li "java/util/ArrayList" "elementData" "[Ljava/lang/Object;" (.ref dd) := ((F_elementData_li.ext E1).keep K6 (ninS ne3 nin0))
  have c14 : Arv Z T6.heap dd kd (.object "java/lang/Object") (0 : Int32) [] .null := ((V_dd.ext E1).keep K6 (ninS ne4 nin0))
  have c15 : Sta Z T6.heap "java/util/ArrayList" "DEFAULTCAPACITY_EMPTY_ELEMENTDATA" "[Ljava/lang/Object;" (.ref dd) := (own_Sta_keep (S_DEFAULTCAPACITY_EMPTY_ELEMENTDATA.ext E1) K6 (allS A1.nostat all0))
  have c16 : Exa Z T6.heap b1 "com/example/tierline/tierline/csv/LineProblems$Problem" := (A1.keep K6)
  have ne17 : dd ≠ o0 := (Ne.symm (Exa.neArv c7 c14 (hw _ (List.mem_of_getElem? (i := 1) rfl))))
  have ne18 : li ≠ o0 := (ne_exa c10 c7 (by decide))
  have ne19 : dd ≠ li := (Ne.symm (Exa.neArv c10 c14 (hw _ (List.mem_of_getElem? (i := 18) rfl))))
  have z20 : n0 ≤ T6.heap.size := (Nat.le_trans z5 K6.1)
  obtain ⟨cq21, qh21, qh21'⟩ := c7.cell
  -- pc 12: LineProblems.add by rm485_0
  obtain ⟨_, _, ⟨T21, L21, k21, n21⟩, -, X21, ⟨Lc21, hQ21, l21, y21, z21'⟩, st21⟩ := X6.privateBack hx (y := (⟨"com/example/tierline/tierline/csv/LineProblems", "add", "(Lcom/example/tierline/tierline/csv/LineProblems$Problem;Z)V"⟩ : MethodName)) hown (mvT hZ (hw _ (List.mem_of_getElem? (i := 93) rfl))) (mvT hZ (hw _ (List.mem_of_getElem? (i := 94) rfl))) (own_selP hZ (hw _ (List.mem_of_getElem? (i := 1) rfl)) (hw _ (List.mem_of_getElem? (i := 95) rfl)) (hw _ (List.mem_of_getElem? (i := 94) rfl)) (by decide)) (Cond.privateMethod_at (mvP hZ (hw _ (List.mem_of_getElem? (i := 95) rfl)) (args := #[]))) (mvT hZ (hw _ (List.mem_of_getElem? (i := 96) rfl))) (by decide) (backOf (W := 0) (rm485_0 l Z a0 hw [] o0 b1 (0 : Int32) cnt li mc dd kd p1 (nar .boolean (0 : Int32)) T6.heap n0 z20 c7 c8 c9 c10 c11 c12 g_o0 g_li c13 c14 c15 c16 r0_6 r1_6) hZ (hw _ (List.mem_of_getElem? (i := 96) rfl)) (hw _ (List.mem_of_getElem? (i := 2) rfl)) (by decide) (by decide)) (g := (mkF m 12 #[.val (.ref o0), .val (.int p1), .val (.ref o2)] [(.int (0 : Int32)), (.ref b1), (.ref o0)])) rfl (by rw [hml]; rfl) (Steps.refl _) (a := o0) qh21 qh21' (argsL := [(.ref b1), (.int (0 : Int32))]) (rest := []) (lenOf pd_13 rfl) rfl (by show 2 * 0 + _ ≤ _; exact Nat.le_of_eq rfl) (hb hby d482_12) (fun _ _ => ⟨rfl, rfl, (by decide : 1 + 1 ≤ _), (by decide : 3 + 10 ≤ _)⟩)
  dsimp only [Pt.U, Pt.locs, Pt.cells, Pt.slots] at X21 l21 y21 z21' st21 hQ21
  subst l21 y21 z21'
  obtain ⟨na_21, nk_21, y0_21, m0_21, d0_21, rfl, N21q, K21, r0_21, r1_21, r2_21, r3_21, r4_21, r5_21, r6_21, r7_21, r8_21, r9_21, r10_21⟩ := hQ21
  have N21 := Fr.app N6 N21q
  have J21 : Keep h0 T21.heap [o0, li] := J6.trans K21 (allS (Or.inl (List.mem_of_getElem? (i := 0) rfl)) (allS (Or.inl (List.mem_of_getElem? (i := 1) rfl)) all0))
  have g_na_21 : n0 ≤ na_21 := Nat.le_trans z20 r0_21
  have sz_na_21 : h0.size ≤ na_21 := Nat.le_trans J6.1 r0_21
  have ne22 : o0 ≠ na_21 := Nat.ne_of_lt (Nat.lt_of_lt_of_le c7.lt r0_21)
  have ne23 : li ≠ na_21 := Nat.ne_of_lt (Nat.lt_of_lt_of_le c10.lt r0_21)
  have ne24 : dd ≠ na_21 := Nat.ne_of_lt (Nat.lt_of_lt_of_le c14.lt r0_21)
  have ne25 : b1 ≠ na_21 := Nat.ne_of_lt (Nat.lt_of_lt_of_le c16.lt r0_21)
  obtain ⟨fs, hr, hrun, hended, hW, hsame⟩ := X21.leave (v := none) (fun _ => rfl)
  refine ⟨_, _, pre0 _ ?_, hrun, hended, _, _, rfl, ?_, ⟨_, rfl⟩, hW, hsame.mono (by decide) (by decide)⟩
  · show Steps p.tables e below (s₁.setTop (mkF m 0 #[.val (.ref o0), .val (.int p1), .val (.ref o2)] [])) _
    refine XS.aloadN X0.here hx rfl (hb hby d482_0) rfl rfl ?_
    show Steps p.tables e below (s₁.setTop (mkF m 1 #[.val (.ref o0), .val (.int p1), .val (.ref o2)] [(.ref o0)])) _
    refine st1 _ ?_
    show Steps p.tables e below (T1.setTop (mkF m 4 #[.val (.ref o0), .val (.int p1), .val (.ref o2)] [(.ref b1), (.ref o0)])) _
    refine XS.dup X1.here hx rfl (hb hby d482_4) rfl rfl ?_
    show Steps p.tables e below (T1.setTop (mkF m 5 #[.val (.ref o0), .val (.int p1), .val (.ref o2)] [(.ref b1), (.ref b1), (.ref o0)])) _
    refine XS.iloadN X1.here hx rfl (hb hby d482_5) rfl ?_
    show Steps p.tables e below (T1.setTop (mkF m 6 #[.val (.ref o0), .val (.int p1), .val (.ref o2)] [(.int p1), (.ref b1), (.ref b1), (.ref o0)])) _
    refine XS.aloadN X1.here hx rfl (hb hby d482_6) rfl rfl ?_
    show Steps p.tables e below (T1.setTop (mkF m 7 #[.val (.ref o0), .val (.int p1), .val (.ref o2)] [(.ref o2), (.int p1), (.ref b1), (.ref b1), (.ref o0)])) _
    refine XS.iconst X1.here hx rfl (hb hby d482_7) ?_
    show Steps p.tables e below (T1.setTop (mkF m 8 #[.val (.ref o0), .val (.int p1), .val (.ref o2)] [(.int (0 : Int32)), (.ref o2), (.int p1), (.ref b1), (.ref b1), (.ref o0)])) _
    refine st6.trans ?_
    show Steps p.tables e below (T6.setTop (mkF m 11 #[.val (.ref o0), .val (.int p1), .val (.ref o2)] [(.ref b1), (.ref o0)])) _
    refine XS.iconst X6.here hx rfl (hb hby d482_11) ?_
    show Steps p.tables e below (T6.setTop (mkF m 12 #[.val (.ref o0), .val (.int p1), .val (.ref o2)] [(.int (0 : Int32)), (.ref b1), (.ref o0)])) _
    refine st21.trans ?_
    show Steps p.tables e below (T21.setTop (mkF m 15 #[.val (.ref o0), .val (.int p1), .val (.ref o2)] [])) _
    exact X21.returnOut hx Bd.returns (hb hby d482_15) hr
  · show Q482_0 Z o0 p1 o2 cnt li mc dd kd h0 n0 _ T21.heap _
    exact ⟨na_21, nk_21, y0_21, m0_21, d0_21, rfl, N21, J21, sz_na_21, r1_21, r2_21, r3_21, r4_21, r5_21, r6_21, r7_21, r8_21, r9_21, r10_21⟩
theorem d484_0 : decode prog_48_method_4_code 0 = .ok (.aload_n 0, 1) := by decide +kernel
theorem d484_1 : decode prog_48_method_4_code 1 = .ok (.new 20, 3) := by decide +kernel
theorem d484_4 : decode prog_48_method_4_code 4 = .ok (.dup, 1) := by decide +kernel
theorem d484_5 : decode prog_48_method_4_code 5 = .ok (.iload_n 1, 1) := by decide +kernel
theorem d484_6 : decode prog_48_method_4_code 6 = .ok (.aload_n 2, 1) := by decide +kernel
theorem d484_7 : decode prog_48_method_4_code 7 = .ok (.iconst 1, 1) := by decide +kernel
theorem d484_8 : decode prog_48_method_4_code 8 = .ok (.invokespecial 22, 3) := by decide +kernel
theorem d484_11 : decode prog_48_method_4_code 11 = .ok (.iconst 0, 1) := by decide +kernel
theorem d484_12 : decode prog_48_method_4_code 12 = .ok (.invokevirtual 25, 3) := by decide +kernel
theorem d484_15 : decode prog_48_method_4_code 15 = .ok (.return_, 1) := by decide +kernel
theorem ef_484_0 (m : MethodId) (o0 : Addr) (p1 : Int32) (o2 : Addr) : entryFrame m #[(.ref o0), (.int p1), (.ref o2)] 3 = mkF m 0 #[.val (.ref o0), .val (.int p1), .val (.ref o2)] [] := by first | (simp [entryFrame, mkF, argsToLocals, Value.category]; done) | rfl
def Q484_0 (Z : State) (o0 : Addr) (p1 : Int32) (o2 : Addr) (cnt : Int64) (li : Addr) (mc : Int32) (dd : Addr) (kd : ClassId) (h0 : Heap) (n0 : Nat) (v : Option Value) (h : Heap) (L : List Loc) : Prop := ∃ na : Addr, ∃ nk : ClassId, ∃ y0 : Addr, ∃ m0 : Int32, ∃ d0 : Int32, v = none ∧ Fr n0 L ∧ Keep h0 h [o0, li] ∧ h0.size ≤ na ∧ Fld Z h o0 "com/example/tierline/tierline/csv/LineProblems" "count" "J" (.long (cnt + (1 : Int64))) ∧ Fld Z h o0 "com/example/tierline/tierline/csv/LineProblems" "listed" "Ljava/util/List;" (.ref li) ∧ Fld Z h li "java/util/ArrayList" "size" "I" (.int (1 : Int32)) ∧ Fld Z h li "java/util/AbstractList" "modCount" "I" (.int (mc + (1 : Int32))) ∧ Ovr Z nk "java/lang/Object" ∧ Exa Z h y0 "com/example/tierline/tierline/csv/LineProblems$Problem" ∧ Fld Z h y0 "com/example/tierline/tierline/csv/LineProblems$Problem" "line" "I" (.int m0) ∧ Fld Z h y0 "com/example/tierline/tierline/csv/LineProblems$Problem" "conflict" "Z" (.int d0) ∧ Fld Z h li "java/util/ArrayList" "elementData" "[Ljava/lang/Object;" (.ref na) ∧ Arv Z h na nk (.object "java/lang/Object") (10 : Int32) [(.ref y0)] .null
set_option maxRecDepth 65536 in
set_option maxHeartbeats 40000000 in
theorem rm484_0 (l : Launch) (Z : State) (a0 : Array Value) (hw : ∀ d ∈ tables_1, d.before a0 Z = true) (ws : List Jvm.Cond) (o0 : Addr) (p1 : Int32) (o2 : Addr) (cnt : Int64) (li : Addr) (mc : Int32) (dd : Addr) (kd : ClassId) (h0 : Heap) (n0 : Nat) (Z0 : n0 ≤ h0.size) (E_o0 : Exa Z h0 o0 "com/example/tierline/tierline/csv/LineProblems") (F_count_o0 : Fld Z h0 o0 "com/example/tierline/tierline/csv/LineProblems" "count" "J" (.long cnt)) (F_listed_o0 : Fld Z h0 o0 "com/example/tierline/tierline/csv/LineProblems" "listed" "Ljava/util/List;" (.ref li)) (E_li : Exa Z h0 li "java/util/ArrayList") (F_size_li : Fld Z h0 li "java/util/ArrayList" "size" "I" (.int (0 : Int32))) (F_modCount_li : Fld Z h0 li "java/util/AbstractList" "modCount" "I" (.int mc)) (g_o0 : n0 ≤ o0) (g_li : n0 ≤ li) (F_elementData_li : Fld Z h0 li "java/util/ArrayList" "elementData" "[Ljava/lang/Object;" (.ref dd)) (V_dd : Arv Z h0 dd kd (.object "java/lang/Object") (0 : Int32) [] .null) (S_DEFAULTCAPACITY_EMPTY_ELEMENTDATA : Sta Z h0 "java/util/ArrayList" "DEFAULTCAPACITY_EMPTY_ELEMENTDATA" "[Ljava/lang/Object;" (.ref dd)) :
    MetFree l (⟨"com/example/tierline/tierline/csv/LineProblems", "addConflict", "(ILjava/lang/String;)V"⟩ : MethodName) (head1 (Jvm.Cond.code (⟨"com/example/tierline/tierline/csv/LineProblems", "addConflict", "(ILjava/lang/String;)V"⟩ : MethodName) prog_48_method_4_code 3 none :: ws) ({ frames := 5, cells := 2, slots := 13, locals := 72 } : Room)) (fun a U => a = #[(.ref o0), (.int p1), (.ref o2)] ∧ Z.Warmed39 U.vm ∧ U.heap = h0) (fun _ _ _ _ _ => True) (fun _ U o U' => ∃ v L, o = .returned v ∧ Q484_0 Z o0 p1 o2 cnt li mc dd kd h0 n0 v U'.heap L ∧ FrameEnd U o U' L ({ frames := 5, cells := 2, slots := 13, locals := 72 } : Room).cells ({ frames := 5, cells := 2, slots := 13, locals := 72 } : Room).slots) := by
  refine MetFree.of_bodySF (plainFor_of_name pn_com_example_tierline_tierline_csv_LineProblems) hisR ?_
  intro p e s m args below meth c s₁ Bd hml0 hP hK
  obtain ⟨rfl, hZ, hh⟩ := hP
  have hx := Bd.exec
  have hby := Bd.bytes
  have hml : c.maxLocals = 3 := hml0
  have hown : s.vm.findClass "com/example/tierline/tierline/csv/LineProblems" = some m.cls := findClass_of_methodNamed Bd.named
  have hnm := (name_of_methodNamed Bd.named Bd.method).1
  have X0 : Stand p l e ({ frames := 5, cells := 2, slots := 13, locals := 72 } : Room) s m #[(.ref o0), (.int p1), (.ref o2)] below meth c s₁ [] 0 0 := Stand.of_body Bd
  have e0 : s₁.heap = h0 := by rw [← hh, Bd.state]; rfl
  have N0 := Fr.nil n0
  have pre0 : ∀ t, Steps p.tables e below (s₁.setTop (mkF m 0 #[.val (.ref o0), .val (.int p1), .val (.ref o2)] [])) t → Steps p.tables e below (s₁.setTop (entryFrame m #[(.ref o0), (.int p1), (.ref o2)] 3)) t := fun t k => castTop (ef_484_0 m o0 p1 o2) k
  obtain ⟨T1, h1, X1, e1, E1, A1, D1, U1, st1⟩ := newO X0 hx hZ hown (hw _ (List.mem_of_getElem? (i := 80) rfl)) (hw _ (List.mem_of_getElem? (i := 81) rfl)) (hw _ (List.mem_of_getElem? (i := 82) rfl)) e0 (g := (mkF m 1 #[.val (.ref o0), .val (.int p1), .val (.ref o2)] [(.ref o0)])) rfl (hb hby d484_1) (by decide) (by decide)
  obtain ⟨b1, g1⟩ : ∃ z, z = h0.size := ⟨_, rfl⟩
  rw [← g1] at A1 D1 U1 st1
  have g_b1 : n0 ≤ b1 := Nat.le_trans Z0 (Nat.le_of_eq g1.symm)
  have sz_b1 : h0.size ≤ b1 := Nat.le_trans (Keep.refl h0 [o0, li]).1 (Nat.le_of_eq g1.symm)
  have ne2 : o0 ≠ b1 := Nat.ne_of_lt (Nat.lt_of_lt_of_le E_o0.lt (Nat.le_of_eq g1.symm))
  have ne3 : li ≠ b1 := Nat.ne_of_lt (Nat.lt_of_lt_of_le E_li.lt (Nat.le_of_eq g1.symm))
  have ne4 : dd ≠ b1 := Nat.ne_of_lt (Nat.lt_of_lt_of_le V_dd.lt (Nat.le_of_eq g1.symm))
  have F_line_b1 : Fld Z h1 b1 "com/example/tierline/tierline/csv/LineProblems$Problem" "line" "I" (.int (0 : Int32)) := D1 (Or.inr (hw _ (List.mem_of_getElem? (i := 88) rfl))) (ty := .int) (by decide)
  have F_reason_b1 : Fld Z h1 b1 "com/example/tierline/tierline/csv/LineProblems$Problem" "reason" "Ljava/lang/String;" .null := D1 (Or.inr (hw _ (List.mem_of_getElem? (i := 90) rfl))) (ty := (.object "java/lang/String")) (by decide)
  have F_conflict_b1 : Fld Z h1 b1 "com/example/tierline/tierline/csv/LineProblems$Problem" "conflict" "Z" (.int (0 : Int32)) := D1 (Or.inr (hw _ (List.mem_of_getElem? (i := 92) rfl))) (ty := .boolean) (by decide)
  have J1 : Keep h0 h1 [o0, li] := (Keep.refl h0 [o0, li]).ext E1
  have z5 : n0 ≤ h1.size := (Nat.le_trans Z0 E1.1)
  -- pc 8: LineProblems$Problem.<init> by rm49
  obtain ⟨_, _, ⟨T6, L6, k6, n6⟩, -, X6, ⟨Lc6, hQ6, l6, y6, z6'⟩, st6⟩ := own_specialBackR X1 hx (y := (⟨"com/example/tierline/tierline/csv/LineProblems$Problem", "<init>", "(ILjava/lang/String;Z)V"⟩ : MethodName)) rfl hown (own_mvRef hZ (hw _ (List.mem_of_getElem? (i := 83) rfl)) (hw _ (List.mem_of_getElem? (i := 84) rfl)) (by decide)) (mvT hZ (hw _ (List.mem_of_getElem? (i := 84) rfl))) (mvT hZ (hw _ (List.mem_of_getElem? (i := 85) rfl))) (by decide) (backOf (W := 2) (rm49 l Z a0 hw [] b1 p1 o2 (1 : Int32) h1 n0 z5 A1 F_line_b1 F_reason_b1 F_conflict_b1 g_b1) hZ (hw _ (List.mem_of_getElem? (i := 85) rfl)) (hw _ (List.mem_of_getElem? (i := 82) rfl)) (by decide) (by decide)) (g := (mkF m 8 #[.val (.ref o0), .val (.int p1), .val (.ref o2)] [(.int (1 : Int32)), (.ref o2), (.int p1), (.ref b1), (.ref b1), (.ref o0)])) rfl (by rw [hml]; rfl) (Steps.refl _) (a := b1) (argsL := [(.int p1), (.ref o2), (.int (1 : Int32))]) (rest := [(.ref b1), (.ref o0)]) (lenOf pd_12 rfl) rfl (by show 2 * 0 + _ ≤ _; exact Nat.le_of_eq rfl) (hb hby d484_8) (fun _ _ => ⟨rfl, e1, (by decide : 1 + 0 ≤ _), (by decide : 3 + 0 ≤ _)⟩)
  dsimp only [Pt.U, Pt.locs, Pt.cells, Pt.slots] at X6 l6 y6 z6' st6 hQ6
  subst l6 y6 z6'
  obtain ⟨rfl, N6q, K6, r0_6, r1_6⟩ := hQ6
  have N6 := Fr.app N0 N6q
  have J6 : Keep h0 T6.heap [o0, li] := J1.trans K6 (allS (Or.inr sz_b1) all0)
  have c7 : Exa Z T6.heap o0 "com/example/tierline/tierline/csv/LineProblems" := ((E_o0.ext E1).keep K6)
  have c8 : Fld Z T6.heap o0 "com/example/tierline/tierline/csv/LineProblems" "count" "J" (.long cnt) := ((F_count_o0.ext E1).keep K6 (ninS ne2 nin0))
  have c9 : Fld Z T6.heap o0 "com/example/tierline/tierline/csv/LineProblems" "listed" "Ljava/util/List;" (.ref li) := ((F_listed_o0.ext E1).keep K6 (ninS ne2 nin0))
  have c10 : Exa Z T6.heap li "java/util/ArrayList" := ((E_li.ext E1).keep K6)
  have c11 : Fld Z T6.heap li "java/util/ArrayList" "size" "I" (.int (0 : Int32)) := ((F_size_li.ext E1).keep K6 (ninS ne3 nin0))
  have c12 : Fld Z T6.heap li "java/util/AbstractList" "modCount" "I" (.int mc) := ((F_modCount_li.ext E1).keep K6 (ninS ne3 nin0))
  have c13 : Fld Z T6.heap li "java/util/ArrayList" "elementData" "[Ljava/lang/Object;" (.ref dd) := ((F_elementData_li.ext E1).keep K6 (ninS ne3 nin0))
  have c14 : Arv Z T6.heap dd kd (.object "java/lang/Object") (0 : Int32) [] .null := ((V_dd.ext E1).keep K6 (ninS ne4 nin0))
  have c15 : Sta Z T6.heap "java/util/ArrayList" "DEFAULTCAPACITY_EMPTY_ELEMENTDATA" "[Ljava/lang/Object;" (.ref dd) := (own_Sta_keep (S_DEFAULTCAPACITY_EMPTY_ELEMENTDATA.ext E1) K6 (allS A1.nostat all0))
  have c16 : Exa Z T6.heap b1 "com/example/tierline/tierline/csv/LineProblems$Problem" := (A1.keep K6)
  have ne17 : dd ≠ o0 := (Ne.symm (Exa.neArv c7 c14 (hw _ (List.mem_of_getElem? (i := 1) rfl))))
  have ne18 : li ≠ o0 := (ne_exa c10 c7 (by decide))
  have ne19 : dd ≠ li := (Ne.symm (Exa.neArv c10 c14 (hw _ (List.mem_of_getElem? (i := 18) rfl))))
  have z20 : n0 ≤ T6.heap.size := (Nat.le_trans z5 K6.1)
  obtain ⟨cq21, qh21, qh21'⟩ := c7.cell
  -- pc 12: LineProblems.add by rm485_0
  obtain ⟨_, _, ⟨T21, L21, k21, n21⟩, -, X21, ⟨Lc21, hQ21, l21, y21, z21'⟩, st21⟩ := X6.privateBack hx (y := (⟨"com/example/tierline/tierline/csv/LineProblems", "add", "(Lcom/example/tierline/tierline/csv/LineProblems$Problem;Z)V"⟩ : MethodName)) hown (mvT hZ (hw _ (List.mem_of_getElem? (i := 93) rfl))) (mvT hZ (hw _ (List.mem_of_getElem? (i := 94) rfl))) (own_selP hZ (hw _ (List.mem_of_getElem? (i := 1) rfl)) (hw _ (List.mem_of_getElem? (i := 95) rfl)) (hw _ (List.mem_of_getElem? (i := 94) rfl)) (by decide)) (Cond.privateMethod_at (mvP hZ (hw _ (List.mem_of_getElem? (i := 95) rfl)) (args := #[]))) (mvT hZ (hw _ (List.mem_of_getElem? (i := 96) rfl))) (by decide) (backOf (W := 0) (rm485_0 l Z a0 hw [] o0 b1 (0 : Int32) cnt li mc dd kd p1 (nar .boolean (1 : Int32)) T6.heap n0 z20 c7 c8 c9 c10 c11 c12 g_o0 g_li c13 c14 c15 c16 r0_6 r1_6) hZ (hw _ (List.mem_of_getElem? (i := 96) rfl)) (hw _ (List.mem_of_getElem? (i := 2) rfl)) (by decide) (by decide)) (g := (mkF m 12 #[.val (.ref o0), .val (.int p1), .val (.ref o2)] [(.int (0 : Int32)), (.ref b1), (.ref o0)])) rfl (by rw [hml]; rfl) (Steps.refl _) (a := o0) qh21 qh21' (argsL := [(.ref b1), (.int (0 : Int32))]) (rest := []) (lenOf pd_13 rfl) rfl (by show 2 * 0 + _ ≤ _; exact Nat.le_of_eq rfl) (hb hby d484_12) (fun _ _ => ⟨rfl, rfl, (by decide : 1 + 1 ≤ _), (by decide : 3 + 10 ≤ _)⟩)
  dsimp only [Pt.U, Pt.locs, Pt.cells, Pt.slots] at X21 l21 y21 z21' st21 hQ21
  subst l21 y21 z21'
  obtain ⟨na_21, nk_21, y0_21, m0_21, d0_21, rfl, N21q, K21, r0_21, r1_21, r2_21, r3_21, r4_21, r5_21, r6_21, r7_21, r8_21, r9_21, r10_21⟩ := hQ21
  have N21 := Fr.app N6 N21q
  have J21 : Keep h0 T21.heap [o0, li] := J6.trans K21 (allS (Or.inl (List.mem_of_getElem? (i := 0) rfl)) (allS (Or.inl (List.mem_of_getElem? (i := 1) rfl)) all0))
  have g_na_21 : n0 ≤ na_21 := Nat.le_trans z20 r0_21
  have sz_na_21 : h0.size ≤ na_21 := Nat.le_trans J6.1 r0_21
  have ne22 : o0 ≠ na_21 := Nat.ne_of_lt (Nat.lt_of_lt_of_le c7.lt r0_21)
  have ne23 : li ≠ na_21 := Nat.ne_of_lt (Nat.lt_of_lt_of_le c10.lt r0_21)
  have ne24 : dd ≠ na_21 := Nat.ne_of_lt (Nat.lt_of_lt_of_le c14.lt r0_21)
  have ne25 : b1 ≠ na_21 := Nat.ne_of_lt (Nat.lt_of_lt_of_le c16.lt r0_21)
  obtain ⟨fs, hr, hrun, hended, hW, hsame⟩ := X21.leave (v := none) (fun _ => rfl)
  refine ⟨_, _, pre0 _ ?_, hrun, hended, _, _, rfl, ?_, ⟨_, rfl⟩, hW, hsame.mono (by decide) (by decide)⟩
  · show Steps p.tables e below (s₁.setTop (mkF m 0 #[.val (.ref o0), .val (.int p1), .val (.ref o2)] [])) _
    refine XS.aloadN X0.here hx rfl (hb hby d484_0) rfl rfl ?_
    show Steps p.tables e below (s₁.setTop (mkF m 1 #[.val (.ref o0), .val (.int p1), .val (.ref o2)] [(.ref o0)])) _
    refine st1 _ ?_
    show Steps p.tables e below (T1.setTop (mkF m 4 #[.val (.ref o0), .val (.int p1), .val (.ref o2)] [(.ref b1), (.ref o0)])) _
    refine XS.dup X1.here hx rfl (hb hby d484_4) rfl rfl ?_
    show Steps p.tables e below (T1.setTop (mkF m 5 #[.val (.ref o0), .val (.int p1), .val (.ref o2)] [(.ref b1), (.ref b1), (.ref o0)])) _
    refine XS.iloadN X1.here hx rfl (hb hby d484_5) rfl ?_
    show Steps p.tables e below (T1.setTop (mkF m 6 #[.val (.ref o0), .val (.int p1), .val (.ref o2)] [(.int p1), (.ref b1), (.ref b1), (.ref o0)])) _
    refine XS.aloadN X1.here hx rfl (hb hby d484_6) rfl rfl ?_
    show Steps p.tables e below (T1.setTop (mkF m 7 #[.val (.ref o0), .val (.int p1), .val (.ref o2)] [(.ref o2), (.int p1), (.ref b1), (.ref b1), (.ref o0)])) _
    refine XS.iconst X1.here hx rfl (hb hby d484_7) ?_
    show Steps p.tables e below (T1.setTop (mkF m 8 #[.val (.ref o0), .val (.int p1), .val (.ref o2)] [(.int (1 : Int32)), (.ref o2), (.int p1), (.ref b1), (.ref b1), (.ref o0)])) _
    refine st6.trans ?_
    show Steps p.tables e below (T6.setTop (mkF m 11 #[.val (.ref o0), .val (.int p1), .val (.ref o2)] [(.ref b1), (.ref o0)])) _
    refine XS.iconst X6.here hx rfl (hb hby d484_11) ?_
    show Steps p.tables e below (T6.setTop (mkF m 12 #[.val (.ref o0), .val (.int p1), .val (.ref o2)] [(.int (0 : Int32)), (.ref b1), (.ref o0)])) _
    refine st21.trans ?_
    show Steps p.tables e below (T21.setTop (mkF m 15 #[.val (.ref o0), .val (.int p1), .val (.ref o2)] [])) _
    exact X21.returnOut hx Bd.returns (hb hby d484_15) hr
  · show Q484_0 Z o0 p1 o2 cnt li mc dd kd h0 n0 _ T21.heap _
    exact ⟨na_21, nk_21, y0_21, m0_21, d0_21, rfl, N21, J21, sz_na_21, r1_21, r2_21, r3_21, r4_21, r5_21, r6_21, r7_21, r8_21, r9_21, r10_21⟩
theorem d483_0 : decode prog_48_method_3_code 0 = .ok (.aload_n 0, 1) := by decide +kernel
theorem d483_1 : decode prog_48_method_3_code 1 = .ok (.new 20, 3) := by decide +kernel
theorem d483_4 : decode prog_48_method_3_code 4 = .ok (.dup, 1) := by decide +kernel
theorem d483_5 : decode prog_48_method_3_code 5 = .ok (.iload_n 1, 1) := by decide +kernel
theorem d483_6 : decode prog_48_method_3_code 6 = .ok (.aload_n 2, 1) := by decide +kernel
theorem d483_7 : decode prog_48_method_3_code 7 = .ok (.iconst 0, 1) := by decide +kernel
theorem d483_8 : decode prog_48_method_3_code 8 = .ok (.invokespecial 22, 3) := by decide +kernel
theorem d483_11 : decode prog_48_method_3_code 11 = .ok (.iconst 1, 1) := by decide +kernel
theorem d483_12 : decode prog_48_method_3_code 12 = .ok (.invokevirtual 25, 3) := by decide +kernel
theorem d483_15 : decode prog_48_method_3_code 15 = .ok (.return_, 1) := by decide +kernel
theorem ef_483_0 (m : MethodId) (o0 : Addr) (p1 : Int32) (o2 : Addr) : entryFrame m #[(.ref o0), (.int p1), (.ref o2)] 3 = mkF m 0 #[.val (.ref o0), .val (.int p1), .val (.ref o2)] [] := by first | (simp [entryFrame, mkF, argsToLocals, Value.category]; done) | rfl
def Q483_0 (Z : State) (o0 : Addr) (p1 : Int32) (o2 : Addr) (cnt : Int64) (li : Addr) (mc : Int32) (dd : Addr) (kd : ClassId) (h0 : Heap) (n0 : Nat) (v : Option Value) (h : Heap) (L : List Loc) : Prop := ∃ na : Addr, ∃ nk : ClassId, ∃ y0 : Addr, ∃ m0 : Int32, ∃ d0 : Int32, v = none ∧ Fr n0 L ∧ Keep h0 h [o0, li] ∧ h0.size ≤ na ∧ Fld Z h o0 "com/example/tierline/tierline/csv/LineProblems" "count" "J" (.long (cnt + (1 : Int64))) ∧ Fld Z h o0 "com/example/tierline/tierline/csv/LineProblems" "listed" "Ljava/util/List;" (.ref li) ∧ Fld Z h li "java/util/ArrayList" "size" "I" (.int (1 : Int32)) ∧ Fld Z h li "java/util/AbstractList" "modCount" "I" (.int (mc + (1 : Int32))) ∧ Ovr Z nk "java/lang/Object" ∧ Exa Z h y0 "com/example/tierline/tierline/csv/LineProblems$Problem" ∧ Fld Z h y0 "com/example/tierline/tierline/csv/LineProblems$Problem" "line" "I" (.int m0) ∧ Fld Z h y0 "com/example/tierline/tierline/csv/LineProblems$Problem" "conflict" "Z" (.int d0) ∧ Fld Z h li "java/util/ArrayList" "elementData" "[Ljava/lang/Object;" (.ref na) ∧ Arv Z h na nk (.object "java/lang/Object") (10 : Int32) [(.ref y0)] .null
set_option maxRecDepth 65536 in
set_option maxHeartbeats 40000000 in
theorem rm483_0 (l : Launch) (Z : State) (a0 : Array Value) (hw : ∀ d ∈ tables_1, d.before a0 Z = true) (ws : List Jvm.Cond) (o0 : Addr) (p1 : Int32) (o2 : Addr) (cnt : Int64) (li : Addr) (mc : Int32) (dd : Addr) (kd : ClassId) (h0 : Heap) (n0 : Nat) (Z0 : n0 ≤ h0.size) (E_o0 : Exa Z h0 o0 "com/example/tierline/tierline/csv/LineProblems") (F_count_o0 : Fld Z h0 o0 "com/example/tierline/tierline/csv/LineProblems" "count" "J" (.long cnt)) (F_listed_o0 : Fld Z h0 o0 "com/example/tierline/tierline/csv/LineProblems" "listed" "Ljava/util/List;" (.ref li)) (E_li : Exa Z h0 li "java/util/ArrayList") (F_size_li : Fld Z h0 li "java/util/ArrayList" "size" "I" (.int (0 : Int32))) (F_modCount_li : Fld Z h0 li "java/util/AbstractList" "modCount" "I" (.int mc)) (g_o0 : n0 ≤ o0) (g_li : n0 ≤ li) (F_elementData_li : Fld Z h0 li "java/util/ArrayList" "elementData" "[Ljava/lang/Object;" (.ref dd)) (V_dd : Arv Z h0 dd kd (.object "java/lang/Object") (0 : Int32) [] .null) (S_DEFAULTCAPACITY_EMPTY_ELEMENTDATA : Sta Z h0 "java/util/ArrayList" "DEFAULTCAPACITY_EMPTY_ELEMENTDATA" "[Ljava/lang/Object;" (.ref dd)) :
    MetFree l (⟨"com/example/tierline/tierline/csv/LineProblems", "addAheadOnLine", "(ILjava/lang/String;)V"⟩ : MethodName) (head1 (Jvm.Cond.code (⟨"com/example/tierline/tierline/csv/LineProblems", "addAheadOnLine", "(ILjava/lang/String;)V"⟩ : MethodName) prog_48_method_3_code 3 none :: ws) ({ frames := 5, cells := 2, slots := 13, locals := 72 } : Room)) (fun a U => a = #[(.ref o0), (.int p1), (.ref o2)] ∧ Z.Warmed39 U.vm ∧ U.heap = h0) (fun _ _ _ _ _ => True) (fun _ U o U' => ∃ v L, o = .returned v ∧ Q483_0 Z o0 p1 o2 cnt li mc dd kd h0 n0 v U'.heap L ∧ FrameEnd U o U' L ({ frames := 5, cells := 2, slots := 13, locals := 72 } : Room).cells ({ frames := 5, cells := 2, slots := 13, locals := 72 } : Room).slots) := by
  refine MetFree.of_bodySF (plainFor_of_name pn_com_example_tierline_tierline_csv_LineProblems) hisR ?_
  intro p e s m args below meth c s₁ Bd hml0 hP hK
  obtain ⟨rfl, hZ, hh⟩ := hP
  have hx := Bd.exec
  have hby := Bd.bytes
  have hml : c.maxLocals = 3 := hml0
  have hown : s.vm.findClass "com/example/tierline/tierline/csv/LineProblems" = some m.cls := findClass_of_methodNamed Bd.named
  have hnm := (name_of_methodNamed Bd.named Bd.method).1
  have X0 : Stand p l e ({ frames := 5, cells := 2, slots := 13, locals := 72 } : Room) s m #[(.ref o0), (.int p1), (.ref o2)] below meth c s₁ [] 0 0 := Stand.of_body Bd
  have e0 : s₁.heap = h0 := by rw [← hh, Bd.state]; rfl
  have N0 := Fr.nil n0
  have pre0 : ∀ t, Steps p.tables e below (s₁.setTop (mkF m 0 #[.val (.ref o0), .val (.int p1), .val (.ref o2)] [])) t → Steps p.tables e below (s₁.setTop (entryFrame m #[(.ref o0), (.int p1), (.ref o2)] 3)) t := fun t k => castTop (ef_483_0 m o0 p1 o2) k
  obtain ⟨T1, h1, X1, e1, E1, A1, D1, U1, st1⟩ := newO X0 hx hZ hown (hw _ (List.mem_of_getElem? (i := 80) rfl)) (hw _ (List.mem_of_getElem? (i := 81) rfl)) (hw _ (List.mem_of_getElem? (i := 82) rfl)) e0 (g := (mkF m 1 #[.val (.ref o0), .val (.int p1), .val (.ref o2)] [(.ref o0)])) rfl (hb hby d483_1) (by decide) (by decide)
  obtain ⟨b1, g1⟩ : ∃ z, z = h0.size := ⟨_, rfl⟩
  rw [← g1] at A1 D1 U1 st1
  have g_b1 : n0 ≤ b1 := Nat.le_trans Z0 (Nat.le_of_eq g1.symm)
  have sz_b1 : h0.size ≤ b1 := Nat.le_trans (Keep.refl h0 [o0, li]).1 (Nat.le_of_eq g1.symm)
  have ne2 : o0 ≠ b1 := Nat.ne_of_lt (Nat.lt_of_lt_of_le E_o0.lt (Nat.le_of_eq g1.symm))
  have ne3 : li ≠ b1 := Nat.ne_of_lt (Nat.lt_of_lt_of_le E_li.lt (Nat.le_of_eq g1.symm))
  have ne4 : dd ≠ b1 := Nat.ne_of_lt (Nat.lt_of_lt_of_le V_dd.lt (Nat.le_of_eq g1.symm))
  have F_line_b1 : Fld Z h1 b1 "com/example/tierline/tierline/csv/LineProblems$Problem" "line" "I" (.int (0 : Int32)) := D1 (Or.inr (hw _ (List.mem_of_getElem? (i := 88) rfl))) (ty := .int) (by decide)
  have F_reason_b1 : Fld Z h1 b1 "com/example/tierline/tierline/csv/LineProblems$Problem" "reason" "Ljava/lang/String;" .null := D1 (Or.inr (hw _ (List.mem_of_getElem? (i := 90) rfl))) (ty := (.object "java/lang/String")) (by decide)
  have F_conflict_b1 : Fld Z h1 b1 "com/example/tierline/tierline/csv/LineProblems$Problem" "conflict" "Z" (.int (0 : Int32)) := D1 (Or.inr (hw _ (List.mem_of_getElem? (i := 92) rfl))) (ty := .boolean) (by decide)
  have J1 : Keep h0 h1 [o0, li] := (Keep.refl h0 [o0, li]).ext E1
  have z5 : n0 ≤ h1.size := (Nat.le_trans Z0 E1.1)
  -- pc 8: LineProblems$Problem.<init> by rm49
  obtain ⟨_, _, ⟨T6, L6, k6, n6⟩, -, X6, ⟨Lc6, hQ6, l6, y6, z6'⟩, st6⟩ := own_specialBackR X1 hx (y := (⟨"com/example/tierline/tierline/csv/LineProblems$Problem", "<init>", "(ILjava/lang/String;Z)V"⟩ : MethodName)) rfl hown (own_mvRef hZ (hw _ (List.mem_of_getElem? (i := 83) rfl)) (hw _ (List.mem_of_getElem? (i := 84) rfl)) (by decide)) (mvT hZ (hw _ (List.mem_of_getElem? (i := 84) rfl))) (mvT hZ (hw _ (List.mem_of_getElem? (i := 85) rfl))) (by decide) (backOf (W := 2) (rm49 l Z a0 hw [] b1 p1 o2 (0 : Int32) h1 n0 z5 A1 F_line_b1 F_reason_b1 F_conflict_b1 g_b1) hZ (hw _ (List.mem_of_getElem? (i := 85) rfl)) (hw _ (List.mem_of_getElem? (i := 82) rfl)) (by decide) (by decide)) (g := (mkF m 8 #[.val (.ref o0), .val (.int p1), .val (.ref o2)] [(.int (0 : Int32)), (.ref o2), (.int p1), (.ref b1), (.ref b1), (.ref o0)])) rfl (by rw [hml]; rfl) (Steps.refl _) (a := b1) (argsL := [(.int p1), (.ref o2), (.int (0 : Int32))]) (rest := [(.ref b1), (.ref o0)]) (lenOf pd_12 rfl) rfl (by show 2 * 0 + _ ≤ _; exact Nat.le_of_eq rfl) (hb hby d483_8) (fun _ _ => ⟨rfl, e1, (by decide : 1 + 0 ≤ _), (by decide : 3 + 0 ≤ _)⟩)
  dsimp only [Pt.U, Pt.locs, Pt.cells, Pt.slots] at X6 l6 y6 z6' st6 hQ6
  subst l6 y6 z6'
  obtain ⟨rfl, N6q, K6, r0_6, r1_6⟩ := hQ6
  have N6 := Fr.app N0 N6q
  have J6 : Keep h0 T6.heap [o0, li] := J1.trans K6 (allS (Or.inr sz_b1) all0)
  have c7 : Exa Z T6.heap o0 "com/example/tierline/tierline/csv/LineProblems" := ((E_o0.ext E1).keep K6)
  have c8 : Fld Z T6.heap o0 "com/example/tierline/tierline/csv/LineProblems" "count" "J" (.long cnt) := ((F_count_o0.ext E1).keep K6 (ninS ne2 nin0))
  have c9 : Fld Z T6.heap o0 "com/example/tierline/tierline/csv/LineProblems" "listed" "Ljava/util/List;" (.ref li) := ((F_listed_o0.ext E1).keep K6 (ninS ne2 nin0))
  have c10 : Exa Z T6.heap li "java/util/ArrayList" := ((E_li.ext E1).keep K6)
  have c11 : Fld Z T6.heap li "java/util/ArrayList" "size" "I" (.int (0 : Int32)) := ((F_size_li.ext E1).keep K6 (ninS ne3 nin0))
  have c12 : Fld Z T6.heap li "java/util/AbstractList" "modCount" "I" (.int mc) := ((F_modCount_li.ext E1).keep K6 (ninS ne3 nin0))
  have c13 : Fld Z T6.heap li "java/util/ArrayList" "elementData" "[Ljava/lang/Object;" (.ref dd) := ((F_elementData_li.ext E1).keep K6 (ninS ne3 nin0))
  have c14 : Arv Z T6.heap dd kd (.object "java/lang/Object") (0 : Int32) [] .null := ((V_dd.ext E1).keep K6 (ninS ne4 nin0))
  have c15 : Sta Z T6.heap "java/util/ArrayList" "DEFAULTCAPACITY_EMPTY_ELEMENTDATA" "[Ljava/lang/Object;" (.ref dd) := (own_Sta_keep (S_DEFAULTCAPACITY_EMPTY_ELEMENTDATA.ext E1) K6 (allS A1.nostat all0))
  have c16 : Exa Z T6.heap b1 "com/example/tierline/tierline/csv/LineProblems$Problem" := (A1.keep K6)
  have ne17 : dd ≠ o0 := (Ne.symm (Exa.neArv c7 c14 (hw _ (List.mem_of_getElem? (i := 1) rfl))))
  have ne18 : li ≠ o0 := (ne_exa c10 c7 (by decide))
  have ne19 : dd ≠ li := (Ne.symm (Exa.neArv c10 c14 (hw _ (List.mem_of_getElem? (i := 18) rfl))))
  have z20 : n0 ≤ T6.heap.size := (Nat.le_trans z5 K6.1)
  obtain ⟨cq21, qh21, qh21'⟩ := c7.cell
  -- pc 12: LineProblems.add by rm485_0
  obtain ⟨_, _, ⟨T21, L21, k21, n21⟩, -, X21, ⟨Lc21, hQ21, l21, y21, z21'⟩, st21⟩ := X6.privateBack hx (y := (⟨"com/example/tierline/tierline/csv/LineProblems", "add", "(Lcom/example/tierline/tierline/csv/LineProblems$Problem;Z)V"⟩ : MethodName)) hown (mvT hZ (hw _ (List.mem_of_getElem? (i := 93) rfl))) (mvT hZ (hw _ (List.mem_of_getElem? (i := 94) rfl))) (own_selP hZ (hw _ (List.mem_of_getElem? (i := 1) rfl)) (hw _ (List.mem_of_getElem? (i := 95) rfl)) (hw _ (List.mem_of_getElem? (i := 94) rfl)) (by decide)) (Cond.privateMethod_at (mvP hZ (hw _ (List.mem_of_getElem? (i := 95) rfl)) (args := #[]))) (mvT hZ (hw _ (List.mem_of_getElem? (i := 96) rfl))) (by decide) (backOf (W := 0) (rm485_0 l Z a0 hw [] o0 b1 (1 : Int32) cnt li mc dd kd p1 (nar .boolean (0 : Int32)) T6.heap n0 z20 c7 c8 c9 c10 c11 c12 g_o0 g_li c13 c14 c15 c16 r0_6 r1_6) hZ (hw _ (List.mem_of_getElem? (i := 96) rfl)) (hw _ (List.mem_of_getElem? (i := 2) rfl)) (by decide) (by decide)) (g := (mkF m 12 #[.val (.ref o0), .val (.int p1), .val (.ref o2)] [(.int (1 : Int32)), (.ref b1), (.ref o0)])) rfl (by rw [hml]; rfl) (Steps.refl _) (a := o0) qh21 qh21' (argsL := [(.ref b1), (.int (1 : Int32))]) (rest := []) (lenOf pd_13 rfl) rfl (by show 2 * 0 + _ ≤ _; exact Nat.le_of_eq rfl) (hb hby d483_12) (fun _ _ => ⟨rfl, rfl, (by decide : 1 + 1 ≤ _), (by decide : 3 + 10 ≤ _)⟩)
  dsimp only [Pt.U, Pt.locs, Pt.cells, Pt.slots] at X21 l21 y21 z21' st21 hQ21
  subst l21 y21 z21'
  obtain ⟨na_21, nk_21, y0_21, m0_21, d0_21, rfl, N21q, K21, r0_21, r1_21, r2_21, r3_21, r4_21, r5_21, r6_21, r7_21, r8_21, r9_21, r10_21⟩ := hQ21
  have N21 := Fr.app N6 N21q
  have J21 : Keep h0 T21.heap [o0, li] := J6.trans K21 (allS (Or.inl (List.mem_of_getElem? (i := 0) rfl)) (allS (Or.inl (List.mem_of_getElem? (i := 1) rfl)) all0))
  have g_na_21 : n0 ≤ na_21 := Nat.le_trans z20 r0_21
  have sz_na_21 : h0.size ≤ na_21 := Nat.le_trans J6.1 r0_21
  have ne22 : o0 ≠ na_21 := Nat.ne_of_lt (Nat.lt_of_lt_of_le c7.lt r0_21)
  have ne23 : li ≠ na_21 := Nat.ne_of_lt (Nat.lt_of_lt_of_le c10.lt r0_21)
  have ne24 : dd ≠ na_21 := Nat.ne_of_lt (Nat.lt_of_lt_of_le c14.lt r0_21)
  have ne25 : b1 ≠ na_21 := Nat.ne_of_lt (Nat.lt_of_lt_of_le c16.lt r0_21)
  obtain ⟨fs, hr, hrun, hended, hW, hsame⟩ := X21.leave (v := none) (fun _ => rfl)
  refine ⟨_, _, pre0 _ ?_, hrun, hended, _, _, rfl, ?_, ⟨_, rfl⟩, hW, hsame.mono (by decide) (by decide)⟩
  · show Steps p.tables e below (s₁.setTop (mkF m 0 #[.val (.ref o0), .val (.int p1), .val (.ref o2)] [])) _
    refine XS.aloadN X0.here hx rfl (hb hby d483_0) rfl rfl ?_
    show Steps p.tables e below (s₁.setTop (mkF m 1 #[.val (.ref o0), .val (.int p1), .val (.ref o2)] [(.ref o0)])) _
    refine st1 _ ?_
    show Steps p.tables e below (T1.setTop (mkF m 4 #[.val (.ref o0), .val (.int p1), .val (.ref o2)] [(.ref b1), (.ref o0)])) _
    refine XS.dup X1.here hx rfl (hb hby d483_4) rfl rfl ?_
    show Steps p.tables e below (T1.setTop (mkF m 5 #[.val (.ref o0), .val (.int p1), .val (.ref o2)] [(.ref b1), (.ref b1), (.ref o0)])) _
    refine XS.iloadN X1.here hx rfl (hb hby d483_5) rfl ?_
    show Steps p.tables e below (T1.setTop (mkF m 6 #[.val (.ref o0), .val (.int p1), .val (.ref o2)] [(.int p1), (.ref b1), (.ref b1), (.ref o0)])) _
    refine XS.aloadN X1.here hx rfl (hb hby d483_6) rfl rfl ?_
    show Steps p.tables e below (T1.setTop (mkF m 7 #[.val (.ref o0), .val (.int p1), .val (.ref o2)] [(.ref o2), (.int p1), (.ref b1), (.ref b1), (.ref o0)])) _
    refine XS.iconst X1.here hx rfl (hb hby d483_7) ?_
    show Steps p.tables e below (T1.setTop (mkF m 8 #[.val (.ref o0), .val (.int p1), .val (.ref o2)] [(.int (0 : Int32)), (.ref o2), (.int p1), (.ref b1), (.ref b1), (.ref o0)])) _
    refine st6.trans ?_
    show Steps p.tables e below (T6.setTop (mkF m 11 #[.val (.ref o0), .val (.int p1), .val (.ref o2)] [(.ref b1), (.ref o0)])) _
    refine XS.iconst X6.here hx rfl (hb hby d483_11) ?_
    show Steps p.tables e below (T6.setTop (mkF m 12 #[.val (.ref o0), .val (.int p1), .val (.ref o2)] [(.int (1 : Int32)), (.ref b1), (.ref o0)])) _
    refine st21.trans ?_
    show Steps p.tables e below (T21.setTop (mkF m 15 #[.val (.ref o0), .val (.int p1), .val (.ref o2)] [])) _
    exact X21.returnOut hx Bd.returns (hb hby d483_15) hr
  · show Q483_0 Z o0 p1 o2 cnt li mc dd kd h0 n0 _ T21.heap _
    exact ⟨na_21, nk_21, y0_21, m0_21, d0_21, rfl, N21, J21, sz_na_21, r1_21, r2_21, r3_21, r4_21, r5_21, r6_21, r7_21, r8_21, r9_21, r10_21⟩
theorem d2_0 : decode method_2_code 0 = .ok (.iload_n 3, 1) := by decide +kernel
theorem d2_1 : decode method_2_code 1 = .ok (.sipush 255, 3) := by decide +kernel
theorem d2_4 : decode method_2_code 4 = .ok (.iand, 1) := by decide +kernel
theorem d2_5 : decode method_2_code 5 = .ok (.i2c, 1) := by decide +kernel
theorem d2_6 : decode method_2_code 6 = .ok (.invokestatic 7, 3) := by decide +kernel
theorem d2_9 : decode method_2_code 9 = .ok (.astore 4, 2) := by decide +kernel
theorem d2_11 : decode method_2_code 11 = .ok (.iload_n 1, 1) := by decide +kernel
theorem d2_12 : decode method_2_code 12 = .ok (.iconst 1, 1) := by decide +kernel
theorem d2_13 : decode method_2_code 13 = .ok (.if_icmp .ne 13, 3) := by decide +kernel
theorem d2_16 : decode method_2_code 16 = .ok (.aload_n 0, 1) := by decide +kernel
theorem d2_17 : decode method_2_code 17 = .ok (.iload_n 2, 1) := by decide +kernel
theorem d2_18 : decode method_2_code 18 = .ok (.aload 4, 2) := by decide +kernel
theorem d2_20 : decode method_2_code 20 = .ok (.invokevirtual 13, 3) := by decide +kernel
theorem d2_23 : decode method_2_code 23 = .ok (.goto 25, 3) := by decide +kernel
theorem d2_26 : decode method_2_code 26 = .ok (.iload_n 1, 1) := by decide +kernel
theorem d2_27 : decode method_2_code 27 = .ok (.iconst 2, 1) := by decide +kernel
theorem d2_28 : decode method_2_code 28 = .ok (.if_icmp .ne 13, 3) := by decide +kernel
theorem d2_31 : decode method_2_code 31 = .ok (.aload_n 0, 1) := by decide +kernel
theorem d2_32 : decode method_2_code 32 = .ok (.iload_n 2, 1) := by decide +kernel
theorem d2_33 : decode method_2_code 33 = .ok (.aload 4, 2) := by decide +kernel
theorem d2_35 : decode method_2_code 35 = .ok (.invokevirtual 19, 3) := by decide +kernel
theorem d2_38 : decode method_2_code 38 = .ok (.goto 10, 3) := by decide +kernel
theorem d2_41 : decode method_2_code 41 = .ok (.aload_n 0, 1) := by decide +kernel
theorem d2_42 : decode method_2_code 42 = .ok (.iload_n 2, 1) := by decide +kernel
theorem d2_43 : decode method_2_code 43 = .ok (.aload 4, 2) := by decide +kernel
theorem d2_45 : decode method_2_code 45 = .ok (.invokevirtual 22, 3) := by decide +kernel
theorem d2_48 : decode method_2_code 48 = .ok (.return_, 1) := by decide +kernel
theorem pn_com_example_tierline_tierline_csv_LineProblemsIsEmptyPinLaw : plainName "com/example/tierline/tierline/csv/LineProblemsIsEmptyPinLaw" = true := by first | (simp [plainName, overriddenIn]; done) | decide +kernel
theorem pd_14 : parseMethodDescriptor "(C)Ljava/lang/String;" = some ⟨[.char], some (.object "java/lang/String")⟩ := by decide +kernel
theorem pd_15 : parseMethodDescriptor "(ILjava/lang/String;)V" = some ⟨[.int, (.object "java/lang/String")], none⟩ := by decide +kernel
theorem ef_2_0 (m : MethodId) (o0 : Addr) (p1 : Int32) (p2 : Int32) (p3 : Int32) : entryFrame m #[(.ref o0), (.int p1), (.int p2), (.int p3)] 5 = mkF m 0 #[.val (.ref o0), .val (.int p1), .val (.int p2), .val (.int p3), .unset] [] := by first | (simp [entryFrame, mkF, argsToLocals, Value.category]; done) | rfl
def Q2_0 (Z : State) (o0 : Addr) (p1 : Int32) (p2 : Int32) (p3 : Int32) (cnt : Int64) (li : Addr) (mc : Int32) (dd : Addr) (kd : ClassId) (cs : Int32) (h0 : Heap) (n0 : Nat) (v : Option Value) (h : Heap) (L : List Loc) : Prop := ∃ na : Addr, ∃ nk : ClassId, ∃ y0 : Addr, ∃ m0 : Int32, ∃ d0 : Int32, v = none ∧ Fr n0 L ∧ Keep h0 h [o0, li] ∧ h0.size ≤ na ∧ Fld Z h o0 "com/example/tierline/tierline/csv/LineProblems" "count" "J" (.long (cnt + (1 : Int64))) ∧ Fld Z h o0 "com/example/tierline/tierline/csv/LineProblems" "listed" "Ljava/util/List;" (.ref li) ∧ Fld Z h li "java/util/ArrayList" "size" "I" (.int (1 : Int32)) ∧ Fld Z h li "java/util/AbstractList" "modCount" "I" (.int (mc + (1 : Int32))) ∧ Ovr Z nk "java/lang/Object" ∧ Exa Z h y0 "com/example/tierline/tierline/csv/LineProblems$Problem" ∧ Fld Z h y0 "com/example/tierline/tierline/csv/LineProblems$Problem" "line" "I" (.int m0) ∧ Fld Z h y0 "com/example/tierline/tierline/csv/LineProblems$Problem" "conflict" "Z" (.int d0) ∧ Fld Z h li "java/util/ArrayList" "elementData" "[Ljava/lang/Object;" (.ref na) ∧ Arv Z h na nk (.object "java/lang/Object") (10 : Int32) [(.ref y0)] .null
set_option maxRecDepth 65536 in
set_option maxHeartbeats 40000000 in
theorem rm2_0 (l : Launch) (Z : State) (a0 : Array Value) (hw : ∀ d ∈ tables_1, d.before a0 Z = true) (ws : List Jvm.Cond) (o0 : Addr) (p1 : Int32) (p2 : Int32) (p3 : Int32) (cnt : Int64) (li : Addr) (mc : Int32) (dd : Addr) (kd : ClassId) (cs : Int32) (h0 : Heap) (n0 : Nat) (Z0 : n0 ≤ h0.size) (E_o0 : Exa Z h0 o0 "com/example/tierline/tierline/csv/LineProblems") (F_count_o0 : Fld Z h0 o0 "com/example/tierline/tierline/csv/LineProblems" "count" "J" (.long cnt)) (F_listed_o0 : Fld Z h0 o0 "com/example/tierline/tierline/csv/LineProblems" "listed" "Ljava/util/List;" (.ref li)) (E_li : Exa Z h0 li "java/util/ArrayList") (F_size_li : Fld Z h0 li "java/util/ArrayList" "size" "I" (.int (0 : Int32))) (F_modCount_li : Fld Z h0 li "java/util/AbstractList" "modCount" "I" (.int mc)) (g_o0 : n0 ≤ o0) (g_li : n0 ≤ li) (F_elementData_li : Fld Z h0 li "java/util/ArrayList" "elementData" "[Ljava/lang/Object;" (.ref dd)) (V_dd : Arv Z h0 dd kd (.object "java/lang/Object") (0 : Int32) [] .null) (S_DEFAULTCAPACITY_EMPTY_ELEMENTDATA : Sta Z h0 "java/util/ArrayList" "DEFAULTCAPACITY_EMPTY_ELEMENTDATA" "[Ljava/lang/Object;" (.ref dd)) (S_COMPACT_STRINGS : Sta Z h0 "java/lang/String" "COMPACT_STRINGS" "Z" (.int cs)) (hcs : ¬ cs = (0 : Int32)) :
    MetFree l (⟨"com/example/tierline/tierline/csv/LineProblemsIsEmptyPinLaw", "addOne", "(Lcom/example/tierline/tierline/csv/LineProblems;IIC)V"⟩ : MethodName) (head1 (Jvm.Cond.code (⟨"com/example/tierline/tierline/csv/LineProblemsIsEmptyPinLaw", "addOne", "(Lcom/example/tierline/tierline/csv/LineProblems;IIC)V"⟩ : MethodName) method_2_code 5 none :: ws) ({ frames := 6, cells := 4, slots := 18, locals := 86 } : Room)) (fun a U => a = #[(.ref o0), (.int p1), (.int p2), (.int p3)] ∧ Z.Warmed39 U.vm ∧ U.heap = h0) (fun _ _ _ _ _ => True) (fun _ U o U' => ∃ v L, o = .returned v ∧ Q2_0 Z o0 p1 p2 p3 cnt li mc dd kd cs h0 n0 v U'.heap L ∧ FrameEnd U o U' L ({ frames := 6, cells := 4, slots := 18, locals := 86 } : Room).cells ({ frames := 6, cells := 4, slots := 18, locals := 86 } : Room).slots) := by
  refine MetFree.of_bodySF (plainFor_of_name pn_com_example_tierline_tierline_csv_LineProblemsIsEmptyPinLaw) hisR ?_
  intro p e s m args below meth c s₁ Bd hml0 hP hK
  obtain ⟨rfl, hZ, hh⟩ := hP
  have hx := Bd.exec
  have hby := Bd.bytes
  have hml : c.maxLocals = 5 := hml0
  have hown : s.vm.findClass "com/example/tierline/tierline/csv/LineProblemsIsEmptyPinLaw" = some m.cls := findClass_of_methodNamed Bd.named
  have hnm := (name_of_methodNamed Bd.named Bd.method).1
  have X0 : Stand p l e ({ frames := 6, cells := 4, slots := 18, locals := 86 } : Room) s m #[(.ref o0), (.int p1), (.int p2), (.int p3)] below meth c s₁ [] 0 0 := Stand.of_body Bd
  have e0 : s₁.heap = h0 := by rw [← hh, Bd.state]; rfl
  have N0 := Fr.nil n0
  have pre0 : ∀ t, Steps p.tables e below (s₁.setTop (mkF m 0 #[.val (.ref o0), .val (.int p1), .val (.int p2), .val (.int p3), .unset] [])) t → Steps p.tables e below (s₁.setTop (entryFrame m #[(.ref o0), (.int p1), (.int p2), (.int p3)] 5)) t := fun t k => castTop (ef_2_0 m o0 p1 p2 p3) k
  -- pc 6: String.valueOf by rm139
  obtain ⟨_, _, ⟨T1, L1, k1, n1⟩, -, X1, ⟨Lc1, hQ1, l1, y1, z1'⟩, st1⟩ := Jvm.LawKit.callS X0 hx (y := (⟨"java/lang/String", "valueOf", "(C)Ljava/lang/String;"⟩ : MethodName)) hown (mvT hZ (hw _ (List.mem_of_getElem? (i := 56) rfl))) (mvT hZ (hw _ (List.mem_of_getElem? (i := 57) rfl))) (mvT hZ (hw _ (List.mem_of_getElem? (i := 4) rfl))) (mvT hZ (hw _ (List.mem_of_getElem? (i := 58) rfl))) (by decide) (backOf (W := 0) (rm139 l Z a0 hw [] ((p3 &&& (255 : Int32)).toUInt32.toUInt16.toUInt32.toInt32) cs h0 n0 Z0 S_COMPACT_STRINGS hcs (own_char _)) hZ (hw _ (List.mem_of_getElem? (i := 58) rfl)) (hw _ (List.mem_of_getElem? (i := 4) rfl)) (by decide) (by decide)) (g := (mkF m 6 #[.val (.ref o0), .val (.int p1), .val (.int p2), .val (.int p3), .unset] [(.int ((p3 &&& (255 : Int32)).toUInt32.toUInt16.toUInt32.toInt32))])) rfl (by rw [hml]; rfl) (argsL := [(.int ((p3 &&& (255 : Int32)).toUInt32.toUInt16.toUInt32.toInt32))]) (rest := []) (lenOf pd_14 rfl) rfl (by show 2 * 0 + _ ≤ _; exact Nat.le_of_eq rfl) (hb hby d2_6) (fun _ _ => ⟨rfl, e0, (by decide : 0 + 2 ≤ _), (by decide : 0 + 5 ≤ _)⟩)
  dsimp only [Pt.U, Pt.locs, Pt.cells, Pt.slots] at X1 l1 y1 z1' st1 hQ1
  subst l1 y1 z1'
  obtain ⟨b_1, rfl, N1q, K1, r0_1⟩ := hQ1
  have N1 := Fr.app N0 N1q
  have J1 : Keep h0 T1.heap [o0, li] := (Keep.refl h0 [o0, li]).trans K1 all0
  have g_b_1 : n0 ≤ b_1 := Nat.le_trans Z0 r0_1
  have sz_b_1 : h0.size ≤ b_1 := Nat.le_trans (Keep.refl h0 [o0, li]).1 r0_1
  have ne2 : o0 ≠ b_1 := Nat.ne_of_lt (Nat.lt_of_lt_of_le E_o0.lt r0_1)
  have ne3 : li ≠ b_1 := Nat.ne_of_lt (Nat.lt_of_lt_of_le E_li.lt r0_1)
  have ne4 : dd ≠ b_1 := Nat.ne_of_lt (Nat.lt_of_lt_of_le V_dd.lt r0_1)
  have pre5 : ∀ t, Steps p.tables e below (T1.setTop (mkF m 13 #[.val (.ref o0), .val (.int p1), .val (.int p2), .val (.int p3), .val (.ref b_1)] [(.int (1 : Int32)), (.int p1)])) t → Steps p.tables e below (s₁.setTop (entryFrame m #[(.ref o0), (.int p1), (.int p2), (.int p3)] 5)) t := by
    intro t kt
    refine pre0 _ ?_
    show Steps p.tables e below (s₁.setTop (mkF m 0 #[.val (.ref o0), .val (.int p1), .val (.int p2), .val (.int p3), .unset] [])) _
    refine XS.iloadN X0.here hx rfl (hb hby d2_0) rfl ?_
    show Steps p.tables e below (s₁.setTop (mkF m 1 #[.val (.ref o0), .val (.int p1), .val (.int p2), .val (.int p3), .unset] [(.int p3)])) _
    refine XS.sipush X0.here hx rfl (hb hby d2_1) ?_
    show Steps p.tables e below (s₁.setTop (mkF m 4 #[.val (.ref o0), .val (.int p1), .val (.int p2), .val (.int p3), .unset] [(.int (255 : Int32)), (.int p3)])) _
    refine XS.iand X0.here hx rfl (hb hby d2_4) rfl ?_
    show Steps p.tables e below (s₁.setTop (mkF m 5 #[.val (.ref o0), .val (.int p1), .val (.int p2), .val (.int p3), .unset] [(.int (p3 &&& (255 : Int32)))])) _
    refine XS.i2c X0.here hx rfl (hb hby d2_5) rfl ?_
    show Steps p.tables e below (s₁.setTop (mkF m 6 #[.val (.ref o0), .val (.int p1), .val (.int p2), .val (.int p3), .unset] [(.int ((p3 &&& (255 : Int32)).toUInt32.toUInt16.toUInt32.toInt32))])) _
    refine st1 _ ?_
    show Steps p.tables e below (T1.setTop (mkF m 9 #[.val (.ref o0), .val (.int p1), .val (.int p2), .val (.int p3), .unset] [(.ref b_1)])) _
    refine XS.astore X1.here hx rfl (hb hby d2_9) rfl rfl (l' := #[.val (.ref o0), .val (.int p1), .val (.int p2), .val (.int p3), .val (.ref b_1)]) rfl ?_
    show Steps p.tables e below (T1.setTop (mkF m 11 #[.val (.ref o0), .val (.int p1), .val (.int p2), .val (.int p3), .val (.ref b_1)] [])) _
    refine XS.iloadN X1.here hx rfl (hb hby d2_11) rfl ?_
    show Steps p.tables e below (T1.setTop (mkF m 12 #[.val (.ref o0), .val (.int p1), .val (.int p2), .val (.int p3), .val (.ref b_1)] [(.int p1)])) _
    refine XS.iconst X1.here hx rfl (hb hby d2_12) ?_
    exact kt
  by_cases hc13_6 : p1 = (1 : Int32)
  · skip
    have c7 : Exa Z T1.heap o0 "com/example/tierline/tierline/csv/LineProblems" := (E_o0.keep K1)
    have c8 : Fld Z T1.heap o0 "com/example/tierline/tierline/csv/LineProblems" "count" "J" (.long cnt) := (F_count_o0.keep K1 nin0)
    have c9 : Fld Z T1.heap o0 "com/example/tierline/tierline/csv/LineProblems" "listed" "Ljava/util/List;" (.ref li) := (F_listed_o0.keep K1 nin0)
    have c10 : Exa Z T1.heap li "java/util/ArrayList" := (E_li.keep K1)
    have c11 : Fld Z T1.heap li "java/util/ArrayList" "size" "I" (.int (0 : Int32)) := (F_size_li.keep K1 nin0)
    have c12 : Fld Z T1.heap li "java/util/AbstractList" "modCount" "I" (.int mc) := (F_modCount_li.keep K1 nin0)
    have c13 : Fld Z T1.heap li "java/util/ArrayList" "elementData" "[Ljava/lang/Object;" (.ref dd) := (F_elementData_li.keep K1 nin0)
    have c14 : Arv Z T1.heap dd kd (.object "java/lang/Object") (0 : Int32) [] .null := (V_dd.keep K1 nin0)
    have c15 : Sta Z T1.heap "java/util/ArrayList" "DEFAULTCAPACITY_EMPTY_ELEMENTDATA" "[Ljava/lang/Object;" (.ref dd) := (own_Sta_keep S_DEFAULTCAPACITY_EMPTY_ELEMENTDATA K1 all0)
    have ne16 : dd ≠ o0 := (Ne.symm (Exa.neArv c7 c14 (hw _ (List.mem_of_getElem? (i := 1) rfl))))
    have ne17 : li ≠ o0 := (ne_exa c10 c7 (by decide))
    have ne18 : dd ≠ li := (Ne.symm (Exa.neArv c10 c14 (hw _ (List.mem_of_getElem? (i := 18) rfl))))
    have z19 : n0 ≤ T1.heap.size := (Nat.le_trans Z0 K1.1)
    obtain ⟨cq20, kq20, q20a, q20b, q20c⟩ := isOf hZ rfl c7
    -- pc 20: LineProblems.addAheadOnLine by rm483_0
    obtain ⟨_, _, ⟨T20, L20, k20, n20⟩, -, X20, ⟨Lc20, hQ20, l20, y20, z20'⟩, st20⟩ := X1.virtualBack hx (y := (⟨"com/example/tierline/tierline/csv/LineProblems", "addAheadOnLine", "(ILjava/lang/String;)V"⟩ : MethodName)) (z := (⟨"com/example/tierline/tierline/csv/LineProblems", "addAheadOnLine", "(ILjava/lang/String;)V"⟩ : MethodName)) hown (mvT hZ (hw _ (List.mem_of_getElem? (i := 176) rfl))) (mvT hZ (hw _ (List.mem_of_getElem? (i := 177) rfl))) (notFace_of_selects (args := #[]) (mvT hZ (hw _ (List.mem_of_getElem? (i := 179) rfl)))) (mvT hZ (hw _ (List.mem_of_getElem? (i := 179) rfl))) (mvT hZ (hw _ (List.mem_of_getElem? (i := 178) rfl))) (by decide) (backOf (W := 0) (rm483_0 l Z a0 hw [] o0 p2 b_1 cnt li mc dd kd T1.heap n0 z19 c7 c8 c9 c10 c11 c12 g_o0 g_li c13 c14 c15) hZ (hw _ (List.mem_of_getElem? (i := 180) rfl)) (hw _ (List.mem_of_getElem? (i := 2) rfl)) (by decide) (by decide)) q20a q20c (g := (mkF m 20 #[.val (.ref o0), .val (.int p1), .val (.int p2), .val (.int p3), .val (.ref b_1)] [(.ref b_1), (.int p2), (.ref o0)])) rfl (by rw [hml]; rfl) (Steps.refl _) (argsL := [(.int p2), (.ref b_1)]) (rest := []) (lenOf pd_15 rfl) rfl (by show 2 * 0 + _ ≤ _; exact Nat.le_of_eq rfl) (hb hby d2_20) (fun _ _ => ⟨rfl, rfl, (by decide : 2 + 2 ≤ _), (by decide : 5 + 13 ≤ _)⟩)
    dsimp only [Pt.U, Pt.locs, Pt.cells, Pt.slots] at X20 l20 y20 z20' st20 hQ20
    subst l20 y20 z20'
    obtain ⟨na_20, nk_20, y0_20, m0_20, d0_20, rfl, N20q, K20, r0_20, r1_20, r2_20, r3_20, r4_20, r5_20, r6_20, r7_20, r8_20, r9_20, r10_20⟩ := hQ20
    have N20 := Fr.app N1 N20q
    have J20 : Keep h0 T20.heap [o0, li] := J1.trans K20 (allS (Or.inl (List.mem_of_getElem? (i := 0) rfl)) (allS (Or.inl (List.mem_of_getElem? (i := 1) rfl)) all0))
    have g_na_20 : n0 ≤ na_20 := Nat.le_trans z19 r0_20
    have sz_na_20 : h0.size ≤ na_20 := Nat.le_trans J1.1 r0_20
    have ne21 : o0 ≠ na_20 := Nat.ne_of_lt (Nat.lt_of_lt_of_le c7.lt r0_20)
    have ne22 : li ≠ na_20 := Nat.ne_of_lt (Nat.lt_of_lt_of_le c10.lt r0_20)
    have ne23 : dd ≠ na_20 := Nat.ne_of_lt (Nat.lt_of_lt_of_le c14.lt r0_20)
    obtain ⟨fs, hr, hrun, hended, hW, hsame⟩ := X20.leave (v := none) (fun _ => rfl)
    refine ⟨_, _, pre5 _ ?_, hrun, hended, _, _, rfl, ?_, ⟨_, rfl⟩, hW, hsame.mono (by decide) (by decide)⟩
    · show Steps p.tables e below (T1.setTop (mkF m 13 #[.val (.ref o0), .val (.int p1), .val (.int p2), .val (.int p3), .val (.ref b_1)] [(.int (1 : Int32)), (.int p1)])) _
      refine XS.icmpNo X1.here hx rfl (hb hby d2_13) rfl (teq hc13_6).2 ?_
      show Steps p.tables e below (T1.setTop (mkF m 16 #[.val (.ref o0), .val (.int p1), .val (.int p2), .val (.int p3), .val (.ref b_1)] [])) _
      refine XS.aloadN X1.here hx rfl (hb hby d2_16) rfl rfl ?_
      show Steps p.tables e below (T1.setTop (mkF m 17 #[.val (.ref o0), .val (.int p1), .val (.int p2), .val (.int p3), .val (.ref b_1)] [(.ref o0)])) _
      refine XS.iloadN X1.here hx rfl (hb hby d2_17) rfl ?_
      show Steps p.tables e below (T1.setTop (mkF m 18 #[.val (.ref o0), .val (.int p1), .val (.int p2), .val (.int p3), .val (.ref b_1)] [(.int p2), (.ref o0)])) _
      refine XS.aload X1.here hx rfl (hb hby d2_18) rfl rfl ?_
      show Steps p.tables e below (T1.setTop (mkF m 20 #[.val (.ref o0), .val (.int p1), .val (.int p2), .val (.int p3), .val (.ref b_1)] [(.ref b_1), (.int p2), (.ref o0)])) _
      refine st20.trans ?_
      show Steps p.tables e below (T20.setTop (mkF m 23 #[.val (.ref o0), .val (.int p1), .val (.int p2), .val (.int p3), .val (.ref b_1)] [])) _
      refine XS.goto X20.here hx rfl (pc0 := 23) (pc' := 48) rfl (hb hby d2_23) (by decide) (by decide) ?_
      show Steps p.tables e below (T20.setTop (mkF m 48 #[.val (.ref o0), .val (.int p1), .val (.int p2), .val (.int p3), .val (.ref b_1)] [])) _
      exact X20.returnOut hx Bd.returns (hb hby d2_48) hr
    · show Q2_0 Z o0 p1 p2 p3 cnt li mc dd kd cs h0 n0 _ T20.heap _
      exact ⟨na_20, nk_20, y0_20, m0_20, d0_20, rfl, N20, J20, sz_na_20, r1_20, r2_20, r3_20, r4_20, r5_20, r6_20, r7_20, r8_20, r9_20, r10_20⟩
  · skip
    have pre24 : ∀ t, Steps p.tables e below (T1.setTop (mkF m 28 #[.val (.ref o0), .val (.int p1), .val (.int p2), .val (.int p3), .val (.ref b_1)] [(.int (2 : Int32)), (.int p1)])) t → Steps p.tables e below (s₁.setTop (entryFrame m #[(.ref o0), (.int p1), (.int p2), (.int p3)] 5)) t := by
      intro t kt
      refine pre5 _ ?_
      show Steps p.tables e below (T1.setTop (mkF m 13 #[.val (.ref o0), .val (.int p1), .val (.int p2), .val (.int p3), .val (.ref b_1)] [(.int (1 : Int32)), (.int p1)])) _
      refine XS.icmpYes X1.here hx rfl (pc0 := 13) (pc' := 26) rfl (hb hby d2_13) rfl (feq hc13_6).2 (by decide) (by decide) ?_
      show Steps p.tables e below (T1.setTop (mkF m 26 #[.val (.ref o0), .val (.int p1), .val (.int p2), .val (.int p3), .val (.ref b_1)] [])) _
      refine XS.iloadN X1.here hx rfl (hb hby d2_26) rfl ?_
      show Steps p.tables e below (T1.setTop (mkF m 27 #[.val (.ref o0), .val (.int p1), .val (.int p2), .val (.int p3), .val (.ref b_1)] [(.int p1)])) _
      refine XS.iconst X1.here hx rfl (hb hby d2_27) ?_
      exact kt
    by_cases hc28_25 : p1 = (2 : Int32)
    · skip
      have c26 : Exa Z T1.heap o0 "com/example/tierline/tierline/csv/LineProblems" := (E_o0.keep K1)
      have c27 : Fld Z T1.heap o0 "com/example/tierline/tierline/csv/LineProblems" "count" "J" (.long cnt) := (F_count_o0.keep K1 nin0)
      have c28 : Fld Z T1.heap o0 "com/example/tierline/tierline/csv/LineProblems" "listed" "Ljava/util/List;" (.ref li) := (F_listed_o0.keep K1 nin0)
      have c29 : Exa Z T1.heap li "java/util/ArrayList" := (E_li.keep K1)
      have c30 : Fld Z T1.heap li "java/util/ArrayList" "size" "I" (.int (0 : Int32)) := (F_size_li.keep K1 nin0)
      have c31 : Fld Z T1.heap li "java/util/AbstractList" "modCount" "I" (.int mc) := (F_modCount_li.keep K1 nin0)
      have c32 : Fld Z T1.heap li "java/util/ArrayList" "elementData" "[Ljava/lang/Object;" (.ref dd) := (F_elementData_li.keep K1 nin0)
      have c33 : Arv Z T1.heap dd kd (.object "java/lang/Object") (0 : Int32) [] .null := (V_dd.keep K1 nin0)
      have c34 : Sta Z T1.heap "java/util/ArrayList" "DEFAULTCAPACITY_EMPTY_ELEMENTDATA" "[Ljava/lang/Object;" (.ref dd) := (own_Sta_keep S_DEFAULTCAPACITY_EMPTY_ELEMENTDATA K1 all0)
      have ne35 : dd ≠ o0 := (Ne.symm (Exa.neArv c26 c33 (hw _ (List.mem_of_getElem? (i := 1) rfl))))
      have ne36 : li ≠ o0 := (ne_exa c29 c26 (by decide))
      have ne37 : dd ≠ li := (Ne.symm (Exa.neArv c29 c33 (hw _ (List.mem_of_getElem? (i := 18) rfl))))
      have z38 : n0 ≤ T1.heap.size := (Nat.le_trans Z0 K1.1)
      obtain ⟨cq39, kq39, q39a, q39b, q39c⟩ := isOf hZ rfl c26
      -- pc 35: LineProblems.addConflict by rm484_0
      obtain ⟨_, _, ⟨T39, L39, k39, n39⟩, -, X39, ⟨Lc39, hQ39, l39, y39, z39'⟩, st39⟩ := X1.virtualBack hx (y := (⟨"com/example/tierline/tierline/csv/LineProblems", "addConflict", "(ILjava/lang/String;)V"⟩ : MethodName)) (z := (⟨"com/example/tierline/tierline/csv/LineProblems", "addConflict", "(ILjava/lang/String;)V"⟩ : MethodName)) hown (mvT hZ (hw _ (List.mem_of_getElem? (i := 144) rfl))) (mvT hZ (hw _ (List.mem_of_getElem? (i := 145) rfl))) (notFace_of_selects (args := #[]) (mvT hZ (hw _ (List.mem_of_getElem? (i := 147) rfl)))) (mvT hZ (hw _ (List.mem_of_getElem? (i := 147) rfl))) (mvT hZ (hw _ (List.mem_of_getElem? (i := 146) rfl))) (by decide) (backOf (W := 0) (rm484_0 l Z a0 hw [] o0 p2 b_1 cnt li mc dd kd T1.heap n0 z38 c26 c27 c28 c29 c30 c31 g_o0 g_li c32 c33 c34) hZ (hw _ (List.mem_of_getElem? (i := 148) rfl)) (hw _ (List.mem_of_getElem? (i := 2) rfl)) (by decide) (by decide)) q39a q39c (g := (mkF m 35 #[.val (.ref o0), .val (.int p1), .val (.int p2), .val (.int p3), .val (.ref b_1)] [(.ref b_1), (.int p2), (.ref o0)])) rfl (by rw [hml]; rfl) (Steps.refl _) (argsL := [(.int p2), (.ref b_1)]) (rest := []) (lenOf pd_15 rfl) rfl (by show 2 * 0 + _ ≤ _; exact Nat.le_of_eq rfl) (hb hby d2_35) (fun _ _ => ⟨rfl, rfl, (by decide : 2 + 2 ≤ _), (by decide : 5 + 13 ≤ _)⟩)
      dsimp only [Pt.U, Pt.locs, Pt.cells, Pt.slots] at X39 l39 y39 z39' st39 hQ39
      subst l39 y39 z39'
      obtain ⟨na_39, nk_39, y0_39, m0_39, d0_39, rfl, N39q, K39, r0_39, r1_39, r2_39, r3_39, r4_39, r5_39, r6_39, r7_39, r8_39, r9_39, r10_39⟩ := hQ39
      have N39 := Fr.app N1 N39q
      have J39 : Keep h0 T39.heap [o0, li] := J1.trans K39 (allS (Or.inl (List.mem_of_getElem? (i := 0) rfl)) (allS (Or.inl (List.mem_of_getElem? (i := 1) rfl)) all0))
      have g_na_39 : n0 ≤ na_39 := Nat.le_trans z38 r0_39
      have sz_na_39 : h0.size ≤ na_39 := Nat.le_trans J1.1 r0_39
      have ne40 : o0 ≠ na_39 := Nat.ne_of_lt (Nat.lt_of_lt_of_le c26.lt r0_39)
      have ne41 : li ≠ na_39 := Nat.ne_of_lt (Nat.lt_of_lt_of_le c29.lt r0_39)
      have ne42 : dd ≠ na_39 := Nat.ne_of_lt (Nat.lt_of_lt_of_le c33.lt r0_39)
      obtain ⟨fs, hr, hrun, hended, hW, hsame⟩ := X39.leave (v := none) (fun _ => rfl)
      refine ⟨_, _, pre24 _ ?_, hrun, hended, _, _, rfl, ?_, ⟨_, rfl⟩, hW, hsame.mono (by decide) (by decide)⟩
      · show Steps p.tables e below (T1.setTop (mkF m 28 #[.val (.ref o0), .val (.int p1), .val (.int p2), .val (.int p3), .val (.ref b_1)] [(.int (2 : Int32)), (.int p1)])) _
        refine XS.icmpNo X1.here hx rfl (hb hby d2_28) rfl (teq hc28_25).2 ?_
        show Steps p.tables e below (T1.setTop (mkF m 31 #[.val (.ref o0), .val (.int p1), .val (.int p2), .val (.int p3), .val (.ref b_1)] [])) _
        refine XS.aloadN X1.here hx rfl (hb hby d2_31) rfl rfl ?_
        show Steps p.tables e below (T1.setTop (mkF m 32 #[.val (.ref o0), .val (.int p1), .val (.int p2), .val (.int p3), .val (.ref b_1)] [(.ref o0)])) _
        refine XS.iloadN X1.here hx rfl (hb hby d2_32) rfl ?_
        show Steps p.tables e below (T1.setTop (mkF m 33 #[.val (.ref o0), .val (.int p1), .val (.int p2), .val (.int p3), .val (.ref b_1)] [(.int p2), (.ref o0)])) _
        refine XS.aload X1.here hx rfl (hb hby d2_33) rfl rfl ?_
        show Steps p.tables e below (T1.setTop (mkF m 35 #[.val (.ref o0), .val (.int p1), .val (.int p2), .val (.int p3), .val (.ref b_1)] [(.ref b_1), (.int p2), (.ref o0)])) _
        refine st39.trans ?_
        show Steps p.tables e below (T39.setTop (mkF m 38 #[.val (.ref o0), .val (.int p1), .val (.int p2), .val (.int p3), .val (.ref b_1)] [])) _
        refine XS.goto X39.here hx rfl (pc0 := 38) (pc' := 48) rfl (hb hby d2_38) (by decide) (by decide) ?_
        show Steps p.tables e below (T39.setTop (mkF m 48 #[.val (.ref o0), .val (.int p1), .val (.int p2), .val (.int p3), .val (.ref b_1)] [])) _
        exact X39.returnOut hx Bd.returns (hb hby d2_48) hr
      · show Q2_0 Z o0 p1 p2 p3 cnt li mc dd kd cs h0 n0 _ T39.heap _
        exact ⟨na_39, nk_39, y0_39, m0_39, d0_39, rfl, N39, J39, sz_na_39, r1_39, r2_39, r3_39, r4_39, r5_39, r6_39, r7_39, r8_39, r9_39, r10_39⟩
    · skip
      have c43 : Exa Z T1.heap o0 "com/example/tierline/tierline/csv/LineProblems" := (E_o0.keep K1)
      have c44 : Fld Z T1.heap o0 "com/example/tierline/tierline/csv/LineProblems" "count" "J" (.long cnt) := (F_count_o0.keep K1 nin0)
      have c45 : Fld Z T1.heap o0 "com/example/tierline/tierline/csv/LineProblems" "listed" "Ljava/util/List;" (.ref li) := (F_listed_o0.keep K1 nin0)
      have c46 : Exa Z T1.heap li "java/util/ArrayList" := (E_li.keep K1)
      have c47 : Fld Z T1.heap li "java/util/ArrayList" "size" "I" (.int (0 : Int32)) := (F_size_li.keep K1 nin0)
      have c48 : Fld Z T1.heap li "java/util/AbstractList" "modCount" "I" (.int mc) := (F_modCount_li.keep K1 nin0)
      have c49 : Fld Z T1.heap li "java/util/ArrayList" "elementData" "[Ljava/lang/Object;" (.ref dd) := (F_elementData_li.keep K1 nin0)
      have c50 : Arv Z T1.heap dd kd (.object "java/lang/Object") (0 : Int32) [] .null := (V_dd.keep K1 nin0)
      have c51 : Sta Z T1.heap "java/util/ArrayList" "DEFAULTCAPACITY_EMPTY_ELEMENTDATA" "[Ljava/lang/Object;" (.ref dd) := (own_Sta_keep S_DEFAULTCAPACITY_EMPTY_ELEMENTDATA K1 all0)
      have ne52 : dd ≠ o0 := (Ne.symm (Exa.neArv c43 c50 (hw _ (List.mem_of_getElem? (i := 1) rfl))))
      have ne53 : li ≠ o0 := (ne_exa c46 c43 (by decide))
      have ne54 : dd ≠ li := (Ne.symm (Exa.neArv c46 c50 (hw _ (List.mem_of_getElem? (i := 18) rfl))))
      have z55 : n0 ≤ T1.heap.size := (Nat.le_trans Z0 K1.1)
      obtain ⟨cq56, kq56, q56a, q56b, q56c⟩ := isOf hZ rfl c43
      -- pc 45: LineProblems.add by rm482_0
      obtain ⟨_, _, ⟨T56, L56, k56, n56⟩, -, X56, ⟨Lc56, hQ56, l56, y56, z56'⟩, st56⟩ := X1.virtualBack hx (y := (⟨"com/example/tierline/tierline/csv/LineProblems", "add", "(ILjava/lang/String;)V"⟩ : MethodName)) (z := (⟨"com/example/tierline/tierline/csv/LineProblems", "add", "(ILjava/lang/String;)V"⟩ : MethodName)) hown (mvT hZ (hw _ (List.mem_of_getElem? (i := 75) rfl))) (mvT hZ (hw _ (List.mem_of_getElem? (i := 76) rfl))) (notFace_of_selects (args := #[]) (mvT hZ (hw _ (List.mem_of_getElem? (i := 78) rfl)))) (mvT hZ (hw _ (List.mem_of_getElem? (i := 78) rfl))) (mvT hZ (hw _ (List.mem_of_getElem? (i := 77) rfl))) (by decide) (backOf (W := 0) (rm482_0 l Z a0 hw [] o0 p2 b_1 cnt li mc dd kd T1.heap n0 z55 c43 c44 c45 c46 c47 c48 g_o0 g_li c49 c50 c51) hZ (hw _ (List.mem_of_getElem? (i := 79) rfl)) (hw _ (List.mem_of_getElem? (i := 2) rfl)) (by decide) (by decide)) q56a q56c (g := (mkF m 45 #[.val (.ref o0), .val (.int p1), .val (.int p2), .val (.int p3), .val (.ref b_1)] [(.ref b_1), (.int p2), (.ref o0)])) rfl (by rw [hml]; rfl) (Steps.refl _) (argsL := [(.int p2), (.ref b_1)]) (rest := []) (lenOf pd_15 rfl) rfl (by show 2 * 0 + _ ≤ _; exact Nat.le_of_eq rfl) (hb hby d2_45) (fun _ _ => ⟨rfl, rfl, (by decide : 2 + 2 ≤ _), (by decide : 5 + 13 ≤ _)⟩)
      dsimp only [Pt.U, Pt.locs, Pt.cells, Pt.slots] at X56 l56 y56 z56' st56 hQ56
      subst l56 y56 z56'
      obtain ⟨na_56, nk_56, y0_56, m0_56, d0_56, rfl, N56q, K56, r0_56, r1_56, r2_56, r3_56, r4_56, r5_56, r6_56, r7_56, r8_56, r9_56, r10_56⟩ := hQ56
      have N56 := Fr.app N1 N56q
      have J56 : Keep h0 T56.heap [o0, li] := J1.trans K56 (allS (Or.inl (List.mem_of_getElem? (i := 0) rfl)) (allS (Or.inl (List.mem_of_getElem? (i := 1) rfl)) all0))
      have g_na_56 : n0 ≤ na_56 := Nat.le_trans z55 r0_56
      have sz_na_56 : h0.size ≤ na_56 := Nat.le_trans J1.1 r0_56
      have ne57 : o0 ≠ na_56 := Nat.ne_of_lt (Nat.lt_of_lt_of_le c43.lt r0_56)
      have ne58 : li ≠ na_56 := Nat.ne_of_lt (Nat.lt_of_lt_of_le c46.lt r0_56)
      have ne59 : dd ≠ na_56 := Nat.ne_of_lt (Nat.lt_of_lt_of_le c50.lt r0_56)
      obtain ⟨fs, hr, hrun, hended, hW, hsame⟩ := X56.leave (v := none) (fun _ => rfl)
      refine ⟨_, _, pre24 _ ?_, hrun, hended, _, _, rfl, ?_, ⟨_, rfl⟩, hW, hsame.mono (by decide) (by decide)⟩
      · show Steps p.tables e below (T1.setTop (mkF m 28 #[.val (.ref o0), .val (.int p1), .val (.int p2), .val (.int p3), .val (.ref b_1)] [(.int (2 : Int32)), (.int p1)])) _
        refine XS.icmpYes X1.here hx rfl (pc0 := 28) (pc' := 41) rfl (hb hby d2_28) rfl (feq hc28_25).2 (by decide) (by decide) ?_
        show Steps p.tables e below (T1.setTop (mkF m 41 #[.val (.ref o0), .val (.int p1), .val (.int p2), .val (.int p3), .val (.ref b_1)] [])) _
        refine XS.aloadN X1.here hx rfl (hb hby d2_41) rfl rfl ?_
        show Steps p.tables e below (T1.setTop (mkF m 42 #[.val (.ref o0), .val (.int p1), .val (.int p2), .val (.int p3), .val (.ref b_1)] [(.ref o0)])) _
        refine XS.iloadN X1.here hx rfl (hb hby d2_42) rfl ?_
        show Steps p.tables e below (T1.setTop (mkF m 43 #[.val (.ref o0), .val (.int p1), .val (.int p2), .val (.int p3), .val (.ref b_1)] [(.int p2), (.ref o0)])) _
        refine XS.aload X1.here hx rfl (hb hby d2_43) rfl rfl ?_
        show Steps p.tables e below (T1.setTop (mkF m 45 #[.val (.ref o0), .val (.int p1), .val (.int p2), .val (.int p3), .val (.ref b_1)] [(.ref b_1), (.int p2), (.ref o0)])) _
        refine st56.trans ?_
        show Steps p.tables e below (T56.setTop (mkF m 48 #[.val (.ref o0), .val (.int p1), .val (.int p2), .val (.int p3), .val (.ref b_1)] [])) _
        exact X56.returnOut hx Bd.returns (hb hby d2_48) hr
      · show Q2_0 Z o0 p1 p2 p3 cnt li mc dd kd cs h0 n0 _ T56.heap _
        exact ⟨na_56, nk_56, y0_56, m0_56, d0_56, rfl, N56, J56, sz_na_56, r1_56, r2_56, r3_56, r4_56, r5_56, r6_56, r7_56, r8_56, r9_56, r10_56⟩
theorem d485_24 : decode prog_48_method_5_code 24 = .ok (.aload_n 0, 1) := by decide +kernel
theorem d485_25 : decode prog_48_method_5_code 25 = .ok (.getfield 10, 3) := by decide +kernel
theorem d485_28 : decode prog_48_method_5_code 28 = .ok (.iload_n 3, 1) := by decide +kernel
theorem d485_29 : decode prog_48_method_5_code 29 = .ok (.iconst 1, 1) := by decide +kernel
theorem d485_30 : decode prog_48_method_5_code 30 = .ok (.isub, 1) := by decide +kernel
theorem d485_31 : decode prog_48_method_5_code 31 = .ok (.invokeinterface 39 2, 5) := by decide +kernel
theorem d485_36 : decode prog_48_method_5_code 36 = .ok (.checkcast 20, 3) := by decide +kernel
theorem d485_39 : decode prog_48_method_5_code 39 = .ok (.aload_n 1, 1) := by decide +kernel
theorem d485_40 : decode prog_48_method_5_code 40 = .ok (.iload_n 2, 1) := by decide +kernel
theorem d485_41 : decode prog_48_method_5_code 41 = .ok (.invokestatic 43, 3) := by decide +kernel
theorem d485_44 : decode prog_48_method_5_code 44 = .ok (.ifCond .eq 9, 3) := by decide +kernel
theorem d485_47 : decode prog_48_method_5_code 47 = .ok (.iinc 3 (-1), 3) := by decide +kernel
theorem d485_50 : decode prog_48_method_5_code 50 = .ok (.goto (-30), 3) := by decide +kernel
theorem pd_16 : parseMethodDescriptor "(Lcom/example/tierline/tierline/csv/LineProblems$Problem;Lcom/example/tierline/tierline/csv/LineProblems$Problem;Z)Z" = some ⟨[(.object "com/example/tierline/tierline/csv/LineProblems$Problem"), (.object "com/example/tierline/tierline/csv/LineProblems$Problem"), .boolean], some .boolean⟩ := by decide +kernel
theorem ef_485_1 (m : MethodId) (o0 : Addr) (o1 : Addr) (p2 : Int32) : entryFrame m #[(.ref o0), (.ref o1), (.int p2)] 4 = mkF m 0 #[.val (.ref o0), .val (.ref o1), .val (.int p2), .unset] [] := by first | (simp [entryFrame, mkF, argsToLocals, Value.category]; done) | rfl
def Q485_1 (Z : State) (o0 : Addr) (o1 : Addr) (p2 : Int32) (cnt : Int64) (li : Addr) (mc : Int32) (arr : Addr) (ka : ClassId) (x0 : Addr) (l0 : Int32) (c0 : Int32) (lo : Int32) (co : Int32) (h0 : Heap) (n0 : Nat) (v : Option Value) (h : Heap) (L : List Loc) : Prop := ∃ y0 : Addr, ∃ m0 : Int32, ∃ d0 : Int32, ∃ y1 : Addr, ∃ m1 : Int32, ∃ d1 : Int32, v = none ∧ Fr n0 L ∧ Keep h0 h [o0, li, arr] ∧ Fld Z h o0 "com/example/tierline/tierline/csv/LineProblems" "count" "J" (.long (cnt + (1 : Int64))) ∧ Fld Z h o0 "com/example/tierline/tierline/csv/LineProblems" "listed" "Ljava/util/List;" (.ref li) ∧ Fld Z h li "java/util/ArrayList" "size" "I" (.int (2 : Int32)) ∧ Fld Z h li "java/util/AbstractList" "modCount" "I" (.int (mc + (1 : Int32))) ∧ Exa Z h y0 "com/example/tierline/tierline/csv/LineProblems$Problem" ∧ Fld Z h y0 "com/example/tierline/tierline/csv/LineProblems$Problem" "line" "I" (.int m0) ∧ Fld Z h y0 "com/example/tierline/tierline/csv/LineProblems$Problem" "conflict" "Z" (.int d0) ∧ Exa Z h y1 "com/example/tierline/tierline/csv/LineProblems$Problem" ∧ Fld Z h y1 "com/example/tierline/tierline/csv/LineProblems$Problem" "line" "I" (.int m1) ∧ Fld Z h y1 "com/example/tierline/tierline/csv/LineProblems$Problem" "conflict" "Z" (.int d1) ∧ Fld Z h li "java/util/ArrayList" "elementData" "[Ljava/lang/Object;" (.ref arr) ∧ Arv Z h arr ka (.object "java/lang/Object") (10 : Int32) [(.ref y0), (.ref y1)] .null
set_option maxRecDepth 65536 in
set_option maxHeartbeats 40000000 in
theorem rm485_1 (l : Launch) (Z : State) (a0 : Array Value) (hw : ∀ d ∈ tables_1, d.before a0 Z = true) (ws : List Jvm.Cond) (o0 : Addr) (o1 : Addr) (p2 : Int32) (cnt : Int64) (li : Addr) (mc : Int32) (arr : Addr) (ka : ClassId) (x0 : Addr) (l0 : Int32) (c0 : Int32) (lo : Int32) (co : Int32) (h0 : Heap) (n0 : Nat) (Z0 : n0 ≤ h0.size) (E_o0 : Exa Z h0 o0 "com/example/tierline/tierline/csv/LineProblems") (F_count_o0 : Fld Z h0 o0 "com/example/tierline/tierline/csv/LineProblems" "count" "J" (.long cnt)) (F_listed_o0 : Fld Z h0 o0 "com/example/tierline/tierline/csv/LineProblems" "listed" "Ljava/util/List;" (.ref li)) (E_li : Exa Z h0 li "java/util/ArrayList") (F_size_li : Fld Z h0 li "java/util/ArrayList" "size" "I" (.int (1 : Int32))) (F_modCount_li : Fld Z h0 li "java/util/AbstractList" "modCount" "I" (.int mc)) (g_o0 : n0 ≤ o0) (g_li : n0 ≤ li) (F_elementData_li : Fld Z h0 li "java/util/ArrayList" "elementData" "[Ljava/lang/Object;" (.ref arr)) (V_arr : Arv Z h0 arr ka (.object "java/lang/Object") (10 : Int32) [(.ref x0)] .null) (ovr_ka : Ovr Z ka "java/lang/Object") (g_arr : n0 ≤ arr) (E_x0 : Exa Z h0 x0 "com/example/tierline/tierline/csv/LineProblems$Problem") (F_line_x0 : Fld Z h0 x0 "com/example/tierline/tierline/csv/LineProblems$Problem" "line" "I" (.int l0)) (F_conflict_x0 : Fld Z h0 x0 "com/example/tierline/tierline/csv/LineProblems$Problem" "conflict" "Z" (.int c0)) (E_o1 : Exa Z h0 o1 "com/example/tierline/tierline/csv/LineProblems$Problem") (F_line_o1 : Fld Z h0 o1 "com/example/tierline/tierline/csv/LineProblems$Problem" "line" "I" (.int lo)) (F_conflict_o1 : Fld Z h0 o1 "com/example/tierline/tierline/csv/LineProblems$Problem" "conflict" "Z" (.int co)) :
    MetFree l (⟨"com/example/tierline/tierline/csv/LineProblems", "add", "(Lcom/example/tierline/tierline/csv/LineProblems$Problem;Z)V"⟩ : MethodName) (head1 (Jvm.Cond.code (⟨"com/example/tierline/tierline/csv/LineProblems", "add", "(Lcom/example/tierline/tierline/csv/LineProblems$Problem;Z)V"⟩ : MethodName) prog_48_method_5_code 4 none :: ws) ({ frames := 3, cells := 0, slots := 0, locals := 40 } : Room)) (fun a U => a = #[(.ref o0), (.ref o1), (.int p2)] ∧ Z.Warmed39 U.vm ∧ U.heap = h0) (fun _ _ _ _ _ => True) (fun _ U o U' => ∃ v L, o = .returned v ∧ Q485_1 Z o0 o1 p2 cnt li mc arr ka x0 l0 c0 lo co h0 n0 v U'.heap L ∧ FrameEnd U o U' L ({ frames := 3, cells := 0, slots := 0, locals := 40 } : Room).cells ({ frames := 3, cells := 0, slots := 0, locals := 40 } : Room).slots) := by
  refine MetFree.of_bodySF (plainFor_of_name pn_com_example_tierline_tierline_csv_LineProblems) hisR ?_
  intro p e s m args below meth c s₁ Bd hml0 hP hK
  obtain ⟨rfl, hZ, hh⟩ := hP
  have hx := Bd.exec
  have hby := Bd.bytes
  have hml : c.maxLocals = 4 := hml0
  have hown : s.vm.findClass "com/example/tierline/tierline/csv/LineProblems" = some m.cls := findClass_of_methodNamed Bd.named
  have hnm := (name_of_methodNamed Bd.named Bd.method).1
  have X0 : Stand p l e ({ frames := 3, cells := 0, slots := 0, locals := 40 } : Room) s m #[(.ref o0), (.ref o1), (.int p2)] below meth c s₁ [] 0 0 := Stand.of_body Bd
  have e0 : s₁.heap = h0 := by rw [← hh, Bd.state]; rfl
  have N0 := Fr.nil n0
  have pre0 : ∀ t, Steps p.tables e below (s₁.setTop (mkF m 0 #[.val (.ref o0), .val (.ref o1), .val (.int p2), .unset] [])) t → Steps p.tables e below (s₁.setTop (entryFrame m #[(.ref o0), (.ref o1), (.int p2)] 4)) t := fun t k => castTop (ef_485_1 m o0 o1 p2) k
  obtain ⟨T1, X1, e1, st1⟩ := getF X0 hx hZ hown (host := "") (Or.inl (hw _ (List.mem_of_getElem? (i := 50) rfl))) Via.refl e0 F_count_o0 (g := (mkF m 2 #[.val (.ref o0), .val (.ref o1), .val (.int p2), .unset] [(.ref o0), (.ref o0)])) rfl rfl (hb hby d485_2)
  have ne2 : arr ≠ o0 := (Ne.symm (Exa.neArv E_o0 V_arr (hw _ (List.mem_of_getElem? (i := 1) rfl))))
  have ne3 : li ≠ o0 := (ne_exa E_li E_o0 (by decide))
  have ne4 : o1 ≠ o0 := (ne_exa E_o1 E_o0 (by decide))
  have ne5 : x0 ≠ o0 := (ne_exa E_x0 E_o0 (by decide))
  obtain ⟨T6, h6, X6, e6, W6, st6⟩ := putF X1 hx hZ hown (host := "") (Or.inl (hw _ (List.mem_of_getElem? (i := 50) rfl))) Via.refl e1 F_count_o0 E_o0 (Or.inl (hw _ (List.mem_of_getElem? (i := 51) rfl))) (hw _ (List.mem_of_getElem? (i := 1) rfl)) (ty := .long) (by decide) rfl rfl (g := (mkF m 7 #[.val (.ref o0), .val (.ref o1), .val (.int p2), .unset] [(.long (cnt + (1 : Int64))), (.ref o0)])) rfl rfl (hb hby d485_7)
  have Fw6 : Fld Z h6 o0 "com/example/tierline/tierline/csv/LineProblems" "count" "J" (.long (cnt + (1 : Int64))) := F_count_o0.same W6
  have J6 : Keep h0 h6 [o0, li, arr] := (Keep.refl h0 [o0, li, arr]).wr W6 (Or.inl (List.mem_of_getElem? (i := 0) rfl))
  have N6 := Fr.snoc X6 N0 g_o0
  have c7 : Fld Z h6 o0 "com/example/tierline/tierline/csv/LineProblems" "listed" "Ljava/util/List;" (.ref li) := (F_listed_o0.other W6 (Or.inr (slot_ne (Or.inr (hw _ (List.mem_of_getElem? (i := 42) rfl))) (Or.inl (hw _ (List.mem_of_getElem? (i := 51) rfl))) (by decide) (t := (.object "java/util/List")) (t' := .long) (by decide) (by decide))))
  obtain ⟨T8, X8, e8, st8⟩ := getF X6 hx hZ hown (host := "") (Or.inl (hw _ (List.mem_of_getElem? (i := 41) rfl))) Via.refl e6 c7 (g := (mkF m 11 #[.val (.ref o0), .val (.ref o1), .val (.int p2), .unset] [(.ref o0)])) rfl rfl (hb hby d485_11)
  have c9 : Fld Z h6 li "java/util/ArrayList" "size" "I" (.int (1 : Int32)) := (F_size_li.other W6 (Or.inl ne3))
  have z10 : n0 ≤ h6.size := (Nat.le_trans Z0 (Keep.of_wr W6).1)
  have c12 : Exa Z h6 li "java/util/ArrayList" := (E_li.wr W6)
  obtain ⟨cq11, kq11, q11a, q11b, q11c⟩ := isOf hZ e8 c12
  -- pc 14: List.size by rm388
  obtain ⟨_, _, ⟨T11, L11, k11, n11⟩, -, X11, ⟨Lc11, hQ11, l11, y11, z11'⟩, st11⟩ := X8.interfaceBack hx (xi := (⟨"java/util/List", "size", "()I"⟩ : MethodName)) (y := (⟨"java/util/ArrayList", "size", "()I"⟩ : MethodName)) hown (mvT hZ (hw _ (List.mem_of_getElem? (i := 97) rfl))) (mvT hZ (hw _ (List.mem_of_getElem? (i := 98) rfl))) (mvT hZ (hw _ (List.mem_of_getElem? (i := 99) rfl))) (mvT hZ (hw _ (List.mem_of_getElem? (i := 100) rfl))) (mvT hZ (hw _ (List.mem_of_getElem? (i := 101) rfl))) (mvT hZ (hw _ (List.mem_of_getElem? (i := 102) rfl))) (mvT hZ (hw _ (List.mem_of_getElem? (i := 103) rfl))) (mvT hZ (hw _ (List.mem_of_getElem? (i := 104) rfl))) (by decide) (backOf (W := 0) (rm388 l Z a0 hw [] li (1 : Int32) h6 n0 z10 c9) hZ (hw _ (List.mem_of_getElem? (i := 105) rfl)) (hw _ (List.mem_of_getElem? (i := 19) rfl)) (by decide) (by decide)) q11a q11b q11c (g := (mkF m 14 #[.val (.ref o0), .val (.ref o1), .val (.int p2), .unset] [(.ref li)])) rfl (by rw [hml]; rfl) (Steps.refl _) (argsL := []) (rest := []) (lenOf pd_10 rfl) rfl (by show 2 * 0 + _ ≤ _; exact Nat.le_of_eq rfl) (hb hby d485_14) (fun _ _ => ⟨rfl, e8, (by decide : 0 + 0 ≤ _), (by decide : 0 + 0 ≤ _)⟩)
  dsimp only [Pt.U, Pt.locs, Pt.cells, Pt.slots] at X11 l11 y11 z11' st11 hQ11
  subst l11 y11 z11'
  obtain ⟨rfl, N11q, K11⟩ := hQ11
  have N11 := Fr.app N6 N11q
  have J11 : Keep h0 T11.heap [o0, li, arr] := J6.trans K11 all0
  have c13 : Fld Z T11.heap o0 "com/example/tierline/tierline/csv/LineProblems" "listed" "Ljava/util/List;" (.ref li) := (c7.keep K11 nin0)
  obtain ⟨T14, X14, e14, st14⟩ := getF X11 hx hZ hown (host := "") (Or.inl (hw _ (List.mem_of_getElem? (i := 41) rfl))) Via.refl rfl c13 (g := (mkF m 25 #[.val (.ref o0), .val (.ref o1), .val (.int p2), .val (.int (1 : Int32))] [(.ref o0)])) rfl rfl (hb hby d485_25)
  have c15 : Exa Z T11.heap li "java/util/ArrayList" := (c12.keep K11)
  have c16 : Fld Z T11.heap li "java/util/ArrayList" "size" "I" (.int (1 : Int32)) := (c9.keep K11 nin0)
  have c17 : Fld Z T11.heap li "java/util/ArrayList" "elementData" "[Ljava/lang/Object;" (.ref arr) := ((F_elementData_li.other W6 (Or.inl ne3)).keep K11 nin0)
  have c18 : Arv Z T11.heap arr ka (.object "java/lang/Object") (10 : Int32) [(.ref x0)] .null := ((V_arr.other W6 ne2).keep K11 nin0)
  have z19 : n0 ≤ T11.heap.size := (Nat.le_trans z10 K11.1)
  obtain ⟨cq20, kq20, q20a, q20b, q20c⟩ := isOf hZ e14 c15
  -- pc 31: List.get by rm3820_0_1
  obtain ⟨_, _, ⟨T20, L20, k20, n20⟩, -, X20, ⟨Lc20, hQ20, l20, y20, z20'⟩, st20⟩ := X14.interfaceBack hx (xi := (⟨"java/util/List", "get", "(I)Ljava/lang/Object;"⟩ : MethodName)) (y := (⟨"java/util/ArrayList", "get", "(I)Ljava/lang/Object;"⟩ : MethodName)) hown (mvT hZ (hw _ (List.mem_of_getElem? (i := 149) rfl))) (mvT hZ (hw _ (List.mem_of_getElem? (i := 150) rfl))) (mvT hZ (hw _ (List.mem_of_getElem? (i := 151) rfl))) (mvT hZ (hw _ (List.mem_of_getElem? (i := 152) rfl))) (mvT hZ (hw _ (List.mem_of_getElem? (i := 153) rfl))) (mvT hZ (hw _ (List.mem_of_getElem? (i := 154) rfl))) (mvT hZ (hw _ (List.mem_of_getElem? (i := 155) rfl))) (mvT hZ (hw _ (List.mem_of_getElem? (i := 104) rfl))) (by decide) (backOf (W := 0) (rm3820_0_1 l Z a0 hw [] li arr ka [(.ref x0)] x0 T11.heap n0 z19 c15 c16 c17 c18 rfl) hZ (hw _ (List.mem_of_getElem? (i := 156) rfl)) (hw _ (List.mem_of_getElem? (i := 19) rfl)) (by decide) (by decide)) q20a q20b q20c (g := (mkF m 31 #[.val (.ref o0), .val (.ref o1), .val (.int p2), .val (.int (1 : Int32))] [(.int (0 : Int32)), (.ref li)])) rfl (by rw [hml]; rfl) (Steps.refl _) (argsL := [(.int (0 : Int32))]) (rest := []) (lenOf pd_9 rfl) rfl (by show 2 * 0 + _ ≤ _; exact Nat.le_of_eq rfl) (hb hby d485_31) (fun _ _ => ⟨rfl, e14, (by decide : 0 + 0 ≤ _), (by decide : 0 + 0 ≤ _)⟩)
  dsimp only [Pt.U, Pt.locs, Pt.cells, Pt.slots] at X20 l20 y20 z20' st20 hQ20
  subst l20 y20 z20'
  obtain ⟨rfl, N20q, K20⟩ := hQ20
  have N20 := Fr.app N11 N20q
  have J20 : Keep h0 T20.heap [o0, li, arr] := J11.trans K20 all0
  have c21 : Exa Z T20.heap x0 "com/example/tierline/tierline/csv/LineProblems$Problem" := (((E_x0.wr W6).keep K11).keep K20)
  obtain ⟨T22, X22, e22, st22⟩ := castY X20 hx hZ hown (hw _ (List.mem_of_getElem? (i := 80) rfl)) rfl (Ins.self c21) (g := (mkF m 36 #[.val (.ref o0), .val (.ref o1), .val (.int p2), .val (.int (1 : Int32))] [(.ref x0)])) rfl rfl (hb hby d485_36)
  have c23 : Fld Z T20.heap x0 "com/example/tierline/tierline/csv/LineProblems$Problem" "line" "I" (.int l0) := (((F_line_x0.other W6 (Or.inl ne5)).keep K11 nin0).keep K20 nin0)
  have c24 : Fld Z T20.heap x0 "com/example/tierline/tierline/csv/LineProblems$Problem" "conflict" "Z" (.int c0) := (((F_conflict_x0.other W6 (Or.inl ne5)).keep K11 nin0).keep K20 nin0)
  have c25 : Fld Z T20.heap o1 "com/example/tierline/tierline/csv/LineProblems$Problem" "line" "I" (.int lo) := (((F_line_o1.other W6 (Or.inl ne4)).keep K11 nin0).keep K20 nin0)
  have c26 : Fld Z T20.heap o1 "com/example/tierline/tierline/csv/LineProblems$Problem" "conflict" "Z" (.int co) := (((F_conflict_o1.other W6 (Or.inl ne4)).keep K11 nin0).keep K20 nin0)
  have z27 : n0 ≤ T20.heap.size := (Nat.le_trans z19 K20.1)
  -- pc 41: LineProblems.listsAfter by rm486
  obtain ⟨_, _, ⟨T28, L28, k28, n28⟩, -, X28, ⟨Lc28, hQ28, l28, y28, z28'⟩, st28⟩ := Jvm.LawKit.callS X22 hx (y := (⟨"com/example/tierline/tierline/csv/LineProblems", "listsAfter", "(Lcom/example/tierline/tierline/csv/LineProblems$Problem;Lcom/example/tierline/tierline/csv/LineProblems$Problem;Z)Z"⟩ : MethodName)) hown (mvT hZ (hw _ (List.mem_of_getElem? (i := 171) rfl))) (mvT hZ (hw _ (List.mem_of_getElem? (i := 172) rfl))) (mvT hZ (hw _ (List.mem_of_getElem? (i := 2) rfl))) (mvT hZ (hw _ (List.mem_of_getElem? (i := 173) rfl))) (by decide) (backOf (W := 0) (rm486 l Z a0 hw [] x0 o1 p2 l0 c0 lo co T20.heap n0 z27 c23 c24 c25 c26) hZ (hw _ (List.mem_of_getElem? (i := 173) rfl)) (hw _ (List.mem_of_getElem? (i := 2) rfl)) (by decide) (by decide)) (g := (mkF m 41 #[.val (.ref o0), .val (.ref o1), .val (.int p2), .val (.int (1 : Int32))] [(.int p2), (.ref o1), (.ref x0)])) rfl (by rw [hml]; rfl) (argsL := [(.ref x0), (.ref o1), (.int p2)]) (rest := []) (lenOf pd_16 rfl) rfl (by show 2 * 0 + _ ≤ _; exact Nat.le_of_eq rfl) (hb hby d485_41) (fun _ _ => ⟨rfl, e22, (by decide : 0 + 0 ≤ _), (by decide : 0 + 0 ≤ _)⟩)
  dsimp only [Pt.U, Pt.locs, Pt.cells, Pt.slots] at X28 l28 y28 z28' st28 hQ28
  subst l28 y28 z28'
  obtain ⟨rv_28, rfl, N28q, K28⟩ := hQ28
  have N28 := Fr.app N20 N28q
  have J28 : Keep h0 T28.heap [o0, li, arr] := J20.trans K28 all0
  have pre29 : ∀ t, Steps p.tables e below (T28.setTop (mkF m 44 #[.val (.ref o0), .val (.ref o1), .val (.int p2), .val (.int (1 : Int32))] [(.int rv_28)])) t → Steps p.tables e below (s₁.setTop (entryFrame m #[(.ref o0), (.ref o1), (.int p2)] 4)) t := by
    intro t kt
    refine pre0 _ ?_
    show Steps p.tables e below (s₁.setTop (mkF m 0 #[.val (.ref o0), .val (.ref o1), .val (.int p2), .unset] [])) _
    refine XS.aloadN X0.here hx rfl (hb hby d485_0) rfl rfl ?_
    show Steps p.tables e below (s₁.setTop (mkF m 1 #[.val (.ref o0), .val (.ref o1), .val (.int p2), .unset] [(.ref o0)])) _
    refine XS.dup X0.here hx rfl (hb hby d485_1) rfl rfl ?_
    show Steps p.tables e below (s₁.setTop (mkF m 2 #[.val (.ref o0), .val (.ref o1), .val (.int p2), .unset] [(.ref o0), (.ref o0)])) _
    refine st1 _ ?_
    show Steps p.tables e below (T1.setTop (mkF m 5 #[.val (.ref o0), .val (.ref o1), .val (.int p2), .unset] [(.long cnt), (.ref o0)])) _
    refine XS.lconst X1.here hx rfl (hb hby d485_5) ?_
    show Steps p.tables e below (T1.setTop (mkF m 6 #[.val (.ref o0), .val (.ref o1), .val (.int p2), .unset] [(.long (1 : Int64)), (.long cnt), (.ref o0)])) _
    refine XS.ladd X1.here hx rfl (hb hby d485_6) rfl ?_
    show Steps p.tables e below (T1.setTop (mkF m 7 #[.val (.ref o0), .val (.ref o1), .val (.int p2), .unset] [(.long (cnt + (1 : Int64))), (.ref o0)])) _
    refine st6 _ ?_
    show Steps p.tables e below (T6.setTop (mkF m 10 #[.val (.ref o0), .val (.ref o1), .val (.int p2), .unset] [])) _
    refine XS.aloadN X6.here hx rfl (hb hby d485_10) rfl rfl ?_
    show Steps p.tables e below (T6.setTop (mkF m 11 #[.val (.ref o0), .val (.ref o1), .val (.int p2), .unset] [(.ref o0)])) _
    refine st8 _ ?_
    show Steps p.tables e below (T8.setTop (mkF m 14 #[.val (.ref o0), .val (.ref o1), .val (.int p2), .unset] [(.ref li)])) _
    refine st11.trans ?_
    show Steps p.tables e below (T11.setTop (mkF m 19 #[.val (.ref o0), .val (.ref o1), .val (.int p2), .unset] [(.int (1 : Int32))])) _
    refine XS.istoreN X11.here hx rfl (hb hby d485_19) rfl (l' := #[.val (.ref o0), .val (.ref o1), .val (.int p2), .val (.int (1 : Int32))]) rfl ?_
    show Steps p.tables e below (T11.setTop (mkF m 20 #[.val (.ref o0), .val (.ref o1), .val (.int p2), .val (.int (1 : Int32))] [])) _
    refine XS.iloadN X11.here hx rfl (hb hby d485_20) rfl ?_
    show Steps p.tables e below (T11.setTop (mkF m 21 #[.val (.ref o0), .val (.ref o1), .val (.int p2), .val (.int (1 : Int32))] [(.int (1 : Int32))])) _
    refine XS.ifNo X11.here hx rfl (hb hby d485_21) rfl ((if0 _ _).trans (tlt (by decide)).2.2.2) ?_
    show Steps p.tables e below (T11.setTop (mkF m 24 #[.val (.ref o0), .val (.ref o1), .val (.int p2), .val (.int (1 : Int32))] [])) _
    refine XS.aloadN X11.here hx rfl (hb hby d485_24) rfl rfl ?_
    show Steps p.tables e below (T11.setTop (mkF m 25 #[.val (.ref o0), .val (.ref o1), .val (.int p2), .val (.int (1 : Int32))] [(.ref o0)])) _
    refine st14 _ ?_
    show Steps p.tables e below (T14.setTop (mkF m 28 #[.val (.ref o0), .val (.ref o1), .val (.int p2), .val (.int (1 : Int32))] [(.ref li)])) _
    refine XS.iloadN X14.here hx rfl (hb hby d485_28) rfl ?_
    show Steps p.tables e below (T14.setTop (mkF m 29 #[.val (.ref o0), .val (.ref o1), .val (.int p2), .val (.int (1 : Int32))] [(.int (1 : Int32)), (.ref li)])) _
    refine XS.iconst X14.here hx rfl (hb hby d485_29) ?_
    show Steps p.tables e below (T14.setTop (mkF m 30 #[.val (.ref o0), .val (.ref o1), .val (.int p2), .val (.int (1 : Int32))] [(.int (1 : Int32)), (.int (1 : Int32)), (.ref li)])) _
    refine XS.isub X14.here hx rfl (hb hby d485_30) rfl ?_
    show Steps p.tables e below (T14.setTop (mkF m 31 #[.val (.ref o0), .val (.ref o1), .val (.int p2), .val (.int (1 : Int32))] [(.int (0 : Int32)), (.ref li)])) _
    refine st20.trans ?_
    show Steps p.tables e below (T20.setTop (mkF m 36 #[.val (.ref o0), .val (.ref o1), .val (.int p2), .val (.int (1 : Int32))] [(.ref x0)])) _
    refine st22 _ ?_
    show Steps p.tables e below (T22.setTop (mkF m 39 #[.val (.ref o0), .val (.ref o1), .val (.int p2), .val (.int (1 : Int32))] [(.ref x0)])) _
    refine XS.aloadN X22.here hx rfl (hb hby d485_39) rfl rfl ?_
    show Steps p.tables e below (T22.setTop (mkF m 40 #[.val (.ref o0), .val (.ref o1), .val (.int p2), .val (.int (1 : Int32))] [(.ref o1), (.ref x0)])) _
    refine XS.iloadN X22.here hx rfl (hb hby d485_40) rfl ?_
    show Steps p.tables e below (T22.setTop (mkF m 41 #[.val (.ref o0), .val (.ref o1), .val (.int p2), .val (.int (1 : Int32))] [(.int p2), (.ref o1), (.ref x0)])) _
    refine st28 _ ?_
    exact kt
  by_cases hc44_30 : rv_28 = (0 : Int32)
  · skip
    have c31 : Fld Z T28.heap o0 "com/example/tierline/tierline/csv/LineProblems" "listed" "Ljava/util/List;" (.ref li) := ((c13.keep K20 nin0).keep K28 nin0)
    obtain ⟨T32, X32, e32, st32⟩ := getF X28 hx hZ hown (host := "") (Or.inl (hw _ (List.mem_of_getElem? (i := 41) rfl))) Via.refl rfl c31 (g := (mkF m 60 #[.val (.ref o0), .val (.ref o1), .val (.int p2), .val (.int (1 : Int32))] [(.ref o0)])) rfl rfl (hb hby d485_60)
    have c33 : Exa Z T28.heap li "java/util/ArrayList" := ((c15.keep K20).keep K28)
    have c34 : Fld Z T28.heap li "java/util/ArrayList" "elementData" "[Ljava/lang/Object;" (.ref arr) := ((c17.keep K20 nin0).keep K28 nin0)
    have c35 : Arv Z T28.heap arr ka (.object "java/lang/Object") (10 : Int32) [(.ref x0)] .null := ((c18.keep K20 nin0).keep K28 nin0)
    have c36 : Fld Z T28.heap li "java/util/ArrayList" "size" "I" (.int (1 : Int32)) := ((c16.keep K20 nin0).keep K28 nin0)
    have c37 : Fld Z T28.heap li "java/util/AbstractList" "modCount" "I" (.int mc) := ((((F_modCount_li.other W6 (Or.inl ne3)).keep K11 nin0).keep K20 nin0).keep K28 nin0)
    have c38 : Exa Z T28.heap o1 "com/example/tierline/tierline/csv/LineProblems$Problem" := ((((E_o1.wr W6).keep K11).keep K20).keep K28)
    have c39 : Exa Z T28.heap x0 "com/example/tierline/tierline/csv/LineProblems$Problem" := (c21.keep K28)
    have ne40 : arr ≠ li := (Ne.symm (Exa.neArv c33 c35 (hw _ (List.mem_of_getElem? (i := 18) rfl))))
    have ne41 : o1 ≠ li := (ne_exa c38 c33 (by decide))
    have ne42 : x0 ≠ li := (ne_exa c39 c33 (by decide))
    have ne43 : o1 ≠ arr := (Exa.neArv c38 c35 (hw _ (List.mem_of_getElem? (i := 81) rfl)))
    have ne44 : x0 ≠ arr := (Exa.neArv c39 c35 (hw _ (List.mem_of_getElem? (i := 81) rfl)))
    have z45 : n0 ≤ T28.heap.size := (Nat.le_trans z27 K28.1)
    obtain ⟨cq46, kq46, q46a, q46b, q46c⟩ := isOf hZ e32 c33
    -- pc 65: List.add by rm3826_1_1
    obtain ⟨_, _, ⟨T46, L46, k46, n46⟩, -, X46, ⟨Lc46, hQ46, l46, y46, z46'⟩, st46⟩ := X32.interfaceBack hx (xi := (⟨"java/util/List", "add", "(ILjava/lang/Object;)V"⟩ : MethodName)) (y := (⟨"java/util/ArrayList", "add", "(ILjava/lang/Object;)V"⟩ : MethodName)) hown (mvT hZ (hw _ (List.mem_of_getElem? (i := 108) rfl))) (mvT hZ (hw _ (List.mem_of_getElem? (i := 109) rfl))) (mvT hZ (hw _ (List.mem_of_getElem? (i := 110) rfl))) (mvT hZ (hw _ (List.mem_of_getElem? (i := 111) rfl))) (mvT hZ (hw _ (List.mem_of_getElem? (i := 112) rfl))) (mvT hZ (hw _ (List.mem_of_getElem? (i := 113) rfl))) (mvT hZ (hw _ (List.mem_of_getElem? (i := 114) rfl))) (mvT hZ (hw _ (List.mem_of_getElem? (i := 104) rfl))) (by decide) (backOf (W := 0) (rm3826_1_1 l Z a0 hw [] li o1 arr ka mc x0 T28.heap n0 z45 c33 c34 c35 ovr_ka c36 c37 g_li g_arr c38 c39) hZ (hw _ (List.mem_of_getElem? (i := 115) rfl)) (hw _ (List.mem_of_getElem? (i := 19) rfl)) (by decide) (by decide)) q46a q46b q46c (g := (mkF m 65 #[.val (.ref o0), .val (.ref o1), .val (.int p2), .val (.int (1 : Int32))] [(.ref o1), (.int (1 : Int32)), (.ref li)])) rfl (by rw [hml]; rfl) (Steps.refl _) (argsL := [(.int (1 : Int32)), (.ref o1)]) (rest := []) (lenOf pd_11 rfl) rfl (by show 2 * 0 + _ ≤ _; exact Nat.le_of_eq rfl) (hb hby d485_65) (fun _ _ => ⟨rfl, e32, (by decide : 0 + 0 ≤ _), (by decide : 0 + 0 ≤ _)⟩)
    dsimp only [Pt.U, Pt.locs, Pt.cells, Pt.slots] at X46 l46 y46 z46' st46 hQ46
    subst l46 y46 z46'
    obtain ⟨rfl, N46q, K46, r0_46, r1_46, r2_46, r3_46⟩ := hQ46
    have N46 := Fr.app N28 N46q
    have J46 : Keep h0 T46.heap [o0, li, arr] := J28.trans K46 (allS (Or.inl (List.mem_of_getElem? (i := 1) rfl)) (allS (Or.inl (List.mem_of_getElem? (i := 2) rfl)) all0))
    have c47 : Fld Z T46.heap o0 "com/example/tierline/tierline/csv/LineProblems" "listed" "Ljava/util/List;" (.ref li) := (c31.keep K46 (ninS (Ne.symm ne3) (ninS (Ne.symm ne2) nin0)))
    obtain ⟨T48, X48, e48, st48⟩ := getF X46 hx hZ hown (host := "") (Or.inl (hw _ (List.mem_of_getElem? (i := 41) rfl))) Via.refl rfl c47 (g := (mkF m 71 #[.val (.ref o0), .val (.ref o1), .val (.int p2), .val (.int (1 : Int32))] [(.ref o0)])) rfl rfl (hb hby d485_71)
    have z49 : n0 ≤ T46.heap.size := (Nat.le_trans z45 K46.1)
    have c51 : Exa Z T46.heap li "java/util/ArrayList" := (c33.keep K46)
    obtain ⟨cq50, kq50, q50a, q50b, q50c⟩ := isOf hZ e48 c51
    -- pc 74: List.size by rm388
    obtain ⟨_, _, ⟨T50, L50, k50, n50⟩, -, X50, ⟨Lc50, hQ50, l50, y50, z50'⟩, st50⟩ := X48.interfaceBack hx (xi := (⟨"java/util/List", "size", "()I"⟩ : MethodName)) (y := (⟨"java/util/ArrayList", "size", "()I"⟩ : MethodName)) hown (mvT hZ (hw _ (List.mem_of_getElem? (i := 97) rfl))) (mvT hZ (hw _ (List.mem_of_getElem? (i := 98) rfl))) (mvT hZ (hw _ (List.mem_of_getElem? (i := 99) rfl))) (mvT hZ (hw _ (List.mem_of_getElem? (i := 100) rfl))) (mvT hZ (hw _ (List.mem_of_getElem? (i := 101) rfl))) (mvT hZ (hw _ (List.mem_of_getElem? (i := 102) rfl))) (mvT hZ (hw _ (List.mem_of_getElem? (i := 103) rfl))) (mvT hZ (hw _ (List.mem_of_getElem? (i := 104) rfl))) (by decide) (backOf (W := 0) (rm388 l Z a0 hw [] li (2 : Int32) T46.heap n0 z49 r0_46) hZ (hw _ (List.mem_of_getElem? (i := 105) rfl)) (hw _ (List.mem_of_getElem? (i := 19) rfl)) (by decide) (by decide)) q50a q50b q50c (g := (mkF m 74 #[.val (.ref o0), .val (.ref o1), .val (.int p2), .val (.int (1 : Int32))] [(.ref li)])) rfl (by rw [hml]; rfl) (Steps.refl _) (argsL := []) (rest := []) (lenOf pd_10 rfl) rfl (by show 2 * 0 + _ ≤ _; exact Nat.le_of_eq rfl) (hb hby d485_74) (fun _ _ => ⟨rfl, e48, (by decide : 0 + 0 ≤ _), (by decide : 0 + 0 ≤ _)⟩)
    dsimp only [Pt.U, Pt.locs, Pt.cells, Pt.slots] at X50 l50 y50 z50' st50 hQ50
    subst l50 y50 z50'
    obtain ⟨rfl, N50q, K50⟩ := hQ50
    have N50 := Fr.app N46 N50q
    have J50 : Keep h0 T50.heap [o0, li, arr] := J46.trans K50 all0
    have c52 : Fld Z T50.heap o0 "com/example/tierline/tierline/csv/LineProblems" "count" "J" (.long (cnt + (1 : Int64))) := (((((Fw6.keep K11 nin0).keep K20 nin0).keep K28 nin0).keep K46 (ninS (Ne.symm ne3) (ninS (Ne.symm ne2) nin0))).keep K50 nin0)
    have c53 : Fld Z T50.heap o0 "com/example/tierline/tierline/csv/LineProblems" "listed" "Ljava/util/List;" (.ref li) := (c47.keep K50 nin0)
    have c54 : Fld Z T50.heap li "java/util/ArrayList" "size" "I" (.int (2 : Int32)) := (r0_46.keep K50 nin0)
    have c55 : Fld Z T50.heap li "java/util/AbstractList" "modCount" "I" (.int (mc + (1 : Int32))) := (r1_46.keep K50 nin0)
    have c56 : Exa Z T50.heap x0 "com/example/tierline/tierline/csv/LineProblems$Problem" := ((c39.keep K46).keep K50)
    have c57 : Fld Z T50.heap x0 "com/example/tierline/tierline/csv/LineProblems$Problem" "line" "I" (.int l0) := (((c23.keep K28 nin0).keep K46 (ninS ne42 (ninS ne44 nin0))).keep K50 nin0)
    have c58 : Fld Z T50.heap x0 "com/example/tierline/tierline/csv/LineProblems$Problem" "conflict" "Z" (.int c0) := (((c24.keep K28 nin0).keep K46 (ninS ne42 (ninS ne44 nin0))).keep K50 nin0)
    have c59 : Exa Z T50.heap o1 "com/example/tierline/tierline/csv/LineProblems$Problem" := ((c38.keep K46).keep K50)
    have c60 : Fld Z T50.heap o1 "com/example/tierline/tierline/csv/LineProblems$Problem" "line" "I" (.int lo) := (((c25.keep K28 nin0).keep K46 (ninS ne41 (ninS ne43 nin0))).keep K50 nin0)
    have c61 : Fld Z T50.heap o1 "com/example/tierline/tierline/csv/LineProblems$Problem" "conflict" "Z" (.int co) := (((c26.keep K28 nin0).keep K46 (ninS ne41 (ninS ne43 nin0))).keep K50 nin0)
    have c62 : Fld Z T50.heap li "java/util/ArrayList" "elementData" "[Ljava/lang/Object;" (.ref arr) := (r2_46.keep K50 nin0)
    have c63 : Arv Z T50.heap arr ka (.object "java/lang/Object") (10 : Int32) [(.ref x0), (.ref o1)] .null := (r3_46.keep K50 nin0)
    obtain ⟨fs, hr, hrun, hended, hW, hsame⟩ := X50.leave (v := none) (fun _ => rfl)
    refine ⟨_, _, pre29 _ ?_, hrun, hended, _, _, rfl, ?_, ⟨_, rfl⟩, hW, hsame.mono (by decide) (by decide)⟩
    · show Steps p.tables e below (T28.setTop (mkF m 44 #[.val (.ref o0), .val (.ref o1), .val (.int p2), .val (.int (1 : Int32))] [(.int rv_28)])) _
      refine XS.ifYes X28.here hx rfl (pc0 := 44) (pc' := 53) rfl (hb hby d485_44) rfl ((if0 _ _).trans (teq hc44_30).1) (by decide) (by decide) ?_
      show Steps p.tables e below (T28.setTop (mkF m 53 #[.val (.ref o0), .val (.ref o1), .val (.int p2), .val (.int (1 : Int32))] [])) _
      refine XS.iloadN X28.here hx rfl (hb hby d485_53) rfl ?_
      show Steps p.tables e below (T28.setTop (mkF m 54 #[.val (.ref o0), .val (.ref o1), .val (.int p2), .val (.int (1 : Int32))] [(.int (1 : Int32))])) _
      refine XS.bipush X28.here hx rfl (hb hby d485_54) ?_
      show Steps p.tables e below (T28.setTop (mkF m 56 #[.val (.ref o0), .val (.ref o1), .val (.int p2), .val (.int (1 : Int32))] [(.int (100 : Int32)), (.int (1 : Int32))])) _
      refine XS.icmpNo X28.here hx rfl (hb hby d485_56) rfl (tlt (by decide)).2.1 ?_
      show Steps p.tables e below (T28.setTop (mkF m 59 #[.val (.ref o0), .val (.ref o1), .val (.int p2), .val (.int (1 : Int32))] [])) _
      refine XS.aloadN X28.here hx rfl (hb hby d485_59) rfl rfl ?_
      show Steps p.tables e below (T28.setTop (mkF m 60 #[.val (.ref o0), .val (.ref o1), .val (.int p2), .val (.int (1 : Int32))] [(.ref o0)])) _
      refine st32 _ ?_
      show Steps p.tables e below (T32.setTop (mkF m 63 #[.val (.ref o0), .val (.ref o1), .val (.int p2), .val (.int (1 : Int32))] [(.ref li)])) _
      refine XS.iloadN X32.here hx rfl (hb hby d485_63) rfl ?_
      show Steps p.tables e below (T32.setTop (mkF m 64 #[.val (.ref o0), .val (.ref o1), .val (.int p2), .val (.int (1 : Int32))] [(.int (1 : Int32)), (.ref li)])) _
      refine XS.aloadN X32.here hx rfl (hb hby d485_64) rfl rfl ?_
      show Steps p.tables e below (T32.setTop (mkF m 65 #[.val (.ref o0), .val (.ref o1), .val (.int p2), .val (.int (1 : Int32))] [(.ref o1), (.int (1 : Int32)), (.ref li)])) _
      refine st46.trans ?_
      show Steps p.tables e below (T46.setTop (mkF m 70 #[.val (.ref o0), .val (.ref o1), .val (.int p2), .val (.int (1 : Int32))] [])) _
      refine XS.aloadN X46.here hx rfl (hb hby d485_70) rfl rfl ?_
      show Steps p.tables e below (T46.setTop (mkF m 71 #[.val (.ref o0), .val (.ref o1), .val (.int p2), .val (.int (1 : Int32))] [(.ref o0)])) _
      refine st48 _ ?_
      show Steps p.tables e below (T48.setTop (mkF m 74 #[.val (.ref o0), .val (.ref o1), .val (.int p2), .val (.int (1 : Int32))] [(.ref li)])) _
      refine st50.trans ?_
      show Steps p.tables e below (T50.setTop (mkF m 79 #[.val (.ref o0), .val (.ref o1), .val (.int p2), .val (.int (1 : Int32))] [(.int (2 : Int32))])) _
      refine XS.bipush X50.here hx rfl (hb hby d485_79) ?_
      show Steps p.tables e below (T50.setTop (mkF m 81 #[.val (.ref o0), .val (.ref o1), .val (.int p2), .val (.int (1 : Int32))] [(.int (100 : Int32)), (.int (2 : Int32))])) _
      refine XS.icmpYes X50.here hx rfl (pc0 := 81) (pc' := 96) rfl (hb hby d485_81) rfl (flt (by decide)).2.2.2 (by decide) (by decide) ?_
      show Steps p.tables e below (T50.setTop (mkF m 96 #[.val (.ref o0), .val (.ref o1), .val (.int p2), .val (.int (1 : Int32))] [])) _
      exact X50.returnOut hx Bd.returns (hb hby d485_96) hr
    · show Q485_1 Z o0 o1 p2 cnt li mc arr ka x0 l0 c0 lo co h0 n0 _ T50.heap _
      exact ⟨x0, l0, c0, o1, lo, co, rfl, N50, J50, c52, c53, c54, c55, c56, c57, c58, c59, c60, c61, c62, c63⟩
  · skip
    have c64 : Fld Z T28.heap o0 "com/example/tierline/tierline/csv/LineProblems" "listed" "Ljava/util/List;" (.ref li) := ((c13.keep K20 nin0).keep K28 nin0)
    obtain ⟨T65, X65, e65, st65⟩ := getF X28 hx hZ hown (host := "") (Or.inl (hw _ (List.mem_of_getElem? (i := 41) rfl))) Via.refl rfl c64 (g := (mkF m 60 #[.val (.ref o0), .val (.ref o1), .val (.int p2), .val (.int (0 : Int32))] [(.ref o0)])) rfl rfl (hb hby d485_60)
    have c66 : Exa Z T28.heap li "java/util/ArrayList" := ((c15.keep K20).keep K28)
    have c67 : Fld Z T28.heap li "java/util/ArrayList" "elementData" "[Ljava/lang/Object;" (.ref arr) := ((c17.keep K20 nin0).keep K28 nin0)
    have c68 : Arv Z T28.heap arr ka (.object "java/lang/Object") (10 : Int32) [(.ref x0)] .null := ((c18.keep K20 nin0).keep K28 nin0)
    have c69 : Fld Z T28.heap li "java/util/ArrayList" "size" "I" (.int (1 : Int32)) := ((c16.keep K20 nin0).keep K28 nin0)
    have c70 : Fld Z T28.heap li "java/util/AbstractList" "modCount" "I" (.int mc) := ((((F_modCount_li.other W6 (Or.inl ne3)).keep K11 nin0).keep K20 nin0).keep K28 nin0)
    have c71 : Exa Z T28.heap o1 "com/example/tierline/tierline/csv/LineProblems$Problem" := ((((E_o1.wr W6).keep K11).keep K20).keep K28)
    have c72 : Exa Z T28.heap x0 "com/example/tierline/tierline/csv/LineProblems$Problem" := (c21.keep K28)
    have ne73 : arr ≠ li := (Ne.symm (Exa.neArv c66 c68 (hw _ (List.mem_of_getElem? (i := 18) rfl))))
    have ne74 : o1 ≠ li := (ne_exa c71 c66 (by decide))
    have ne75 : x0 ≠ li := (ne_exa c72 c66 (by decide))
    have ne76 : o1 ≠ arr := (Exa.neArv c71 c68 (hw _ (List.mem_of_getElem? (i := 81) rfl)))
    have ne77 : x0 ≠ arr := (Exa.neArv c72 c68 (hw _ (List.mem_of_getElem? (i := 81) rfl)))
    have z78 : n0 ≤ T28.heap.size := (Nat.le_trans z27 K28.1)
    obtain ⟨cq79, kq79, q79a, q79b, q79c⟩ := isOf hZ e65 c66
    -- pc 65: List.add by rm3826_1_0
    obtain ⟨_, _, ⟨T79, L79, k79, n79⟩, -, X79, ⟨Lc79, hQ79, l79, y79, z79'⟩, st79⟩ := X65.interfaceBack hx (xi := (⟨"java/util/List", "add", "(ILjava/lang/Object;)V"⟩ : MethodName)) (y := (⟨"java/util/ArrayList", "add", "(ILjava/lang/Object;)V"⟩ : MethodName)) hown (mvT hZ (hw _ (List.mem_of_getElem? (i := 108) rfl))) (mvT hZ (hw _ (List.mem_of_getElem? (i := 109) rfl))) (mvT hZ (hw _ (List.mem_of_getElem? (i := 110) rfl))) (mvT hZ (hw _ (List.mem_of_getElem? (i := 111) rfl))) (mvT hZ (hw _ (List.mem_of_getElem? (i := 112) rfl))) (mvT hZ (hw _ (List.mem_of_getElem? (i := 113) rfl))) (mvT hZ (hw _ (List.mem_of_getElem? (i := 114) rfl))) (mvT hZ (hw _ (List.mem_of_getElem? (i := 104) rfl))) (by decide) (backOf (W := 0) (rm3826_1_0 l Z a0 hw [] li o1 arr ka mc x0 T28.heap n0 z78 c66 c67 c68 ovr_ka c69 c70 g_li g_arr c71 c72) hZ (hw _ (List.mem_of_getElem? (i := 115) rfl)) (hw _ (List.mem_of_getElem? (i := 19) rfl)) (by decide) (by decide)) q79a q79b q79c (g := (mkF m 65 #[.val (.ref o0), .val (.ref o1), .val (.int p2), .val (.int (0 : Int32))] [(.ref o1), (.int (0 : Int32)), (.ref li)])) rfl (by rw [hml]; rfl) (Steps.refl _) (argsL := [(.int (0 : Int32)), (.ref o1)]) (rest := []) (lenOf pd_11 rfl) rfl (by show 2 * 0 + _ ≤ _; exact Nat.le_of_eq rfl) (hb hby d485_65) (fun _ _ => ⟨rfl, e65, (by decide : 0 + 0 ≤ _), (by decide : 0 + 0 ≤ _)⟩)
    dsimp only [Pt.U, Pt.locs, Pt.cells, Pt.slots] at X79 l79 y79 z79' st79 hQ79
    subst l79 y79 z79'
    obtain ⟨rfl, N79q, K79, r0_79, r1_79, r2_79, r3_79⟩ := hQ79
    have N79 := Fr.app N28 N79q
    have J79 : Keep h0 T79.heap [o0, li, arr] := J28.trans K79 (allS (Or.inl (List.mem_of_getElem? (i := 1) rfl)) (allS (Or.inl (List.mem_of_getElem? (i := 2) rfl)) all0))
    have c80 : Fld Z T79.heap o0 "com/example/tierline/tierline/csv/LineProblems" "listed" "Ljava/util/List;" (.ref li) := (c64.keep K79 (ninS (Ne.symm ne3) (ninS (Ne.symm ne2) nin0)))
    obtain ⟨T81, X81, e81, st81⟩ := getF X79 hx hZ hown (host := "") (Or.inl (hw _ (List.mem_of_getElem? (i := 41) rfl))) Via.refl rfl c80 (g := (mkF m 71 #[.val (.ref o0), .val (.ref o1), .val (.int p2), .val (.int (0 : Int32))] [(.ref o0)])) rfl rfl (hb hby d485_71)
    have z82 : n0 ≤ T79.heap.size := (Nat.le_trans z78 K79.1)
    have c84 : Exa Z T79.heap li "java/util/ArrayList" := (c66.keep K79)
    obtain ⟨cq83, kq83, q83a, q83b, q83c⟩ := isOf hZ e81 c84
    -- pc 74: List.size by rm388
    obtain ⟨_, _, ⟨T83, L83, k83, n83⟩, -, X83, ⟨Lc83, hQ83, l83, y83, z83'⟩, st83⟩ := X81.interfaceBack hx (xi := (⟨"java/util/List", "size", "()I"⟩ : MethodName)) (y := (⟨"java/util/ArrayList", "size", "()I"⟩ : MethodName)) hown (mvT hZ (hw _ (List.mem_of_getElem? (i := 97) rfl))) (mvT hZ (hw _ (List.mem_of_getElem? (i := 98) rfl))) (mvT hZ (hw _ (List.mem_of_getElem? (i := 99) rfl))) (mvT hZ (hw _ (List.mem_of_getElem? (i := 100) rfl))) (mvT hZ (hw _ (List.mem_of_getElem? (i := 101) rfl))) (mvT hZ (hw _ (List.mem_of_getElem? (i := 102) rfl))) (mvT hZ (hw _ (List.mem_of_getElem? (i := 103) rfl))) (mvT hZ (hw _ (List.mem_of_getElem? (i := 104) rfl))) (by decide) (backOf (W := 0) (rm388 l Z a0 hw [] li (2 : Int32) T79.heap n0 z82 r0_79) hZ (hw _ (List.mem_of_getElem? (i := 105) rfl)) (hw _ (List.mem_of_getElem? (i := 19) rfl)) (by decide) (by decide)) q83a q83b q83c (g := (mkF m 74 #[.val (.ref o0), .val (.ref o1), .val (.int p2), .val (.int (0 : Int32))] [(.ref li)])) rfl (by rw [hml]; rfl) (Steps.refl _) (argsL := []) (rest := []) (lenOf pd_10 rfl) rfl (by show 2 * 0 + _ ≤ _; exact Nat.le_of_eq rfl) (hb hby d485_74) (fun _ _ => ⟨rfl, e81, (by decide : 0 + 0 ≤ _), (by decide : 0 + 0 ≤ _)⟩)
    dsimp only [Pt.U, Pt.locs, Pt.cells, Pt.slots] at X83 l83 y83 z83' st83 hQ83
    subst l83 y83 z83'
    obtain ⟨rfl, N83q, K83⟩ := hQ83
    have N83 := Fr.app N79 N83q
    have J83 : Keep h0 T83.heap [o0, li, arr] := J79.trans K83 all0
    have c85 : Fld Z T83.heap o0 "com/example/tierline/tierline/csv/LineProblems" "count" "J" (.long (cnt + (1 : Int64))) := (((((Fw6.keep K11 nin0).keep K20 nin0).keep K28 nin0).keep K79 (ninS (Ne.symm ne3) (ninS (Ne.symm ne2) nin0))).keep K83 nin0)
    have c86 : Fld Z T83.heap o0 "com/example/tierline/tierline/csv/LineProblems" "listed" "Ljava/util/List;" (.ref li) := (c80.keep K83 nin0)
    have c87 : Fld Z T83.heap li "java/util/ArrayList" "size" "I" (.int (2 : Int32)) := (r0_79.keep K83 nin0)
    have c88 : Fld Z T83.heap li "java/util/AbstractList" "modCount" "I" (.int (mc + (1 : Int32))) := (r1_79.keep K83 nin0)
    have c89 : Exa Z T83.heap o1 "com/example/tierline/tierline/csv/LineProblems$Problem" := ((c71.keep K79).keep K83)
    have c90 : Fld Z T83.heap o1 "com/example/tierline/tierline/csv/LineProblems$Problem" "line" "I" (.int lo) := (((c25.keep K28 nin0).keep K79 (ninS ne74 (ninS ne76 nin0))).keep K83 nin0)
    have c91 : Fld Z T83.heap o1 "com/example/tierline/tierline/csv/LineProblems$Problem" "conflict" "Z" (.int co) := (((c26.keep K28 nin0).keep K79 (ninS ne74 (ninS ne76 nin0))).keep K83 nin0)
    have c92 : Exa Z T83.heap x0 "com/example/tierline/tierline/csv/LineProblems$Problem" := ((c72.keep K79).keep K83)
    have c93 : Fld Z T83.heap x0 "com/example/tierline/tierline/csv/LineProblems$Problem" "line" "I" (.int l0) := (((c23.keep K28 nin0).keep K79 (ninS ne75 (ninS ne77 nin0))).keep K83 nin0)
    have c94 : Fld Z T83.heap x0 "com/example/tierline/tierline/csv/LineProblems$Problem" "conflict" "Z" (.int c0) := (((c24.keep K28 nin0).keep K79 (ninS ne75 (ninS ne77 nin0))).keep K83 nin0)
    have c95 : Fld Z T83.heap li "java/util/ArrayList" "elementData" "[Ljava/lang/Object;" (.ref arr) := (r2_79.keep K83 nin0)
    have c96 : Arv Z T83.heap arr ka (.object "java/lang/Object") (10 : Int32) [(.ref o1), (.ref x0)] .null := (r3_79.keep K83 nin0)
    obtain ⟨fs, hr, hrun, hended, hW, hsame⟩ := X83.leave (v := none) (fun _ => rfl)
    refine ⟨_, _, pre29 _ ?_, hrun, hended, _, _, rfl, ?_, ⟨_, rfl⟩, hW, hsame.mono (by decide) (by decide)⟩
    · show Steps p.tables e below (T28.setTop (mkF m 44 #[.val (.ref o0), .val (.ref o1), .val (.int p2), .val (.int (1 : Int32))] [(.int rv_28)])) _
      refine XS.ifNo X28.here hx rfl (hb hby d485_44) rfl ((if0 _ _).trans (feq hc44_30).1) ?_
      show Steps p.tables e below (T28.setTop (mkF m 47 #[.val (.ref o0), .val (.ref o1), .val (.int p2), .val (.int (1 : Int32))] [])) _
      refine XS.iinc X28.here hx rfl (hb hby d485_47) rfl (l' := #[.val (.ref o0), .val (.ref o1), .val (.int p2), .val (.int (0 : Int32))]) rfl ?_
      show Steps p.tables e below (T28.setTop (mkF m 50 #[.val (.ref o0), .val (.ref o1), .val (.int p2), .val (.int (0 : Int32))] [])) _
      refine XS.goto X28.here hx rfl (pc0 := 50) (pc' := 20) rfl (hb hby d485_50) (by decide) (by decide) ?_
      show Steps p.tables e below (T28.setTop (mkF m 20 #[.val (.ref o0), .val (.ref o1), .val (.int p2), .val (.int (0 : Int32))] [])) _
      refine XS.iloadN X28.here hx rfl (hb hby d485_20) rfl ?_
      show Steps p.tables e below (T28.setTop (mkF m 21 #[.val (.ref o0), .val (.ref o1), .val (.int p2), .val (.int (0 : Int32))] [(.int (0 : Int32))])) _
      refine XS.ifYes X28.here hx rfl (pc0 := 21) (pc' := 53) rfl (hb hby d485_21) rfl ((if0 _ _).trans (flt (by decide)).2.2.2) (by decide) (by decide) ?_
      show Steps p.tables e below (T28.setTop (mkF m 53 #[.val (.ref o0), .val (.ref o1), .val (.int p2), .val (.int (0 : Int32))] [])) _
      refine XS.iloadN X28.here hx rfl (hb hby d485_53) rfl ?_
      show Steps p.tables e below (T28.setTop (mkF m 54 #[.val (.ref o0), .val (.ref o1), .val (.int p2), .val (.int (0 : Int32))] [(.int (0 : Int32))])) _
      refine XS.bipush X28.here hx rfl (hb hby d485_54) ?_
      show Steps p.tables e below (T28.setTop (mkF m 56 #[.val (.ref o0), .val (.ref o1), .val (.int p2), .val (.int (0 : Int32))] [(.int (100 : Int32)), (.int (0 : Int32))])) _
      refine XS.icmpNo X28.here hx rfl (hb hby d485_56) rfl (tlt (by decide)).2.1 ?_
      show Steps p.tables e below (T28.setTop (mkF m 59 #[.val (.ref o0), .val (.ref o1), .val (.int p2), .val (.int (0 : Int32))] [])) _
      refine XS.aloadN X28.here hx rfl (hb hby d485_59) rfl rfl ?_
      show Steps p.tables e below (T28.setTop (mkF m 60 #[.val (.ref o0), .val (.ref o1), .val (.int p2), .val (.int (0 : Int32))] [(.ref o0)])) _
      refine st65 _ ?_
      show Steps p.tables e below (T65.setTop (mkF m 63 #[.val (.ref o0), .val (.ref o1), .val (.int p2), .val (.int (0 : Int32))] [(.ref li)])) _
      refine XS.iloadN X65.here hx rfl (hb hby d485_63) rfl ?_
      show Steps p.tables e below (T65.setTop (mkF m 64 #[.val (.ref o0), .val (.ref o1), .val (.int p2), .val (.int (0 : Int32))] [(.int (0 : Int32)), (.ref li)])) _
      refine XS.aloadN X65.here hx rfl (hb hby d485_64) rfl rfl ?_
      show Steps p.tables e below (T65.setTop (mkF m 65 #[.val (.ref o0), .val (.ref o1), .val (.int p2), .val (.int (0 : Int32))] [(.ref o1), (.int (0 : Int32)), (.ref li)])) _
      refine st79.trans ?_
      show Steps p.tables e below (T79.setTop (mkF m 70 #[.val (.ref o0), .val (.ref o1), .val (.int p2), .val (.int (0 : Int32))] [])) _
      refine XS.aloadN X79.here hx rfl (hb hby d485_70) rfl rfl ?_
      show Steps p.tables e below (T79.setTop (mkF m 71 #[.val (.ref o0), .val (.ref o1), .val (.int p2), .val (.int (0 : Int32))] [(.ref o0)])) _
      refine st81 _ ?_
      show Steps p.tables e below (T81.setTop (mkF m 74 #[.val (.ref o0), .val (.ref o1), .val (.int p2), .val (.int (0 : Int32))] [(.ref li)])) _
      refine st83.trans ?_
      show Steps p.tables e below (T83.setTop (mkF m 79 #[.val (.ref o0), .val (.ref o1), .val (.int p2), .val (.int (0 : Int32))] [(.int (2 : Int32))])) _
      refine XS.bipush X83.here hx rfl (hb hby d485_79) ?_
      show Steps p.tables e below (T83.setTop (mkF m 81 #[.val (.ref o0), .val (.ref o1), .val (.int p2), .val (.int (0 : Int32))] [(.int (100 : Int32)), (.int (2 : Int32))])) _
      refine XS.icmpYes X83.here hx rfl (pc0 := 81) (pc' := 96) rfl (hb hby d485_81) rfl (flt (by decide)).2.2.2 (by decide) (by decide) ?_
      show Steps p.tables e below (T83.setTop (mkF m 96 #[.val (.ref o0), .val (.ref o1), .val (.int p2), .val (.int (0 : Int32))] [])) _
      exact X83.returnOut hx Bd.returns (hb hby d485_96) hr
    · show Q485_1 Z o0 o1 p2 cnt li mc arr ka x0 l0 c0 lo co h0 n0 _ T83.heap _
      exact ⟨o1, lo, co, x0, l0, c0, rfl, N83, J83, c85, c86, c87, c88, c89, c90, c91, c92, c93, c94, c95, c96⟩
theorem ef_482_1 (m : MethodId) (o0 : Addr) (p1 : Int32) (o2 : Addr) : entryFrame m #[(.ref o0), (.int p1), (.ref o2)] 3 = mkF m 0 #[.val (.ref o0), .val (.int p1), .val (.ref o2)] [] := by first | (simp [entryFrame, mkF, argsToLocals, Value.category]; done) | rfl
def Q482_1 (Z : State) (o0 : Addr) (p1 : Int32) (o2 : Addr) (cnt : Int64) (li : Addr) (mc : Int32) (arr : Addr) (ka : ClassId) (x0 : Addr) (l0 : Int32) (c0 : Int32) (h0 : Heap) (n0 : Nat) (v : Option Value) (h : Heap) (L : List Loc) : Prop := ∃ y0 : Addr, ∃ m0 : Int32, ∃ d0 : Int32, ∃ y1 : Addr, ∃ m1 : Int32, ∃ d1 : Int32, v = none ∧ Fr n0 L ∧ Keep h0 h [o0, li, arr] ∧ Fld Z h o0 "com/example/tierline/tierline/csv/LineProblems" "count" "J" (.long (cnt + (1 : Int64))) ∧ Fld Z h o0 "com/example/tierline/tierline/csv/LineProblems" "listed" "Ljava/util/List;" (.ref li) ∧ Fld Z h li "java/util/ArrayList" "size" "I" (.int (2 : Int32)) ∧ Fld Z h li "java/util/AbstractList" "modCount" "I" (.int (mc + (1 : Int32))) ∧ Exa Z h y0 "com/example/tierline/tierline/csv/LineProblems$Problem" ∧ Fld Z h y0 "com/example/tierline/tierline/csv/LineProblems$Problem" "line" "I" (.int m0) ∧ Fld Z h y0 "com/example/tierline/tierline/csv/LineProblems$Problem" "conflict" "Z" (.int d0) ∧ Exa Z h y1 "com/example/tierline/tierline/csv/LineProblems$Problem" ∧ Fld Z h y1 "com/example/tierline/tierline/csv/LineProblems$Problem" "line" "I" (.int m1) ∧ Fld Z h y1 "com/example/tierline/tierline/csv/LineProblems$Problem" "conflict" "Z" (.int d1) ∧ Fld Z h li "java/util/ArrayList" "elementData" "[Ljava/lang/Object;" (.ref arr) ∧ Arv Z h arr ka (.object "java/lang/Object") (10 : Int32) [(.ref y0), (.ref y1)] .null
set_option maxRecDepth 65536 in
set_option maxHeartbeats 40000000 in
theorem rm482_1 (l : Launch) (Z : State) (a0 : Array Value) (hw : ∀ d ∈ tables_1, d.before a0 Z = true) (ws : List Jvm.Cond) (o0 : Addr) (p1 : Int32) (o2 : Addr) (cnt : Int64) (li : Addr) (mc : Int32) (arr : Addr) (ka : ClassId) (x0 : Addr) (l0 : Int32) (c0 : Int32) (h0 : Heap) (n0 : Nat) (Z0 : n0 ≤ h0.size) (E_o0 : Exa Z h0 o0 "com/example/tierline/tierline/csv/LineProblems") (F_count_o0 : Fld Z h0 o0 "com/example/tierline/tierline/csv/LineProblems" "count" "J" (.long cnt)) (F_listed_o0 : Fld Z h0 o0 "com/example/tierline/tierline/csv/LineProblems" "listed" "Ljava/util/List;" (.ref li)) (E_li : Exa Z h0 li "java/util/ArrayList") (F_size_li : Fld Z h0 li "java/util/ArrayList" "size" "I" (.int (1 : Int32))) (F_modCount_li : Fld Z h0 li "java/util/AbstractList" "modCount" "I" (.int mc)) (g_o0 : n0 ≤ o0) (g_li : n0 ≤ li) (F_elementData_li : Fld Z h0 li "java/util/ArrayList" "elementData" "[Ljava/lang/Object;" (.ref arr)) (V_arr : Arv Z h0 arr ka (.object "java/lang/Object") (10 : Int32) [(.ref x0)] .null) (ovr_ka : Ovr Z ka "java/lang/Object") (g_arr : n0 ≤ arr) (E_x0 : Exa Z h0 x0 "com/example/tierline/tierline/csv/LineProblems$Problem") (F_line_x0 : Fld Z h0 x0 "com/example/tierline/tierline/csv/LineProblems$Problem" "line" "I" (.int l0)) (F_conflict_x0 : Fld Z h0 x0 "com/example/tierline/tierline/csv/LineProblems$Problem" "conflict" "Z" (.int c0)) :
    MetFree l (⟨"com/example/tierline/tierline/csv/LineProblems", "add", "(ILjava/lang/String;)V"⟩ : MethodName) (head1 (Jvm.Cond.code (⟨"com/example/tierline/tierline/csv/LineProblems", "add", "(ILjava/lang/String;)V"⟩ : MethodName) prog_48_method_2_code 3 none :: ws) ({ frames := 4, cells := 1, slots := 3, locals := 55 } : Room)) (fun a U => a = #[(.ref o0), (.int p1), (.ref o2)] ∧ Z.Warmed39 U.vm ∧ U.heap = h0) (fun _ _ _ _ _ => True) (fun _ U o U' => ∃ v L, o = .returned v ∧ Q482_1 Z o0 p1 o2 cnt li mc arr ka x0 l0 c0 h0 n0 v U'.heap L ∧ FrameEnd U o U' L ({ frames := 4, cells := 1, slots := 3, locals := 55 } : Room).cells ({ frames := 4, cells := 1, slots := 3, locals := 55 } : Room).slots) := by
  refine MetFree.of_bodySF (plainFor_of_name pn_com_example_tierline_tierline_csv_LineProblems) hisR ?_
  intro p e s m args below meth c s₁ Bd hml0 hP hK
  obtain ⟨rfl, hZ, hh⟩ := hP
  have hx := Bd.exec
  have hby := Bd.bytes
  have hml : c.maxLocals = 3 := hml0
  have hown : s.vm.findClass "com/example/tierline/tierline/csv/LineProblems" = some m.cls := findClass_of_methodNamed Bd.named
  have hnm := (name_of_methodNamed Bd.named Bd.method).1
  have X0 : Stand p l e ({ frames := 4, cells := 1, slots := 3, locals := 55 } : Room) s m #[(.ref o0), (.int p1), (.ref o2)] below meth c s₁ [] 0 0 := Stand.of_body Bd
  have e0 : s₁.heap = h0 := by rw [← hh, Bd.state]; rfl
  have N0 := Fr.nil n0
  have pre0 : ∀ t, Steps p.tables e below (s₁.setTop (mkF m 0 #[.val (.ref o0), .val (.int p1), .val (.ref o2)] [])) t → Steps p.tables e below (s₁.setTop (entryFrame m #[(.ref o0), (.int p1), (.ref o2)] 3)) t := fun t k => castTop (ef_482_1 m o0 p1 o2) k
  obtain ⟨T1, h1, X1, e1, E1, A1, D1, U1, st1⟩ := newO X0 hx hZ hown (hw _ (List.mem_of_getElem? (i := 80) rfl)) (hw _ (List.mem_of_getElem? (i := 81) rfl)) (hw _ (List.mem_of_getElem? (i := 82) rfl)) e0 (g := (mkF m 1 #[.val (.ref o0), .val (.int p1), .val (.ref o2)] [(.ref o0)])) rfl (hb hby d482_1) (by decide) (by decide)
  obtain ⟨b1, g1⟩ : ∃ z, z = h0.size := ⟨_, rfl⟩
  rw [← g1] at A1 D1 U1 st1
  have g_b1 : n0 ≤ b1 := Nat.le_trans Z0 (Nat.le_of_eq g1.symm)
  have sz_b1 : h0.size ≤ b1 := Nat.le_trans (Keep.refl h0 [o0, li, arr]).1 (Nat.le_of_eq g1.symm)
  have ne2 : o0 ≠ b1 := Nat.ne_of_lt (Nat.lt_of_lt_of_le E_o0.lt (Nat.le_of_eq g1.symm))
  have ne3 : li ≠ b1 := Nat.ne_of_lt (Nat.lt_of_lt_of_le E_li.lt (Nat.le_of_eq g1.symm))
  have ne4 : arr ≠ b1 := Nat.ne_of_lt (Nat.lt_of_lt_of_le V_arr.lt (Nat.le_of_eq g1.symm))
  have ne5 : x0 ≠ b1 := Nat.ne_of_lt (Nat.lt_of_lt_of_le E_x0.lt (Nat.le_of_eq g1.symm))
  have F_line_b1 : Fld Z h1 b1 "com/example/tierline/tierline/csv/LineProblems$Problem" "line" "I" (.int (0 : Int32)) := D1 (Or.inr (hw _ (List.mem_of_getElem? (i := 88) rfl))) (ty := .int) (by decide)
  have F_reason_b1 : Fld Z h1 b1 "com/example/tierline/tierline/csv/LineProblems$Problem" "reason" "Ljava/lang/String;" .null := D1 (Or.inr (hw _ (List.mem_of_getElem? (i := 90) rfl))) (ty := (.object "java/lang/String")) (by decide)
  have F_conflict_b1 : Fld Z h1 b1 "com/example/tierline/tierline/csv/LineProblems$Problem" "conflict" "Z" (.int (0 : Int32)) := D1 (Or.inr (hw _ (List.mem_of_getElem? (i := 92) rfl))) (ty := .boolean) (by decide)
  have J1 : Keep h0 h1 [o0, li, arr] := (Keep.refl h0 [o0, li, arr]).ext E1
  have z6 : n0 ≤ h1.size := (Nat.le_trans Z0 E1.1)
  -- pc 8: LineProblems$Problem.<init> by rm49
  obtain ⟨_, _, ⟨T7, L7, k7, n7⟩, -, X7, ⟨Lc7, hQ7, l7, y7, z7'⟩, st7⟩ := own_specialBackR X1 hx (y := (⟨"com/example/tierline/tierline/csv/LineProblems$Problem", "<init>", "(ILjava/lang/String;Z)V"⟩ : MethodName)) rfl hown (own_mvRef hZ (hw _ (List.mem_of_getElem? (i := 83) rfl)) (hw _ (List.mem_of_getElem? (i := 84) rfl)) (by decide)) (mvT hZ (hw _ (List.mem_of_getElem? (i := 84) rfl))) (mvT hZ (hw _ (List.mem_of_getElem? (i := 85) rfl))) (by decide) (backOf (W := 2) (rm49 l Z a0 hw [] b1 p1 o2 (0 : Int32) h1 n0 z6 A1 F_line_b1 F_reason_b1 F_conflict_b1 g_b1) hZ (hw _ (List.mem_of_getElem? (i := 85) rfl)) (hw _ (List.mem_of_getElem? (i := 82) rfl)) (by decide) (by decide)) (g := (mkF m 8 #[.val (.ref o0), .val (.int p1), .val (.ref o2)] [(.int (0 : Int32)), (.ref o2), (.int p1), (.ref b1), (.ref b1), (.ref o0)])) rfl (by rw [hml]; rfl) (Steps.refl _) (a := b1) (argsL := [(.int p1), (.ref o2), (.int (0 : Int32))]) (rest := [(.ref b1), (.ref o0)]) (lenOf pd_12 rfl) rfl (by show 2 * 0 + _ ≤ _; exact Nat.le_of_eq rfl) (hb hby d482_8) (fun _ _ => ⟨rfl, e1, (by decide : 1 + 0 ≤ _), (by decide : 3 + 0 ≤ _)⟩)
  dsimp only [Pt.U, Pt.locs, Pt.cells, Pt.slots] at X7 l7 y7 z7' st7 hQ7
  subst l7 y7 z7'
  obtain ⟨rfl, N7q, K7, r0_7, r1_7⟩ := hQ7
  have N7 := Fr.app N0 N7q
  have J7 : Keep h0 T7.heap [o0, li, arr] := J1.trans K7 (allS (Or.inr sz_b1) all0)
  have c8 : Exa Z T7.heap o0 "com/example/tierline/tierline/csv/LineProblems" := ((E_o0.ext E1).keep K7)
  have c9 : Fld Z T7.heap o0 "com/example/tierline/tierline/csv/LineProblems" "count" "J" (.long cnt) := ((F_count_o0.ext E1).keep K7 (ninS ne2 nin0))
  have c10 : Fld Z T7.heap o0 "com/example/tierline/tierline/csv/LineProblems" "listed" "Ljava/util/List;" (.ref li) := ((F_listed_o0.ext E1).keep K7 (ninS ne2 nin0))
  have c11 : Exa Z T7.heap li "java/util/ArrayList" := ((E_li.ext E1).keep K7)
  have c12 : Fld Z T7.heap li "java/util/ArrayList" "size" "I" (.int (1 : Int32)) := ((F_size_li.ext E1).keep K7 (ninS ne3 nin0))
  have c13 : Fld Z T7.heap li "java/util/AbstractList" "modCount" "I" (.int mc) := ((F_modCount_li.ext E1).keep K7 (ninS ne3 nin0))
  have c14 : Fld Z T7.heap li "java/util/ArrayList" "elementData" "[Ljava/lang/Object;" (.ref arr) := ((F_elementData_li.ext E1).keep K7 (ninS ne3 nin0))
  have c15 : Arv Z T7.heap arr ka (.object "java/lang/Object") (10 : Int32) [(.ref x0)] .null := ((V_arr.ext E1).keep K7 (ninS ne4 nin0))
  have c16 : Exa Z T7.heap x0 "com/example/tierline/tierline/csv/LineProblems$Problem" := ((E_x0.ext E1).keep K7)
  have c17 : Fld Z T7.heap x0 "com/example/tierline/tierline/csv/LineProblems$Problem" "line" "I" (.int l0) := ((F_line_x0.ext E1).keep K7 (ninS ne5 nin0))
  have c18 : Fld Z T7.heap x0 "com/example/tierline/tierline/csv/LineProblems$Problem" "conflict" "Z" (.int c0) := ((F_conflict_x0.ext E1).keep K7 (ninS ne5 nin0))
  have c19 : Exa Z T7.heap b1 "com/example/tierline/tierline/csv/LineProblems$Problem" := (A1.keep K7)
  have ne20 : arr ≠ o0 := (Ne.symm (Exa.neArv c8 c15 (hw _ (List.mem_of_getElem? (i := 1) rfl))))
  have ne21 : li ≠ o0 := (ne_exa c11 c8 (by decide))
  have ne22 : x0 ≠ o0 := (ne_exa c16 c8 (by decide))
  have ne23 : arr ≠ li := (Ne.symm (Exa.neArv c11 c15 (hw _ (List.mem_of_getElem? (i := 18) rfl))))
  have ne24 : x0 ≠ li := (ne_exa c16 c11 (by decide))
  have ne25 : x0 ≠ arr := (Exa.neArv c16 c15 (hw _ (List.mem_of_getElem? (i := 81) rfl)))
  have z26 : n0 ≤ T7.heap.size := (Nat.le_trans z6 K7.1)
  obtain ⟨cq27, qh27, qh27'⟩ := c8.cell
  -- pc 12: LineProblems.add by rm485_1
  obtain ⟨_, _, ⟨T27, L27, k27, n27⟩, -, X27, ⟨Lc27, hQ27, l27, y27, z27'⟩, st27⟩ := X7.privateBack hx (y := (⟨"com/example/tierline/tierline/csv/LineProblems", "add", "(Lcom/example/tierline/tierline/csv/LineProblems$Problem;Z)V"⟩ : MethodName)) hown (mvT hZ (hw _ (List.mem_of_getElem? (i := 93) rfl))) (mvT hZ (hw _ (List.mem_of_getElem? (i := 94) rfl))) (own_selP hZ (hw _ (List.mem_of_getElem? (i := 1) rfl)) (hw _ (List.mem_of_getElem? (i := 95) rfl)) (hw _ (List.mem_of_getElem? (i := 94) rfl)) (by decide)) (Cond.privateMethod_at (mvP hZ (hw _ (List.mem_of_getElem? (i := 95) rfl)) (args := #[]))) (mvT hZ (hw _ (List.mem_of_getElem? (i := 96) rfl))) (by decide) (backOf (W := 0) (rm485_1 l Z a0 hw [] o0 b1 (0 : Int32) cnt li mc arr ka x0 l0 c0 p1 (nar .boolean (0 : Int32)) T7.heap n0 z26 c8 c9 c10 c11 c12 c13 g_o0 g_li c14 c15 ovr_ka g_arr c16 c17 c18 c19 r0_7 r1_7) hZ (hw _ (List.mem_of_getElem? (i := 96) rfl)) (hw _ (List.mem_of_getElem? (i := 2) rfl)) (by decide) (by decide)) (g := (mkF m 12 #[.val (.ref o0), .val (.int p1), .val (.ref o2)] [(.int (0 : Int32)), (.ref b1), (.ref o0)])) rfl (by rw [hml]; rfl) (Steps.refl _) (a := o0) qh27 qh27' (argsL := [(.ref b1), (.int (0 : Int32))]) (rest := []) (lenOf pd_13 rfl) rfl (by show 2 * 0 + _ ≤ _; exact Nat.le_of_eq rfl) (hb hby d482_12) (fun _ _ => ⟨rfl, rfl, (by decide : 1 + 0 ≤ _), (by decide : 3 + 0 ≤ _)⟩)
  dsimp only [Pt.U, Pt.locs, Pt.cells, Pt.slots] at X27 l27 y27 z27' st27 hQ27
  subst l27 y27 z27'
  obtain ⟨y0_27, m0_27, d0_27, y1_27, m1_27, d1_27, rfl, N27q, K27, r0_27, r1_27, r2_27, r3_27, r4_27, r5_27, r6_27, r7_27, r8_27, r9_27, r10_27, r11_27⟩ := hQ27
  have N27 := Fr.app N7 N27q
  have J27 : Keep h0 T27.heap [o0, li, arr] := J7.trans K27 (allS (Or.inl (List.mem_of_getElem? (i := 0) rfl)) (allS (Or.inl (List.mem_of_getElem? (i := 1) rfl)) (allS (Or.inl (List.mem_of_getElem? (i := 2) rfl)) all0)))
  obtain ⟨fs, hr, hrun, hended, hW, hsame⟩ := X27.leave (v := none) (fun _ => rfl)
  refine ⟨_, _, pre0 _ ?_, hrun, hended, _, _, rfl, ?_, ⟨_, rfl⟩, hW, hsame.mono (by decide) (by decide)⟩
  · show Steps p.tables e below (s₁.setTop (mkF m 0 #[.val (.ref o0), .val (.int p1), .val (.ref o2)] [])) _
    refine XS.aloadN X0.here hx rfl (hb hby d482_0) rfl rfl ?_
    show Steps p.tables e below (s₁.setTop (mkF m 1 #[.val (.ref o0), .val (.int p1), .val (.ref o2)] [(.ref o0)])) _
    refine st1 _ ?_
    show Steps p.tables e below (T1.setTop (mkF m 4 #[.val (.ref o0), .val (.int p1), .val (.ref o2)] [(.ref b1), (.ref o0)])) _
    refine XS.dup X1.here hx rfl (hb hby d482_4) rfl rfl ?_
    show Steps p.tables e below (T1.setTop (mkF m 5 #[.val (.ref o0), .val (.int p1), .val (.ref o2)] [(.ref b1), (.ref b1), (.ref o0)])) _
    refine XS.iloadN X1.here hx rfl (hb hby d482_5) rfl ?_
    show Steps p.tables e below (T1.setTop (mkF m 6 #[.val (.ref o0), .val (.int p1), .val (.ref o2)] [(.int p1), (.ref b1), (.ref b1), (.ref o0)])) _
    refine XS.aloadN X1.here hx rfl (hb hby d482_6) rfl rfl ?_
    show Steps p.tables e below (T1.setTop (mkF m 7 #[.val (.ref o0), .val (.int p1), .val (.ref o2)] [(.ref o2), (.int p1), (.ref b1), (.ref b1), (.ref o0)])) _
    refine XS.iconst X1.here hx rfl (hb hby d482_7) ?_
    show Steps p.tables e below (T1.setTop (mkF m 8 #[.val (.ref o0), .val (.int p1), .val (.ref o2)] [(.int (0 : Int32)), (.ref o2), (.int p1), (.ref b1), (.ref b1), (.ref o0)])) _
    refine st7.trans ?_
    show Steps p.tables e below (T7.setTop (mkF m 11 #[.val (.ref o0), .val (.int p1), .val (.ref o2)] [(.ref b1), (.ref o0)])) _
    refine XS.iconst X7.here hx rfl (hb hby d482_11) ?_
    show Steps p.tables e below (T7.setTop (mkF m 12 #[.val (.ref o0), .val (.int p1), .val (.ref o2)] [(.int (0 : Int32)), (.ref b1), (.ref o0)])) _
    refine st27.trans ?_
    show Steps p.tables e below (T27.setTop (mkF m 15 #[.val (.ref o0), .val (.int p1), .val (.ref o2)] [])) _
    exact X27.returnOut hx Bd.returns (hb hby d482_15) hr
  · show Q482_1 Z o0 p1 o2 cnt li mc arr ka x0 l0 c0 h0 n0 _ T27.heap _
    exact ⟨y0_27, m0_27, d0_27, y1_27, m1_27, d1_27, rfl, N27, J27, r0_27, r1_27, r2_27, r3_27, r4_27, r5_27, r6_27, r7_27, r8_27, r9_27, r10_27, r11_27⟩
theorem ef_484_1 (m : MethodId) (o0 : Addr) (p1 : Int32) (o2 : Addr) : entryFrame m #[(.ref o0), (.int p1), (.ref o2)] 3 = mkF m 0 #[.val (.ref o0), .val (.int p1), .val (.ref o2)] [] := by first | (simp [entryFrame, mkF, argsToLocals, Value.category]; done) | rfl
def Q484_1 (Z : State) (o0 : Addr) (p1 : Int32) (o2 : Addr) (cnt : Int64) (li : Addr) (mc : Int32) (arr : Addr) (ka : ClassId) (x0 : Addr) (l0 : Int32) (c0 : Int32) (h0 : Heap) (n0 : Nat) (v : Option Value) (h : Heap) (L : List Loc) : Prop := ∃ y0 : Addr, ∃ m0 : Int32, ∃ d0 : Int32, ∃ y1 : Addr, ∃ m1 : Int32, ∃ d1 : Int32, v = none ∧ Fr n0 L ∧ Keep h0 h [o0, li, arr] ∧ Fld Z h o0 "com/example/tierline/tierline/csv/LineProblems" "count" "J" (.long (cnt + (1 : Int64))) ∧ Fld Z h o0 "com/example/tierline/tierline/csv/LineProblems" "listed" "Ljava/util/List;" (.ref li) ∧ Fld Z h li "java/util/ArrayList" "size" "I" (.int (2 : Int32)) ∧ Fld Z h li "java/util/AbstractList" "modCount" "I" (.int (mc + (1 : Int32))) ∧ Exa Z h y0 "com/example/tierline/tierline/csv/LineProblems$Problem" ∧ Fld Z h y0 "com/example/tierline/tierline/csv/LineProblems$Problem" "line" "I" (.int m0) ∧ Fld Z h y0 "com/example/tierline/tierline/csv/LineProblems$Problem" "conflict" "Z" (.int d0) ∧ Exa Z h y1 "com/example/tierline/tierline/csv/LineProblems$Problem" ∧ Fld Z h y1 "com/example/tierline/tierline/csv/LineProblems$Problem" "line" "I" (.int m1) ∧ Fld Z h y1 "com/example/tierline/tierline/csv/LineProblems$Problem" "conflict" "Z" (.int d1) ∧ Fld Z h li "java/util/ArrayList" "elementData" "[Ljava/lang/Object;" (.ref arr) ∧ Arv Z h arr ka (.object "java/lang/Object") (10 : Int32) [(.ref y0), (.ref y1)] .null
set_option maxRecDepth 65536 in
set_option maxHeartbeats 40000000 in
theorem rm484_1 (l : Launch) (Z : State) (a0 : Array Value) (hw : ∀ d ∈ tables_1, d.before a0 Z = true) (ws : List Jvm.Cond) (o0 : Addr) (p1 : Int32) (o2 : Addr) (cnt : Int64) (li : Addr) (mc : Int32) (arr : Addr) (ka : ClassId) (x0 : Addr) (l0 : Int32) (c0 : Int32) (h0 : Heap) (n0 : Nat) (Z0 : n0 ≤ h0.size) (E_o0 : Exa Z h0 o0 "com/example/tierline/tierline/csv/LineProblems") (F_count_o0 : Fld Z h0 o0 "com/example/tierline/tierline/csv/LineProblems" "count" "J" (.long cnt)) (F_listed_o0 : Fld Z h0 o0 "com/example/tierline/tierline/csv/LineProblems" "listed" "Ljava/util/List;" (.ref li)) (E_li : Exa Z h0 li "java/util/ArrayList") (F_size_li : Fld Z h0 li "java/util/ArrayList" "size" "I" (.int (1 : Int32))) (F_modCount_li : Fld Z h0 li "java/util/AbstractList" "modCount" "I" (.int mc)) (g_o0 : n0 ≤ o0) (g_li : n0 ≤ li) (F_elementData_li : Fld Z h0 li "java/util/ArrayList" "elementData" "[Ljava/lang/Object;" (.ref arr)) (V_arr : Arv Z h0 arr ka (.object "java/lang/Object") (10 : Int32) [(.ref x0)] .null) (ovr_ka : Ovr Z ka "java/lang/Object") (g_arr : n0 ≤ arr) (E_x0 : Exa Z h0 x0 "com/example/tierline/tierline/csv/LineProblems$Problem") (F_line_x0 : Fld Z h0 x0 "com/example/tierline/tierline/csv/LineProblems$Problem" "line" "I" (.int l0)) (F_conflict_x0 : Fld Z h0 x0 "com/example/tierline/tierline/csv/LineProblems$Problem" "conflict" "Z" (.int c0)) :
    MetFree l (⟨"com/example/tierline/tierline/csv/LineProblems", "addConflict", "(ILjava/lang/String;)V"⟩ : MethodName) (head1 (Jvm.Cond.code (⟨"com/example/tierline/tierline/csv/LineProblems", "addConflict", "(ILjava/lang/String;)V"⟩ : MethodName) prog_48_method_4_code 3 none :: ws) ({ frames := 4, cells := 1, slots := 3, locals := 55 } : Room)) (fun a U => a = #[(.ref o0), (.int p1), (.ref o2)] ∧ Z.Warmed39 U.vm ∧ U.heap = h0) (fun _ _ _ _ _ => True) (fun _ U o U' => ∃ v L, o = .returned v ∧ Q484_1 Z o0 p1 o2 cnt li mc arr ka x0 l0 c0 h0 n0 v U'.heap L ∧ FrameEnd U o U' L ({ frames := 4, cells := 1, slots := 3, locals := 55 } : Room).cells ({ frames := 4, cells := 1, slots := 3, locals := 55 } : Room).slots) := by
  refine MetFree.of_bodySF (plainFor_of_name pn_com_example_tierline_tierline_csv_LineProblems) hisR ?_
  intro p e s m args below meth c s₁ Bd hml0 hP hK
  obtain ⟨rfl, hZ, hh⟩ := hP
  have hx := Bd.exec
  have hby := Bd.bytes
  have hml : c.maxLocals = 3 := hml0
  have hown : s.vm.findClass "com/example/tierline/tierline/csv/LineProblems" = some m.cls := findClass_of_methodNamed Bd.named
  have hnm := (name_of_methodNamed Bd.named Bd.method).1
  have X0 : Stand p l e ({ frames := 4, cells := 1, slots := 3, locals := 55 } : Room) s m #[(.ref o0), (.int p1), (.ref o2)] below meth c s₁ [] 0 0 := Stand.of_body Bd
  have e0 : s₁.heap = h0 := by rw [← hh, Bd.state]; rfl
  have N0 := Fr.nil n0
  have pre0 : ∀ t, Steps p.tables e below (s₁.setTop (mkF m 0 #[.val (.ref o0), .val (.int p1), .val (.ref o2)] [])) t → Steps p.tables e below (s₁.setTop (entryFrame m #[(.ref o0), (.int p1), (.ref o2)] 3)) t := fun t k => castTop (ef_484_1 m o0 p1 o2) k
  obtain ⟨T1, h1, X1, e1, E1, A1, D1, U1, st1⟩ := newO X0 hx hZ hown (hw _ (List.mem_of_getElem? (i := 80) rfl)) (hw _ (List.mem_of_getElem? (i := 81) rfl)) (hw _ (List.mem_of_getElem? (i := 82) rfl)) e0 (g := (mkF m 1 #[.val (.ref o0), .val (.int p1), .val (.ref o2)] [(.ref o0)])) rfl (hb hby d484_1) (by decide) (by decide)
  obtain ⟨b1, g1⟩ : ∃ z, z = h0.size := ⟨_, rfl⟩
  rw [← g1] at A1 D1 U1 st1
  have g_b1 : n0 ≤ b1 := Nat.le_trans Z0 (Nat.le_of_eq g1.symm)
  have sz_b1 : h0.size ≤ b1 := Nat.le_trans (Keep.refl h0 [o0, li, arr]).1 (Nat.le_of_eq g1.symm)
  have ne2 : o0 ≠ b1 := Nat.ne_of_lt (Nat.lt_of_lt_of_le E_o0.lt (Nat.le_of_eq g1.symm))
  have ne3 : li ≠ b1 := Nat.ne_of_lt (Nat.lt_of_lt_of_le E_li.lt (Nat.le_of_eq g1.symm))
  have ne4 : arr ≠ b1 := Nat.ne_of_lt (Nat.lt_of_lt_of_le V_arr.lt (Nat.le_of_eq g1.symm))
  have ne5 : x0 ≠ b1 := Nat.ne_of_lt (Nat.lt_of_lt_of_le E_x0.lt (Nat.le_of_eq g1.symm))
  have F_line_b1 : Fld Z h1 b1 "com/example/tierline/tierline/csv/LineProblems$Problem" "line" "I" (.int (0 : Int32)) := D1 (Or.inr (hw _ (List.mem_of_getElem? (i := 88) rfl))) (ty := .int) (by decide)
  have F_reason_b1 : Fld Z h1 b1 "com/example/tierline/tierline/csv/LineProblems$Problem" "reason" "Ljava/lang/String;" .null := D1 (Or.inr (hw _ (List.mem_of_getElem? (i := 90) rfl))) (ty := (.object "java/lang/String")) (by decide)
  have F_conflict_b1 : Fld Z h1 b1 "com/example/tierline/tierline/csv/LineProblems$Problem" "conflict" "Z" (.int (0 : Int32)) := D1 (Or.inr (hw _ (List.mem_of_getElem? (i := 92) rfl))) (ty := .boolean) (by decide)
  have J1 : Keep h0 h1 [o0, li, arr] := (Keep.refl h0 [o0, li, arr]).ext E1
  have z6 : n0 ≤ h1.size := (Nat.le_trans Z0 E1.1)
  -- pc 8: LineProblems$Problem.<init> by rm49
  obtain ⟨_, _, ⟨T7, L7, k7, n7⟩, -, X7, ⟨Lc7, hQ7, l7, y7, z7'⟩, st7⟩ := own_specialBackR X1 hx (y := (⟨"com/example/tierline/tierline/csv/LineProblems$Problem", "<init>", "(ILjava/lang/String;Z)V"⟩ : MethodName)) rfl hown (own_mvRef hZ (hw _ (List.mem_of_getElem? (i := 83) rfl)) (hw _ (List.mem_of_getElem? (i := 84) rfl)) (by decide)) (mvT hZ (hw _ (List.mem_of_getElem? (i := 84) rfl))) (mvT hZ (hw _ (List.mem_of_getElem? (i := 85) rfl))) (by decide) (backOf (W := 2) (rm49 l Z a0 hw [] b1 p1 o2 (1 : Int32) h1 n0 z6 A1 F_line_b1 F_reason_b1 F_conflict_b1 g_b1) hZ (hw _ (List.mem_of_getElem? (i := 85) rfl)) (hw _ (List.mem_of_getElem? (i := 82) rfl)) (by decide) (by decide)) (g := (mkF m 8 #[.val (.ref o0), .val (.int p1), .val (.ref o2)] [(.int (1 : Int32)), (.ref o2), (.int p1), (.ref b1), (.ref b1), (.ref o0)])) rfl (by rw [hml]; rfl) (Steps.refl _) (a := b1) (argsL := [(.int p1), (.ref o2), (.int (1 : Int32))]) (rest := [(.ref b1), (.ref o0)]) (lenOf pd_12 rfl) rfl (by show 2 * 0 + _ ≤ _; exact Nat.le_of_eq rfl) (hb hby d484_8) (fun _ _ => ⟨rfl, e1, (by decide : 1 + 0 ≤ _), (by decide : 3 + 0 ≤ _)⟩)
  dsimp only [Pt.U, Pt.locs, Pt.cells, Pt.slots] at X7 l7 y7 z7' st7 hQ7
  subst l7 y7 z7'
  obtain ⟨rfl, N7q, K7, r0_7, r1_7⟩ := hQ7
  have N7 := Fr.app N0 N7q
  have J7 : Keep h0 T7.heap [o0, li, arr] := J1.trans K7 (allS (Or.inr sz_b1) all0)
  have c8 : Exa Z T7.heap o0 "com/example/tierline/tierline/csv/LineProblems" := ((E_o0.ext E1).keep K7)
  have c9 : Fld Z T7.heap o0 "com/example/tierline/tierline/csv/LineProblems" "count" "J" (.long cnt) := ((F_count_o0.ext E1).keep K7 (ninS ne2 nin0))
  have c10 : Fld Z T7.heap o0 "com/example/tierline/tierline/csv/LineProblems" "listed" "Ljava/util/List;" (.ref li) := ((F_listed_o0.ext E1).keep K7 (ninS ne2 nin0))
  have c11 : Exa Z T7.heap li "java/util/ArrayList" := ((E_li.ext E1).keep K7)
  have c12 : Fld Z T7.heap li "java/util/ArrayList" "size" "I" (.int (1 : Int32)) := ((F_size_li.ext E1).keep K7 (ninS ne3 nin0))
  have c13 : Fld Z T7.heap li "java/util/AbstractList" "modCount" "I" (.int mc) := ((F_modCount_li.ext E1).keep K7 (ninS ne3 nin0))
  have c14 : Fld Z T7.heap li "java/util/ArrayList" "elementData" "[Ljava/lang/Object;" (.ref arr) := ((F_elementData_li.ext E1).keep K7 (ninS ne3 nin0))
  have c15 : Arv Z T7.heap arr ka (.object "java/lang/Object") (10 : Int32) [(.ref x0)] .null := ((V_arr.ext E1).keep K7 (ninS ne4 nin0))
  have c16 : Exa Z T7.heap x0 "com/example/tierline/tierline/csv/LineProblems$Problem" := ((E_x0.ext E1).keep K7)
  have c17 : Fld Z T7.heap x0 "com/example/tierline/tierline/csv/LineProblems$Problem" "line" "I" (.int l0) := ((F_line_x0.ext E1).keep K7 (ninS ne5 nin0))
  have c18 : Fld Z T7.heap x0 "com/example/tierline/tierline/csv/LineProblems$Problem" "conflict" "Z" (.int c0) := ((F_conflict_x0.ext E1).keep K7 (ninS ne5 nin0))
  have c19 : Exa Z T7.heap b1 "com/example/tierline/tierline/csv/LineProblems$Problem" := (A1.keep K7)
  have ne20 : arr ≠ o0 := (Ne.symm (Exa.neArv c8 c15 (hw _ (List.mem_of_getElem? (i := 1) rfl))))
  have ne21 : li ≠ o0 := (ne_exa c11 c8 (by decide))
  have ne22 : x0 ≠ o0 := (ne_exa c16 c8 (by decide))
  have ne23 : arr ≠ li := (Ne.symm (Exa.neArv c11 c15 (hw _ (List.mem_of_getElem? (i := 18) rfl))))
  have ne24 : x0 ≠ li := (ne_exa c16 c11 (by decide))
  have ne25 : x0 ≠ arr := (Exa.neArv c16 c15 (hw _ (List.mem_of_getElem? (i := 81) rfl)))
  have z26 : n0 ≤ T7.heap.size := (Nat.le_trans z6 K7.1)
  obtain ⟨cq27, qh27, qh27'⟩ := c8.cell
  -- pc 12: LineProblems.add by rm485_1
  obtain ⟨_, _, ⟨T27, L27, k27, n27⟩, -, X27, ⟨Lc27, hQ27, l27, y27, z27'⟩, st27⟩ := X7.privateBack hx (y := (⟨"com/example/tierline/tierline/csv/LineProblems", "add", "(Lcom/example/tierline/tierline/csv/LineProblems$Problem;Z)V"⟩ : MethodName)) hown (mvT hZ (hw _ (List.mem_of_getElem? (i := 93) rfl))) (mvT hZ (hw _ (List.mem_of_getElem? (i := 94) rfl))) (own_selP hZ (hw _ (List.mem_of_getElem? (i := 1) rfl)) (hw _ (List.mem_of_getElem? (i := 95) rfl)) (hw _ (List.mem_of_getElem? (i := 94) rfl)) (by decide)) (Cond.privateMethod_at (mvP hZ (hw _ (List.mem_of_getElem? (i := 95) rfl)) (args := #[]))) (mvT hZ (hw _ (List.mem_of_getElem? (i := 96) rfl))) (by decide) (backOf (W := 0) (rm485_1 l Z a0 hw [] o0 b1 (0 : Int32) cnt li mc arr ka x0 l0 c0 p1 (nar .boolean (1 : Int32)) T7.heap n0 z26 c8 c9 c10 c11 c12 c13 g_o0 g_li c14 c15 ovr_ka g_arr c16 c17 c18 c19 r0_7 r1_7) hZ (hw _ (List.mem_of_getElem? (i := 96) rfl)) (hw _ (List.mem_of_getElem? (i := 2) rfl)) (by decide) (by decide)) (g := (mkF m 12 #[.val (.ref o0), .val (.int p1), .val (.ref o2)] [(.int (0 : Int32)), (.ref b1), (.ref o0)])) rfl (by rw [hml]; rfl) (Steps.refl _) (a := o0) qh27 qh27' (argsL := [(.ref b1), (.int (0 : Int32))]) (rest := []) (lenOf pd_13 rfl) rfl (by show 2 * 0 + _ ≤ _; exact Nat.le_of_eq rfl) (hb hby d484_12) (fun _ _ => ⟨rfl, rfl, (by decide : 1 + 0 ≤ _), (by decide : 3 + 0 ≤ _)⟩)
  dsimp only [Pt.U, Pt.locs, Pt.cells, Pt.slots] at X27 l27 y27 z27' st27 hQ27
  subst l27 y27 z27'
  obtain ⟨y0_27, m0_27, d0_27, y1_27, m1_27, d1_27, rfl, N27q, K27, r0_27, r1_27, r2_27, r3_27, r4_27, r5_27, r6_27, r7_27, r8_27, r9_27, r10_27, r11_27⟩ := hQ27
  have N27 := Fr.app N7 N27q
  have J27 : Keep h0 T27.heap [o0, li, arr] := J7.trans K27 (allS (Or.inl (List.mem_of_getElem? (i := 0) rfl)) (allS (Or.inl (List.mem_of_getElem? (i := 1) rfl)) (allS (Or.inl (List.mem_of_getElem? (i := 2) rfl)) all0)))
  obtain ⟨fs, hr, hrun, hended, hW, hsame⟩ := X27.leave (v := none) (fun _ => rfl)
  refine ⟨_, _, pre0 _ ?_, hrun, hended, _, _, rfl, ?_, ⟨_, rfl⟩, hW, hsame.mono (by decide) (by decide)⟩
  · show Steps p.tables e below (s₁.setTop (mkF m 0 #[.val (.ref o0), .val (.int p1), .val (.ref o2)] [])) _
    refine XS.aloadN X0.here hx rfl (hb hby d484_0) rfl rfl ?_
    show Steps p.tables e below (s₁.setTop (mkF m 1 #[.val (.ref o0), .val (.int p1), .val (.ref o2)] [(.ref o0)])) _
    refine st1 _ ?_
    show Steps p.tables e below (T1.setTop (mkF m 4 #[.val (.ref o0), .val (.int p1), .val (.ref o2)] [(.ref b1), (.ref o0)])) _
    refine XS.dup X1.here hx rfl (hb hby d484_4) rfl rfl ?_
    show Steps p.tables e below (T1.setTop (mkF m 5 #[.val (.ref o0), .val (.int p1), .val (.ref o2)] [(.ref b1), (.ref b1), (.ref o0)])) _
    refine XS.iloadN X1.here hx rfl (hb hby d484_5) rfl ?_
    show Steps p.tables e below (T1.setTop (mkF m 6 #[.val (.ref o0), .val (.int p1), .val (.ref o2)] [(.int p1), (.ref b1), (.ref b1), (.ref o0)])) _
    refine XS.aloadN X1.here hx rfl (hb hby d484_6) rfl rfl ?_
    show Steps p.tables e below (T1.setTop (mkF m 7 #[.val (.ref o0), .val (.int p1), .val (.ref o2)] [(.ref o2), (.int p1), (.ref b1), (.ref b1), (.ref o0)])) _
    refine XS.iconst X1.here hx rfl (hb hby d484_7) ?_
    show Steps p.tables e below (T1.setTop (mkF m 8 #[.val (.ref o0), .val (.int p1), .val (.ref o2)] [(.int (1 : Int32)), (.ref o2), (.int p1), (.ref b1), (.ref b1), (.ref o0)])) _
    refine st7.trans ?_
    show Steps p.tables e below (T7.setTop (mkF m 11 #[.val (.ref o0), .val (.int p1), .val (.ref o2)] [(.ref b1), (.ref o0)])) _
    refine XS.iconst X7.here hx rfl (hb hby d484_11) ?_
    show Steps p.tables e below (T7.setTop (mkF m 12 #[.val (.ref o0), .val (.int p1), .val (.ref o2)] [(.int (0 : Int32)), (.ref b1), (.ref o0)])) _
    refine st27.trans ?_
    show Steps p.tables e below (T27.setTop (mkF m 15 #[.val (.ref o0), .val (.int p1), .val (.ref o2)] [])) _
    exact X27.returnOut hx Bd.returns (hb hby d484_15) hr
  · show Q484_1 Z o0 p1 o2 cnt li mc arr ka x0 l0 c0 h0 n0 _ T27.heap _
    exact ⟨y0_27, m0_27, d0_27, y1_27, m1_27, d1_27, rfl, N27, J27, r0_27, r1_27, r2_27, r3_27, r4_27, r5_27, r6_27, r7_27, r8_27, r9_27, r10_27, r11_27⟩
theorem ef_483_1 (m : MethodId) (o0 : Addr) (p1 : Int32) (o2 : Addr) : entryFrame m #[(.ref o0), (.int p1), (.ref o2)] 3 = mkF m 0 #[.val (.ref o0), .val (.int p1), .val (.ref o2)] [] := by first | (simp [entryFrame, mkF, argsToLocals, Value.category]; done) | rfl
def Q483_1 (Z : State) (o0 : Addr) (p1 : Int32) (o2 : Addr) (cnt : Int64) (li : Addr) (mc : Int32) (arr : Addr) (ka : ClassId) (x0 : Addr) (l0 : Int32) (c0 : Int32) (h0 : Heap) (n0 : Nat) (v : Option Value) (h : Heap) (L : List Loc) : Prop := ∃ y0 : Addr, ∃ m0 : Int32, ∃ d0 : Int32, ∃ y1 : Addr, ∃ m1 : Int32, ∃ d1 : Int32, v = none ∧ Fr n0 L ∧ Keep h0 h [o0, li, arr] ∧ Fld Z h o0 "com/example/tierline/tierline/csv/LineProblems" "count" "J" (.long (cnt + (1 : Int64))) ∧ Fld Z h o0 "com/example/tierline/tierline/csv/LineProblems" "listed" "Ljava/util/List;" (.ref li) ∧ Fld Z h li "java/util/ArrayList" "size" "I" (.int (2 : Int32)) ∧ Fld Z h li "java/util/AbstractList" "modCount" "I" (.int (mc + (1 : Int32))) ∧ Exa Z h y0 "com/example/tierline/tierline/csv/LineProblems$Problem" ∧ Fld Z h y0 "com/example/tierline/tierline/csv/LineProblems$Problem" "line" "I" (.int m0) ∧ Fld Z h y0 "com/example/tierline/tierline/csv/LineProblems$Problem" "conflict" "Z" (.int d0) ∧ Exa Z h y1 "com/example/tierline/tierline/csv/LineProblems$Problem" ∧ Fld Z h y1 "com/example/tierline/tierline/csv/LineProblems$Problem" "line" "I" (.int m1) ∧ Fld Z h y1 "com/example/tierline/tierline/csv/LineProblems$Problem" "conflict" "Z" (.int d1) ∧ Fld Z h li "java/util/ArrayList" "elementData" "[Ljava/lang/Object;" (.ref arr) ∧ Arv Z h arr ka (.object "java/lang/Object") (10 : Int32) [(.ref y0), (.ref y1)] .null
set_option maxRecDepth 65536 in
set_option maxHeartbeats 40000000 in
theorem rm483_1 (l : Launch) (Z : State) (a0 : Array Value) (hw : ∀ d ∈ tables_1, d.before a0 Z = true) (ws : List Jvm.Cond) (o0 : Addr) (p1 : Int32) (o2 : Addr) (cnt : Int64) (li : Addr) (mc : Int32) (arr : Addr) (ka : ClassId) (x0 : Addr) (l0 : Int32) (c0 : Int32) (h0 : Heap) (n0 : Nat) (Z0 : n0 ≤ h0.size) (E_o0 : Exa Z h0 o0 "com/example/tierline/tierline/csv/LineProblems") (F_count_o0 : Fld Z h0 o0 "com/example/tierline/tierline/csv/LineProblems" "count" "J" (.long cnt)) (F_listed_o0 : Fld Z h0 o0 "com/example/tierline/tierline/csv/LineProblems" "listed" "Ljava/util/List;" (.ref li)) (E_li : Exa Z h0 li "java/util/ArrayList") (F_size_li : Fld Z h0 li "java/util/ArrayList" "size" "I" (.int (1 : Int32))) (F_modCount_li : Fld Z h0 li "java/util/AbstractList" "modCount" "I" (.int mc)) (g_o0 : n0 ≤ o0) (g_li : n0 ≤ li) (F_elementData_li : Fld Z h0 li "java/util/ArrayList" "elementData" "[Ljava/lang/Object;" (.ref arr)) (V_arr : Arv Z h0 arr ka (.object "java/lang/Object") (10 : Int32) [(.ref x0)] .null) (ovr_ka : Ovr Z ka "java/lang/Object") (g_arr : n0 ≤ arr) (E_x0 : Exa Z h0 x0 "com/example/tierline/tierline/csv/LineProblems$Problem") (F_line_x0 : Fld Z h0 x0 "com/example/tierline/tierline/csv/LineProblems$Problem" "line" "I" (.int l0)) (F_conflict_x0 : Fld Z h0 x0 "com/example/tierline/tierline/csv/LineProblems$Problem" "conflict" "Z" (.int c0)) :
    MetFree l (⟨"com/example/tierline/tierline/csv/LineProblems", "addAheadOnLine", "(ILjava/lang/String;)V"⟩ : MethodName) (head1 (Jvm.Cond.code (⟨"com/example/tierline/tierline/csv/LineProblems", "addAheadOnLine", "(ILjava/lang/String;)V"⟩ : MethodName) prog_48_method_3_code 3 none :: ws) ({ frames := 4, cells := 1, slots := 3, locals := 55 } : Room)) (fun a U => a = #[(.ref o0), (.int p1), (.ref o2)] ∧ Z.Warmed39 U.vm ∧ U.heap = h0) (fun _ _ _ _ _ => True) (fun _ U o U' => ∃ v L, o = .returned v ∧ Q483_1 Z o0 p1 o2 cnt li mc arr ka x0 l0 c0 h0 n0 v U'.heap L ∧ FrameEnd U o U' L ({ frames := 4, cells := 1, slots := 3, locals := 55 } : Room).cells ({ frames := 4, cells := 1, slots := 3, locals := 55 } : Room).slots) := by
  refine MetFree.of_bodySF (plainFor_of_name pn_com_example_tierline_tierline_csv_LineProblems) hisR ?_
  intro p e s m args below meth c s₁ Bd hml0 hP hK
  obtain ⟨rfl, hZ, hh⟩ := hP
  have hx := Bd.exec
  have hby := Bd.bytes
  have hml : c.maxLocals = 3 := hml0
  have hown : s.vm.findClass "com/example/tierline/tierline/csv/LineProblems" = some m.cls := findClass_of_methodNamed Bd.named
  have hnm := (name_of_methodNamed Bd.named Bd.method).1
  have X0 : Stand p l e ({ frames := 4, cells := 1, slots := 3, locals := 55 } : Room) s m #[(.ref o0), (.int p1), (.ref o2)] below meth c s₁ [] 0 0 := Stand.of_body Bd
  have e0 : s₁.heap = h0 := by rw [← hh, Bd.state]; rfl
  have N0 := Fr.nil n0
  have pre0 : ∀ t, Steps p.tables e below (s₁.setTop (mkF m 0 #[.val (.ref o0), .val (.int p1), .val (.ref o2)] [])) t → Steps p.tables e below (s₁.setTop (entryFrame m #[(.ref o0), (.int p1), (.ref o2)] 3)) t := fun t k => castTop (ef_483_1 m o0 p1 o2) k
  obtain ⟨T1, h1, X1, e1, E1, A1, D1, U1, st1⟩ := newO X0 hx hZ hown (hw _ (List.mem_of_getElem? (i := 80) rfl)) (hw _ (List.mem_of_getElem? (i := 81) rfl)) (hw _ (List.mem_of_getElem? (i := 82) rfl)) e0 (g := (mkF m 1 #[.val (.ref o0), .val (.int p1), .val (.ref o2)] [(.ref o0)])) rfl (hb hby d483_1) (by decide) (by decide)
  obtain ⟨b1, g1⟩ : ∃ z, z = h0.size := ⟨_, rfl⟩
  rw [← g1] at A1 D1 U1 st1
  have g_b1 : n0 ≤ b1 := Nat.le_trans Z0 (Nat.le_of_eq g1.symm)
  have sz_b1 : h0.size ≤ b1 := Nat.le_trans (Keep.refl h0 [o0, li, arr]).1 (Nat.le_of_eq g1.symm)
  have ne2 : o0 ≠ b1 := Nat.ne_of_lt (Nat.lt_of_lt_of_le E_o0.lt (Nat.le_of_eq g1.symm))
  have ne3 : li ≠ b1 := Nat.ne_of_lt (Nat.lt_of_lt_of_le E_li.lt (Nat.le_of_eq g1.symm))
  have ne4 : arr ≠ b1 := Nat.ne_of_lt (Nat.lt_of_lt_of_le V_arr.lt (Nat.le_of_eq g1.symm))
  have ne5 : x0 ≠ b1 := Nat.ne_of_lt (Nat.lt_of_lt_of_le E_x0.lt (Nat.le_of_eq g1.symm))
  have F_line_b1 : Fld Z h1 b1 "com/example/tierline/tierline/csv/LineProblems$Problem" "line" "I" (.int (0 : Int32)) := D1 (Or.inr (hw _ (List.mem_of_getElem? (i := 88) rfl))) (ty := .int) (by decide)
  have F_reason_b1 : Fld Z h1 b1 "com/example/tierline/tierline/csv/LineProblems$Problem" "reason" "Ljava/lang/String;" .null := D1 (Or.inr (hw _ (List.mem_of_getElem? (i := 90) rfl))) (ty := (.object "java/lang/String")) (by decide)
  have F_conflict_b1 : Fld Z h1 b1 "com/example/tierline/tierline/csv/LineProblems$Problem" "conflict" "Z" (.int (0 : Int32)) := D1 (Or.inr (hw _ (List.mem_of_getElem? (i := 92) rfl))) (ty := .boolean) (by decide)
  have J1 : Keep h0 h1 [o0, li, arr] := (Keep.refl h0 [o0, li, arr]).ext E1
  have z6 : n0 ≤ h1.size := (Nat.le_trans Z0 E1.1)
  -- pc 8: LineProblems$Problem.<init> by rm49
  obtain ⟨_, _, ⟨T7, L7, k7, n7⟩, -, X7, ⟨Lc7, hQ7, l7, y7, z7'⟩, st7⟩ := own_specialBackR X1 hx (y := (⟨"com/example/tierline/tierline/csv/LineProblems$Problem", "<init>", "(ILjava/lang/String;Z)V"⟩ : MethodName)) rfl hown (own_mvRef hZ (hw _ (List.mem_of_getElem? (i := 83) rfl)) (hw _ (List.mem_of_getElem? (i := 84) rfl)) (by decide)) (mvT hZ (hw _ (List.mem_of_getElem? (i := 84) rfl))) (mvT hZ (hw _ (List.mem_of_getElem? (i := 85) rfl))) (by decide) (backOf (W := 2) (rm49 l Z a0 hw [] b1 p1 o2 (0 : Int32) h1 n0 z6 A1 F_line_b1 F_reason_b1 F_conflict_b1 g_b1) hZ (hw _ (List.mem_of_getElem? (i := 85) rfl)) (hw _ (List.mem_of_getElem? (i := 82) rfl)) (by decide) (by decide)) (g := (mkF m 8 #[.val (.ref o0), .val (.int p1), .val (.ref o2)] [(.int (0 : Int32)), (.ref o2), (.int p1), (.ref b1), (.ref b1), (.ref o0)])) rfl (by rw [hml]; rfl) (Steps.refl _) (a := b1) (argsL := [(.int p1), (.ref o2), (.int (0 : Int32))]) (rest := [(.ref b1), (.ref o0)]) (lenOf pd_12 rfl) rfl (by show 2 * 0 + _ ≤ _; exact Nat.le_of_eq rfl) (hb hby d483_8) (fun _ _ => ⟨rfl, e1, (by decide : 1 + 0 ≤ _), (by decide : 3 + 0 ≤ _)⟩)
  dsimp only [Pt.U, Pt.locs, Pt.cells, Pt.slots] at X7 l7 y7 z7' st7 hQ7
  subst l7 y7 z7'
  obtain ⟨rfl, N7q, K7, r0_7, r1_7⟩ := hQ7
  have N7 := Fr.app N0 N7q
  have J7 : Keep h0 T7.heap [o0, li, arr] := J1.trans K7 (allS (Or.inr sz_b1) all0)
  have c8 : Exa Z T7.heap o0 "com/example/tierline/tierline/csv/LineProblems" := ((E_o0.ext E1).keep K7)
  have c9 : Fld Z T7.heap o0 "com/example/tierline/tierline/csv/LineProblems" "count" "J" (.long cnt) := ((F_count_o0.ext E1).keep K7 (ninS ne2 nin0))
  have c10 : Fld Z T7.heap o0 "com/example/tierline/tierline/csv/LineProblems" "listed" "Ljava/util/List;" (.ref li) := ((F_listed_o0.ext E1).keep K7 (ninS ne2 nin0))
  have c11 : Exa Z T7.heap li "java/util/ArrayList" := ((E_li.ext E1).keep K7)
  have c12 : Fld Z T7.heap li "java/util/ArrayList" "size" "I" (.int (1 : Int32)) := ((F_size_li.ext E1).keep K7 (ninS ne3 nin0))
  have c13 : Fld Z T7.heap li "java/util/AbstractList" "modCount" "I" (.int mc) := ((F_modCount_li.ext E1).keep K7 (ninS ne3 nin0))
  have c14 : Fld Z T7.heap li "java/util/ArrayList" "elementData" "[Ljava/lang/Object;" (.ref arr) := ((F_elementData_li.ext E1).keep K7 (ninS ne3 nin0))
  have c15 : Arv Z T7.heap arr ka (.object "java/lang/Object") (10 : Int32) [(.ref x0)] .null := ((V_arr.ext E1).keep K7 (ninS ne4 nin0))
  have c16 : Exa Z T7.heap x0 "com/example/tierline/tierline/csv/LineProblems$Problem" := ((E_x0.ext E1).keep K7)
  have c17 : Fld Z T7.heap x0 "com/example/tierline/tierline/csv/LineProblems$Problem" "line" "I" (.int l0) := ((F_line_x0.ext E1).keep K7 (ninS ne5 nin0))
  have c18 : Fld Z T7.heap x0 "com/example/tierline/tierline/csv/LineProblems$Problem" "conflict" "Z" (.int c0) := ((F_conflict_x0.ext E1).keep K7 (ninS ne5 nin0))
  have c19 : Exa Z T7.heap b1 "com/example/tierline/tierline/csv/LineProblems$Problem" := (A1.keep K7)
  have ne20 : arr ≠ o0 := (Ne.symm (Exa.neArv c8 c15 (hw _ (List.mem_of_getElem? (i := 1) rfl))))
  have ne21 : li ≠ o0 := (ne_exa c11 c8 (by decide))
  have ne22 : x0 ≠ o0 := (ne_exa c16 c8 (by decide))
  have ne23 : arr ≠ li := (Ne.symm (Exa.neArv c11 c15 (hw _ (List.mem_of_getElem? (i := 18) rfl))))
  have ne24 : x0 ≠ li := (ne_exa c16 c11 (by decide))
  have ne25 : x0 ≠ arr := (Exa.neArv c16 c15 (hw _ (List.mem_of_getElem? (i := 81) rfl)))
  have z26 : n0 ≤ T7.heap.size := (Nat.le_trans z6 K7.1)
  obtain ⟨cq27, qh27, qh27'⟩ := c8.cell
  -- pc 12: LineProblems.add by rm485_1
  obtain ⟨_, _, ⟨T27, L27, k27, n27⟩, -, X27, ⟨Lc27, hQ27, l27, y27, z27'⟩, st27⟩ := X7.privateBack hx (y := (⟨"com/example/tierline/tierline/csv/LineProblems", "add", "(Lcom/example/tierline/tierline/csv/LineProblems$Problem;Z)V"⟩ : MethodName)) hown (mvT hZ (hw _ (List.mem_of_getElem? (i := 93) rfl))) (mvT hZ (hw _ (List.mem_of_getElem? (i := 94) rfl))) (own_selP hZ (hw _ (List.mem_of_getElem? (i := 1) rfl)) (hw _ (List.mem_of_getElem? (i := 95) rfl)) (hw _ (List.mem_of_getElem? (i := 94) rfl)) (by decide)) (Cond.privateMethod_at (mvP hZ (hw _ (List.mem_of_getElem? (i := 95) rfl)) (args := #[]))) (mvT hZ (hw _ (List.mem_of_getElem? (i := 96) rfl))) (by decide) (backOf (W := 0) (rm485_1 l Z a0 hw [] o0 b1 (1 : Int32) cnt li mc arr ka x0 l0 c0 p1 (nar .boolean (0 : Int32)) T7.heap n0 z26 c8 c9 c10 c11 c12 c13 g_o0 g_li c14 c15 ovr_ka g_arr c16 c17 c18 c19 r0_7 r1_7) hZ (hw _ (List.mem_of_getElem? (i := 96) rfl)) (hw _ (List.mem_of_getElem? (i := 2) rfl)) (by decide) (by decide)) (g := (mkF m 12 #[.val (.ref o0), .val (.int p1), .val (.ref o2)] [(.int (1 : Int32)), (.ref b1), (.ref o0)])) rfl (by rw [hml]; rfl) (Steps.refl _) (a := o0) qh27 qh27' (argsL := [(.ref b1), (.int (1 : Int32))]) (rest := []) (lenOf pd_13 rfl) rfl (by show 2 * 0 + _ ≤ _; exact Nat.le_of_eq rfl) (hb hby d483_12) (fun _ _ => ⟨rfl, rfl, (by decide : 1 + 0 ≤ _), (by decide : 3 + 0 ≤ _)⟩)
  dsimp only [Pt.U, Pt.locs, Pt.cells, Pt.slots] at X27 l27 y27 z27' st27 hQ27
  subst l27 y27 z27'
  obtain ⟨y0_27, m0_27, d0_27, y1_27, m1_27, d1_27, rfl, N27q, K27, r0_27, r1_27, r2_27, r3_27, r4_27, r5_27, r6_27, r7_27, r8_27, r9_27, r10_27, r11_27⟩ := hQ27
  have N27 := Fr.app N7 N27q
  have J27 : Keep h0 T27.heap [o0, li, arr] := J7.trans K27 (allS (Or.inl (List.mem_of_getElem? (i := 0) rfl)) (allS (Or.inl (List.mem_of_getElem? (i := 1) rfl)) (allS (Or.inl (List.mem_of_getElem? (i := 2) rfl)) all0)))
  obtain ⟨fs, hr, hrun, hended, hW, hsame⟩ := X27.leave (v := none) (fun _ => rfl)
  refine ⟨_, _, pre0 _ ?_, hrun, hended, _, _, rfl, ?_, ⟨_, rfl⟩, hW, hsame.mono (by decide) (by decide)⟩
  · show Steps p.tables e below (s₁.setTop (mkF m 0 #[.val (.ref o0), .val (.int p1), .val (.ref o2)] [])) _
    refine XS.aloadN X0.here hx rfl (hb hby d483_0) rfl rfl ?_
    show Steps p.tables e below (s₁.setTop (mkF m 1 #[.val (.ref o0), .val (.int p1), .val (.ref o2)] [(.ref o0)])) _
    refine st1 _ ?_
    show Steps p.tables e below (T1.setTop (mkF m 4 #[.val (.ref o0), .val (.int p1), .val (.ref o2)] [(.ref b1), (.ref o0)])) _
    refine XS.dup X1.here hx rfl (hb hby d483_4) rfl rfl ?_
    show Steps p.tables e below (T1.setTop (mkF m 5 #[.val (.ref o0), .val (.int p1), .val (.ref o2)] [(.ref b1), (.ref b1), (.ref o0)])) _
    refine XS.iloadN X1.here hx rfl (hb hby d483_5) rfl ?_
    show Steps p.tables e below (T1.setTop (mkF m 6 #[.val (.ref o0), .val (.int p1), .val (.ref o2)] [(.int p1), (.ref b1), (.ref b1), (.ref o0)])) _
    refine XS.aloadN X1.here hx rfl (hb hby d483_6) rfl rfl ?_
    show Steps p.tables e below (T1.setTop (mkF m 7 #[.val (.ref o0), .val (.int p1), .val (.ref o2)] [(.ref o2), (.int p1), (.ref b1), (.ref b1), (.ref o0)])) _
    refine XS.iconst X1.here hx rfl (hb hby d483_7) ?_
    show Steps p.tables e below (T1.setTop (mkF m 8 #[.val (.ref o0), .val (.int p1), .val (.ref o2)] [(.int (0 : Int32)), (.ref o2), (.int p1), (.ref b1), (.ref b1), (.ref o0)])) _
    refine st7.trans ?_
    show Steps p.tables e below (T7.setTop (mkF m 11 #[.val (.ref o0), .val (.int p1), .val (.ref o2)] [(.ref b1), (.ref o0)])) _
    refine XS.iconst X7.here hx rfl (hb hby d483_11) ?_
    show Steps p.tables e below (T7.setTop (mkF m 12 #[.val (.ref o0), .val (.int p1), .val (.ref o2)] [(.int (1 : Int32)), (.ref b1), (.ref o0)])) _
    refine st27.trans ?_
    show Steps p.tables e below (T27.setTop (mkF m 15 #[.val (.ref o0), .val (.int p1), .val (.ref o2)] [])) _
    exact X27.returnOut hx Bd.returns (hb hby d483_15) hr
  · show Q483_1 Z o0 p1 o2 cnt li mc arr ka x0 l0 c0 h0 n0 _ T27.heap _
    exact ⟨y0_27, m0_27, d0_27, y1_27, m1_27, d1_27, rfl, N27, J27, r0_27, r1_27, r2_27, r3_27, r4_27, r5_27, r6_27, r7_27, r8_27, r9_27, r10_27, r11_27⟩
theorem ef_2_1 (m : MethodId) (o0 : Addr) (p1 : Int32) (p2 : Int32) (p3 : Int32) : entryFrame m #[(.ref o0), (.int p1), (.int p2), (.int p3)] 5 = mkF m 0 #[.val (.ref o0), .val (.int p1), .val (.int p2), .val (.int p3), .unset] [] := by first | (simp [entryFrame, mkF, argsToLocals, Value.category]; done) | rfl
def Q2_1 (Z : State) (o0 : Addr) (p1 : Int32) (p2 : Int32) (p3 : Int32) (cnt : Int64) (li : Addr) (mc : Int32) (arr : Addr) (ka : ClassId) (x0 : Addr) (l0 : Int32) (c0 : Int32) (cs : Int32) (h0 : Heap) (n0 : Nat) (v : Option Value) (h : Heap) (L : List Loc) : Prop := ∃ y0 : Addr, ∃ m0 : Int32, ∃ d0 : Int32, ∃ y1 : Addr, ∃ m1 : Int32, ∃ d1 : Int32, v = none ∧ Fr n0 L ∧ Keep h0 h [o0, li, arr] ∧ Fld Z h o0 "com/example/tierline/tierline/csv/LineProblems" "count" "J" (.long (cnt + (1 : Int64))) ∧ Fld Z h o0 "com/example/tierline/tierline/csv/LineProblems" "listed" "Ljava/util/List;" (.ref li) ∧ Fld Z h li "java/util/ArrayList" "size" "I" (.int (2 : Int32)) ∧ Fld Z h li "java/util/AbstractList" "modCount" "I" (.int (mc + (1 : Int32))) ∧ Exa Z h y0 "com/example/tierline/tierline/csv/LineProblems$Problem" ∧ Fld Z h y0 "com/example/tierline/tierline/csv/LineProblems$Problem" "line" "I" (.int m0) ∧ Fld Z h y0 "com/example/tierline/tierline/csv/LineProblems$Problem" "conflict" "Z" (.int d0) ∧ Exa Z h y1 "com/example/tierline/tierline/csv/LineProblems$Problem" ∧ Fld Z h y1 "com/example/tierline/tierline/csv/LineProblems$Problem" "line" "I" (.int m1) ∧ Fld Z h y1 "com/example/tierline/tierline/csv/LineProblems$Problem" "conflict" "Z" (.int d1) ∧ Fld Z h li "java/util/ArrayList" "elementData" "[Ljava/lang/Object;" (.ref arr) ∧ Arv Z h arr ka (.object "java/lang/Object") (10 : Int32) [(.ref y0), (.ref y1)] .null
set_option maxRecDepth 65536 in
set_option maxHeartbeats 40000000 in
theorem rm2_1 (l : Launch) (Z : State) (a0 : Array Value) (hw : ∀ d ∈ tables_1, d.before a0 Z = true) (ws : List Jvm.Cond) (o0 : Addr) (p1 : Int32) (p2 : Int32) (p3 : Int32) (cnt : Int64) (li : Addr) (mc : Int32) (arr : Addr) (ka : ClassId) (x0 : Addr) (l0 : Int32) (c0 : Int32) (cs : Int32) (h0 : Heap) (n0 : Nat) (Z0 : n0 ≤ h0.size) (E_o0 : Exa Z h0 o0 "com/example/tierline/tierline/csv/LineProblems") (F_count_o0 : Fld Z h0 o0 "com/example/tierline/tierline/csv/LineProblems" "count" "J" (.long cnt)) (F_listed_o0 : Fld Z h0 o0 "com/example/tierline/tierline/csv/LineProblems" "listed" "Ljava/util/List;" (.ref li)) (E_li : Exa Z h0 li "java/util/ArrayList") (F_size_li : Fld Z h0 li "java/util/ArrayList" "size" "I" (.int (1 : Int32))) (F_modCount_li : Fld Z h0 li "java/util/AbstractList" "modCount" "I" (.int mc)) (g_o0 : n0 ≤ o0) (g_li : n0 ≤ li) (F_elementData_li : Fld Z h0 li "java/util/ArrayList" "elementData" "[Ljava/lang/Object;" (.ref arr)) (V_arr : Arv Z h0 arr ka (.object "java/lang/Object") (10 : Int32) [(.ref x0)] .null) (ovr_ka : Ovr Z ka "java/lang/Object") (g_arr : n0 ≤ arr) (E_x0 : Exa Z h0 x0 "com/example/tierline/tierline/csv/LineProblems$Problem") (F_line_x0 : Fld Z h0 x0 "com/example/tierline/tierline/csv/LineProblems$Problem" "line" "I" (.int l0)) (F_conflict_x0 : Fld Z h0 x0 "com/example/tierline/tierline/csv/LineProblems$Problem" "conflict" "Z" (.int c0)) (S_COMPACT_STRINGS : Sta Z h0 "java/lang/String" "COMPACT_STRINGS" "Z" (.int cs)) (hcs : ¬ cs = (0 : Int32)) :
    MetFree l (⟨"com/example/tierline/tierline/csv/LineProblemsIsEmptyPinLaw", "addOne", "(Lcom/example/tierline/tierline/csv/LineProblems;IIC)V"⟩ : MethodName) (head1 (Jvm.Cond.code (⟨"com/example/tierline/tierline/csv/LineProblemsIsEmptyPinLaw", "addOne", "(Lcom/example/tierline/tierline/csv/LineProblems;IIC)V"⟩ : MethodName) method_2_code 5 none :: ws) ({ frames := 5, cells := 3, slots := 8, locals := 69 } : Room)) (fun a U => a = #[(.ref o0), (.int p1), (.int p2), (.int p3)] ∧ Z.Warmed39 U.vm ∧ U.heap = h0) (fun _ _ _ _ _ => True) (fun _ U o U' => ∃ v L, o = .returned v ∧ Q2_1 Z o0 p1 p2 p3 cnt li mc arr ka x0 l0 c0 cs h0 n0 v U'.heap L ∧ FrameEnd U o U' L ({ frames := 5, cells := 3, slots := 8, locals := 69 } : Room).cells ({ frames := 5, cells := 3, slots := 8, locals := 69 } : Room).slots) := by
  refine MetFree.of_bodySF (plainFor_of_name pn_com_example_tierline_tierline_csv_LineProblemsIsEmptyPinLaw) hisR ?_
  intro p e s m args below meth c s₁ Bd hml0 hP hK
  obtain ⟨rfl, hZ, hh⟩ := hP
  have hx := Bd.exec
  have hby := Bd.bytes
  have hml : c.maxLocals = 5 := hml0
  have hown : s.vm.findClass "com/example/tierline/tierline/csv/LineProblemsIsEmptyPinLaw" = some m.cls := findClass_of_methodNamed Bd.named
  have hnm := (name_of_methodNamed Bd.named Bd.method).1
  have X0 : Stand p l e ({ frames := 5, cells := 3, slots := 8, locals := 69 } : Room) s m #[(.ref o0), (.int p1), (.int p2), (.int p3)] below meth c s₁ [] 0 0 := Stand.of_body Bd
  have e0 : s₁.heap = h0 := by rw [← hh, Bd.state]; rfl
  have N0 := Fr.nil n0
  have pre0 : ∀ t, Steps p.tables e below (s₁.setTop (mkF m 0 #[.val (.ref o0), .val (.int p1), .val (.int p2), .val (.int p3), .unset] [])) t → Steps p.tables e below (s₁.setTop (entryFrame m #[(.ref o0), (.int p1), (.int p2), (.int p3)] 5)) t := fun t k => castTop (ef_2_1 m o0 p1 p2 p3) k
  -- pc 6: String.valueOf by rm139
  obtain ⟨_, _, ⟨T1, L1, k1, n1⟩, -, X1, ⟨Lc1, hQ1, l1, y1, z1'⟩, st1⟩ := Jvm.LawKit.callS X0 hx (y := (⟨"java/lang/String", "valueOf", "(C)Ljava/lang/String;"⟩ : MethodName)) hown (mvT hZ (hw _ (List.mem_of_getElem? (i := 56) rfl))) (mvT hZ (hw _ (List.mem_of_getElem? (i := 57) rfl))) (mvT hZ (hw _ (List.mem_of_getElem? (i := 4) rfl))) (mvT hZ (hw _ (List.mem_of_getElem? (i := 58) rfl))) (by decide) (backOf (W := 0) (rm139 l Z a0 hw [] ((p3 &&& (255 : Int32)).toUInt32.toUInt16.toUInt32.toInt32) cs h0 n0 Z0 S_COMPACT_STRINGS hcs (own_char _)) hZ (hw _ (List.mem_of_getElem? (i := 58) rfl)) (hw _ (List.mem_of_getElem? (i := 4) rfl)) (by decide) (by decide)) (g := (mkF m 6 #[.val (.ref o0), .val (.int p1), .val (.int p2), .val (.int p3), .unset] [(.int ((p3 &&& (255 : Int32)).toUInt32.toUInt16.toUInt32.toInt32))])) rfl (by rw [hml]; rfl) (argsL := [(.int ((p3 &&& (255 : Int32)).toUInt32.toUInt16.toUInt32.toInt32))]) (rest := []) (lenOf pd_14 rfl) rfl (by show 2 * 0 + _ ≤ _; exact Nat.le_of_eq rfl) (hb hby d2_6) (fun _ _ => ⟨rfl, e0, (by decide : 0 + 2 ≤ _), (by decide : 0 + 5 ≤ _)⟩)
  dsimp only [Pt.U, Pt.locs, Pt.cells, Pt.slots] at X1 l1 y1 z1' st1 hQ1
  subst l1 y1 z1'
  obtain ⟨b_1, rfl, N1q, K1, r0_1⟩ := hQ1
  have N1 := Fr.app N0 N1q
  have J1 : Keep h0 T1.heap [o0, li, arr] := (Keep.refl h0 [o0, li, arr]).trans K1 all0
  have g_b_1 : n0 ≤ b_1 := Nat.le_trans Z0 r0_1
  have sz_b_1 : h0.size ≤ b_1 := Nat.le_trans (Keep.refl h0 [o0, li, arr]).1 r0_1
  have ne2 : o0 ≠ b_1 := Nat.ne_of_lt (Nat.lt_of_lt_of_le E_o0.lt r0_1)
  have ne3 : li ≠ b_1 := Nat.ne_of_lt (Nat.lt_of_lt_of_le E_li.lt r0_1)
  have ne4 : arr ≠ b_1 := Nat.ne_of_lt (Nat.lt_of_lt_of_le V_arr.lt r0_1)
  have ne5 : x0 ≠ b_1 := Nat.ne_of_lt (Nat.lt_of_lt_of_le E_x0.lt r0_1)
  have pre6 : ∀ t, Steps p.tables e below (T1.setTop (mkF m 13 #[.val (.ref o0), .val (.int p1), .val (.int p2), .val (.int p3), .val (.ref b_1)] [(.int (1 : Int32)), (.int p1)])) t → Steps p.tables e below (s₁.setTop (entryFrame m #[(.ref o0), (.int p1), (.int p2), (.int p3)] 5)) t := by
    intro t kt
    refine pre0 _ ?_
    show Steps p.tables e below (s₁.setTop (mkF m 0 #[.val (.ref o0), .val (.int p1), .val (.int p2), .val (.int p3), .unset] [])) _
    refine XS.iloadN X0.here hx rfl (hb hby d2_0) rfl ?_
    show Steps p.tables e below (s₁.setTop (mkF m 1 #[.val (.ref o0), .val (.int p1), .val (.int p2), .val (.int p3), .unset] [(.int p3)])) _
    refine XS.sipush X0.here hx rfl (hb hby d2_1) ?_
    show Steps p.tables e below (s₁.setTop (mkF m 4 #[.val (.ref o0), .val (.int p1), .val (.int p2), .val (.int p3), .unset] [(.int (255 : Int32)), (.int p3)])) _
    refine XS.iand X0.here hx rfl (hb hby d2_4) rfl ?_
    show Steps p.tables e below (s₁.setTop (mkF m 5 #[.val (.ref o0), .val (.int p1), .val (.int p2), .val (.int p3), .unset] [(.int (p3 &&& (255 : Int32)))])) _
    refine XS.i2c X0.here hx rfl (hb hby d2_5) rfl ?_
    show Steps p.tables e below (s₁.setTop (mkF m 6 #[.val (.ref o0), .val (.int p1), .val (.int p2), .val (.int p3), .unset] [(.int ((p3 &&& (255 : Int32)).toUInt32.toUInt16.toUInt32.toInt32))])) _
    refine st1 _ ?_
    show Steps p.tables e below (T1.setTop (mkF m 9 #[.val (.ref o0), .val (.int p1), .val (.int p2), .val (.int p3), .unset] [(.ref b_1)])) _
    refine XS.astore X1.here hx rfl (hb hby d2_9) rfl rfl (l' := #[.val (.ref o0), .val (.int p1), .val (.int p2), .val (.int p3), .val (.ref b_1)]) rfl ?_
    show Steps p.tables e below (T1.setTop (mkF m 11 #[.val (.ref o0), .val (.int p1), .val (.int p2), .val (.int p3), .val (.ref b_1)] [])) _
    refine XS.iloadN X1.here hx rfl (hb hby d2_11) rfl ?_
    show Steps p.tables e below (T1.setTop (mkF m 12 #[.val (.ref o0), .val (.int p1), .val (.int p2), .val (.int p3), .val (.ref b_1)] [(.int p1)])) _
    refine XS.iconst X1.here hx rfl (hb hby d2_12) ?_
    exact kt
  by_cases hc13_7 : p1 = (1 : Int32)
  · skip
    have c8 : Exa Z T1.heap o0 "com/example/tierline/tierline/csv/LineProblems" := (E_o0.keep K1)
    have c9 : Fld Z T1.heap o0 "com/example/tierline/tierline/csv/LineProblems" "count" "J" (.long cnt) := (F_count_o0.keep K1 nin0)
    have c10 : Fld Z T1.heap o0 "com/example/tierline/tierline/csv/LineProblems" "listed" "Ljava/util/List;" (.ref li) := (F_listed_o0.keep K1 nin0)
    have c11 : Exa Z T1.heap li "java/util/ArrayList" := (E_li.keep K1)
    have c12 : Fld Z T1.heap li "java/util/ArrayList" "size" "I" (.int (1 : Int32)) := (F_size_li.keep K1 nin0)
    have c13 : Fld Z T1.heap li "java/util/AbstractList" "modCount" "I" (.int mc) := (F_modCount_li.keep K1 nin0)
    have c14 : Fld Z T1.heap li "java/util/ArrayList" "elementData" "[Ljava/lang/Object;" (.ref arr) := (F_elementData_li.keep K1 nin0)
    have c15 : Arv Z T1.heap arr ka (.object "java/lang/Object") (10 : Int32) [(.ref x0)] .null := (V_arr.keep K1 nin0)
    have c16 : Exa Z T1.heap x0 "com/example/tierline/tierline/csv/LineProblems$Problem" := (E_x0.keep K1)
    have c17 : Fld Z T1.heap x0 "com/example/tierline/tierline/csv/LineProblems$Problem" "line" "I" (.int l0) := (F_line_x0.keep K1 nin0)
    have c18 : Fld Z T1.heap x0 "com/example/tierline/tierline/csv/LineProblems$Problem" "conflict" "Z" (.int c0) := (F_conflict_x0.keep K1 nin0)
    have ne19 : arr ≠ o0 := (Ne.symm (Exa.neArv c8 c15 (hw _ (List.mem_of_getElem? (i := 1) rfl))))
    have ne20 : li ≠ o0 := (ne_exa c11 c8 (by decide))
    have ne21 : x0 ≠ o0 := (ne_exa c16 c8 (by decide))
    have ne22 : arr ≠ li := (Ne.symm (Exa.neArv c11 c15 (hw _ (List.mem_of_getElem? (i := 18) rfl))))
    have ne23 : x0 ≠ li := (ne_exa c16 c11 (by decide))
    have ne24 : x0 ≠ arr := (Exa.neArv c16 c15 (hw _ (List.mem_of_getElem? (i := 81) rfl)))
    have z25 : n0 ≤ T1.heap.size := (Nat.le_trans Z0 K1.1)
    obtain ⟨cq26, kq26, q26a, q26b, q26c⟩ := isOf hZ rfl c8
    -- pc 20: LineProblems.addAheadOnLine by rm483_1
    obtain ⟨_, _, ⟨T26, L26, k26, n26⟩, -, X26, ⟨Lc26, hQ26, l26, y26, z26'⟩, st26⟩ := X1.virtualBack hx (y := (⟨"com/example/tierline/tierline/csv/LineProblems", "addAheadOnLine", "(ILjava/lang/String;)V"⟩ : MethodName)) (z := (⟨"com/example/tierline/tierline/csv/LineProblems", "addAheadOnLine", "(ILjava/lang/String;)V"⟩ : MethodName)) hown (mvT hZ (hw _ (List.mem_of_getElem? (i := 176) rfl))) (mvT hZ (hw _ (List.mem_of_getElem? (i := 177) rfl))) (notFace_of_selects (args := #[]) (mvT hZ (hw _ (List.mem_of_getElem? (i := 179) rfl)))) (mvT hZ (hw _ (List.mem_of_getElem? (i := 179) rfl))) (mvT hZ (hw _ (List.mem_of_getElem? (i := 178) rfl))) (by decide) (backOf (W := 0) (rm483_1 l Z a0 hw [] o0 p2 b_1 cnt li mc arr ka x0 l0 c0 T1.heap n0 z25 c8 c9 c10 c11 c12 c13 g_o0 g_li c14 c15 ovr_ka g_arr c16 c17 c18) hZ (hw _ (List.mem_of_getElem? (i := 180) rfl)) (hw _ (List.mem_of_getElem? (i := 2) rfl)) (by decide) (by decide)) q26a q26c (g := (mkF m 20 #[.val (.ref o0), .val (.int p1), .val (.int p2), .val (.int p3), .val (.ref b_1)] [(.ref b_1), (.int p2), (.ref o0)])) rfl (by rw [hml]; rfl) (Steps.refl _) (argsL := [(.int p2), (.ref b_1)]) (rest := []) (lenOf pd_15 rfl) rfl (by show 2 * 0 + _ ≤ _; exact Nat.le_of_eq rfl) (hb hby d2_20) (fun _ _ => ⟨rfl, rfl, (by decide : 2 + 1 ≤ _), (by decide : 5 + 3 ≤ _)⟩)
    dsimp only [Pt.U, Pt.locs, Pt.cells, Pt.slots] at X26 l26 y26 z26' st26 hQ26
    subst l26 y26 z26'
    obtain ⟨y0_26, m0_26, d0_26, y1_26, m1_26, d1_26, rfl, N26q, K26, r0_26, r1_26, r2_26, r3_26, r4_26, r5_26, r6_26, r7_26, r8_26, r9_26, r10_26, r11_26⟩ := hQ26
    have N26 := Fr.app N1 N26q
    have J26 : Keep h0 T26.heap [o0, li, arr] := J1.trans K26 (allS (Or.inl (List.mem_of_getElem? (i := 0) rfl)) (allS (Or.inl (List.mem_of_getElem? (i := 1) rfl)) (allS (Or.inl (List.mem_of_getElem? (i := 2) rfl)) all0)))
    obtain ⟨fs, hr, hrun, hended, hW, hsame⟩ := X26.leave (v := none) (fun _ => rfl)
    refine ⟨_, _, pre6 _ ?_, hrun, hended, _, _, rfl, ?_, ⟨_, rfl⟩, hW, hsame.mono (by decide) (by decide)⟩
    · show Steps p.tables e below (T1.setTop (mkF m 13 #[.val (.ref o0), .val (.int p1), .val (.int p2), .val (.int p3), .val (.ref b_1)] [(.int (1 : Int32)), (.int p1)])) _
      refine XS.icmpNo X1.here hx rfl (hb hby d2_13) rfl (teq hc13_7).2 ?_
      show Steps p.tables e below (T1.setTop (mkF m 16 #[.val (.ref o0), .val (.int p1), .val (.int p2), .val (.int p3), .val (.ref b_1)] [])) _
      refine XS.aloadN X1.here hx rfl (hb hby d2_16) rfl rfl ?_
      show Steps p.tables e below (T1.setTop (mkF m 17 #[.val (.ref o0), .val (.int p1), .val (.int p2), .val (.int p3), .val (.ref b_1)] [(.ref o0)])) _
      refine XS.iloadN X1.here hx rfl (hb hby d2_17) rfl ?_
      show Steps p.tables e below (T1.setTop (mkF m 18 #[.val (.ref o0), .val (.int p1), .val (.int p2), .val (.int p3), .val (.ref b_1)] [(.int p2), (.ref o0)])) _
      refine XS.aload X1.here hx rfl (hb hby d2_18) rfl rfl ?_
      show Steps p.tables e below (T1.setTop (mkF m 20 #[.val (.ref o0), .val (.int p1), .val (.int p2), .val (.int p3), .val (.ref b_1)] [(.ref b_1), (.int p2), (.ref o0)])) _
      refine st26.trans ?_
      show Steps p.tables e below (T26.setTop (mkF m 23 #[.val (.ref o0), .val (.int p1), .val (.int p2), .val (.int p3), .val (.ref b_1)] [])) _
      refine XS.goto X26.here hx rfl (pc0 := 23) (pc' := 48) rfl (hb hby d2_23) (by decide) (by decide) ?_
      show Steps p.tables e below (T26.setTop (mkF m 48 #[.val (.ref o0), .val (.int p1), .val (.int p2), .val (.int p3), .val (.ref b_1)] [])) _
      exact X26.returnOut hx Bd.returns (hb hby d2_48) hr
    · show Q2_1 Z o0 p1 p2 p3 cnt li mc arr ka x0 l0 c0 cs h0 n0 _ T26.heap _
      exact ⟨y0_26, m0_26, d0_26, y1_26, m1_26, d1_26, rfl, N26, J26, r0_26, r1_26, r2_26, r3_26, r4_26, r5_26, r6_26, r7_26, r8_26, r9_26, r10_26, r11_26⟩
  · skip
    have pre27 : ∀ t, Steps p.tables e below (T1.setTop (mkF m 28 #[.val (.ref o0), .val (.int p1), .val (.int p2), .val (.int p3), .val (.ref b_1)] [(.int (2 : Int32)), (.int p1)])) t → Steps p.tables e below (s₁.setTop (entryFrame m #[(.ref o0), (.int p1), (.int p2), (.int p3)] 5)) t := by
      intro t kt
      refine pre6 _ ?_
      show Steps p.tables e below (T1.setTop (mkF m 13 #[.val (.ref o0), .val (.int p1), .val (.int p2), .val (.int p3), .val (.ref b_1)] [(.int (1 : Int32)), (.int p1)])) _
      refine XS.icmpYes X1.here hx rfl (pc0 := 13) (pc' := 26) rfl (hb hby d2_13) rfl (feq hc13_7).2 (by decide) (by decide) ?_
      show Steps p.tables e below (T1.setTop (mkF m 26 #[.val (.ref o0), .val (.int p1), .val (.int p2), .val (.int p3), .val (.ref b_1)] [])) _
      refine XS.iloadN X1.here hx rfl (hb hby d2_26) rfl ?_
      show Steps p.tables e below (T1.setTop (mkF m 27 #[.val (.ref o0), .val (.int p1), .val (.int p2), .val (.int p3), .val (.ref b_1)] [(.int p1)])) _
      refine XS.iconst X1.here hx rfl (hb hby d2_27) ?_
      exact kt
    by_cases hc28_28 : p1 = (2 : Int32)
    · skip
      have c29 : Exa Z T1.heap o0 "com/example/tierline/tierline/csv/LineProblems" := (E_o0.keep K1)
      have c30 : Fld Z T1.heap o0 "com/example/tierline/tierline/csv/LineProblems" "count" "J" (.long cnt) := (F_count_o0.keep K1 nin0)
      have c31 : Fld Z T1.heap o0 "com/example/tierline/tierline/csv/LineProblems" "listed" "Ljava/util/List;" (.ref li) := (F_listed_o0.keep K1 nin0)
      have c32 : Exa Z T1.heap li "java/util/ArrayList" := (E_li.keep K1)
      have c33 : Fld Z T1.heap li "java/util/ArrayList" "size" "I" (.int (1 : Int32)) := (F_size_li.keep K1 nin0)
      have c34 : Fld Z T1.heap li "java/util/AbstractList" "modCount" "I" (.int mc) := (F_modCount_li.keep K1 nin0)
      have c35 : Fld Z T1.heap li "java/util/ArrayList" "elementData" "[Ljava/lang/Object;" (.ref arr) := (F_elementData_li.keep K1 nin0)
      have c36 : Arv Z T1.heap arr ka (.object "java/lang/Object") (10 : Int32) [(.ref x0)] .null := (V_arr.keep K1 nin0)
      have c37 : Exa Z T1.heap x0 "com/example/tierline/tierline/csv/LineProblems$Problem" := (E_x0.keep K1)
      have c38 : Fld Z T1.heap x0 "com/example/tierline/tierline/csv/LineProblems$Problem" "line" "I" (.int l0) := (F_line_x0.keep K1 nin0)
      have c39 : Fld Z T1.heap x0 "com/example/tierline/tierline/csv/LineProblems$Problem" "conflict" "Z" (.int c0) := (F_conflict_x0.keep K1 nin0)
      have ne40 : arr ≠ o0 := (Ne.symm (Exa.neArv c29 c36 (hw _ (List.mem_of_getElem? (i := 1) rfl))))
      have ne41 : li ≠ o0 := (ne_exa c32 c29 (by decide))
      have ne42 : x0 ≠ o0 := (ne_exa c37 c29 (by decide))
      have ne43 : arr ≠ li := (Ne.symm (Exa.neArv c32 c36 (hw _ (List.mem_of_getElem? (i := 18) rfl))))
      have ne44 : x0 ≠ li := (ne_exa c37 c32 (by decide))
      have ne45 : x0 ≠ arr := (Exa.neArv c37 c36 (hw _ (List.mem_of_getElem? (i := 81) rfl)))
      have z46 : n0 ≤ T1.heap.size := (Nat.le_trans Z0 K1.1)
      obtain ⟨cq47, kq47, q47a, q47b, q47c⟩ := isOf hZ rfl c29
      -- pc 35: LineProblems.addConflict by rm484_1
      obtain ⟨_, _, ⟨T47, L47, k47, n47⟩, -, X47, ⟨Lc47, hQ47, l47, y47, z47'⟩, st47⟩ := X1.virtualBack hx (y := (⟨"com/example/tierline/tierline/csv/LineProblems", "addConflict", "(ILjava/lang/String;)V"⟩ : MethodName)) (z := (⟨"com/example/tierline/tierline/csv/LineProblems", "addConflict", "(ILjava/lang/String;)V"⟩ : MethodName)) hown (mvT hZ (hw _ (List.mem_of_getElem? (i := 144) rfl))) (mvT hZ (hw _ (List.mem_of_getElem? (i := 145) rfl))) (notFace_of_selects (args := #[]) (mvT hZ (hw _ (List.mem_of_getElem? (i := 147) rfl)))) (mvT hZ (hw _ (List.mem_of_getElem? (i := 147) rfl))) (mvT hZ (hw _ (List.mem_of_getElem? (i := 146) rfl))) (by decide) (backOf (W := 0) (rm484_1 l Z a0 hw [] o0 p2 b_1 cnt li mc arr ka x0 l0 c0 T1.heap n0 z46 c29 c30 c31 c32 c33 c34 g_o0 g_li c35 c36 ovr_ka g_arr c37 c38 c39) hZ (hw _ (List.mem_of_getElem? (i := 148) rfl)) (hw _ (List.mem_of_getElem? (i := 2) rfl)) (by decide) (by decide)) q47a q47c (g := (mkF m 35 #[.val (.ref o0), .val (.int p1), .val (.int p2), .val (.int p3), .val (.ref b_1)] [(.ref b_1), (.int p2), (.ref o0)])) rfl (by rw [hml]; rfl) (Steps.refl _) (argsL := [(.int p2), (.ref b_1)]) (rest := []) (lenOf pd_15 rfl) rfl (by show 2 * 0 + _ ≤ _; exact Nat.le_of_eq rfl) (hb hby d2_35) (fun _ _ => ⟨rfl, rfl, (by decide : 2 + 1 ≤ _), (by decide : 5 + 3 ≤ _)⟩)
      dsimp only [Pt.U, Pt.locs, Pt.cells, Pt.slots] at X47 l47 y47 z47' st47 hQ47
      subst l47 y47 z47'
      obtain ⟨y0_47, m0_47, d0_47, y1_47, m1_47, d1_47, rfl, N47q, K47, r0_47, r1_47, r2_47, r3_47, r4_47, r5_47, r6_47, r7_47, r8_47, r9_47, r10_47, r11_47⟩ := hQ47
      have N47 := Fr.app N1 N47q
      have J47 : Keep h0 T47.heap [o0, li, arr] := J1.trans K47 (allS (Or.inl (List.mem_of_getElem? (i := 0) rfl)) (allS (Or.inl (List.mem_of_getElem? (i := 1) rfl)) (allS (Or.inl (List.mem_of_getElem? (i := 2) rfl)) all0)))
      obtain ⟨fs, hr, hrun, hended, hW, hsame⟩ := X47.leave (v := none) (fun _ => rfl)
      refine ⟨_, _, pre27 _ ?_, hrun, hended, _, _, rfl, ?_, ⟨_, rfl⟩, hW, hsame.mono (by decide) (by decide)⟩
      · show Steps p.tables e below (T1.setTop (mkF m 28 #[.val (.ref o0), .val (.int p1), .val (.int p2), .val (.int p3), .val (.ref b_1)] [(.int (2 : Int32)), (.int p1)])) _
        refine XS.icmpNo X1.here hx rfl (hb hby d2_28) rfl (teq hc28_28).2 ?_
        show Steps p.tables e below (T1.setTop (mkF m 31 #[.val (.ref o0), .val (.int p1), .val (.int p2), .val (.int p3), .val (.ref b_1)] [])) _
        refine XS.aloadN X1.here hx rfl (hb hby d2_31) rfl rfl ?_
        show Steps p.tables e below (T1.setTop (mkF m 32 #[.val (.ref o0), .val (.int p1), .val (.int p2), .val (.int p3), .val (.ref b_1)] [(.ref o0)])) _
        refine XS.iloadN X1.here hx rfl (hb hby d2_32) rfl ?_
        show Steps p.tables e below (T1.setTop (mkF m 33 #[.val (.ref o0), .val (.int p1), .val (.int p2), .val (.int p3), .val (.ref b_1)] [(.int p2), (.ref o0)])) _
        refine XS.aload X1.here hx rfl (hb hby d2_33) rfl rfl ?_
        show Steps p.tables e below (T1.setTop (mkF m 35 #[.val (.ref o0), .val (.int p1), .val (.int p2), .val (.int p3), .val (.ref b_1)] [(.ref b_1), (.int p2), (.ref o0)])) _
        refine st47.trans ?_
        show Steps p.tables e below (T47.setTop (mkF m 38 #[.val (.ref o0), .val (.int p1), .val (.int p2), .val (.int p3), .val (.ref b_1)] [])) _
        refine XS.goto X47.here hx rfl (pc0 := 38) (pc' := 48) rfl (hb hby d2_38) (by decide) (by decide) ?_
        show Steps p.tables e below (T47.setTop (mkF m 48 #[.val (.ref o0), .val (.int p1), .val (.int p2), .val (.int p3), .val (.ref b_1)] [])) _
        exact X47.returnOut hx Bd.returns (hb hby d2_48) hr
      · show Q2_1 Z o0 p1 p2 p3 cnt li mc arr ka x0 l0 c0 cs h0 n0 _ T47.heap _
        exact ⟨y0_47, m0_47, d0_47, y1_47, m1_47, d1_47, rfl, N47, J47, r0_47, r1_47, r2_47, r3_47, r4_47, r5_47, r6_47, r7_47, r8_47, r9_47, r10_47, r11_47⟩
    · skip
      have c48 : Exa Z T1.heap o0 "com/example/tierline/tierline/csv/LineProblems" := (E_o0.keep K1)
      have c49 : Fld Z T1.heap o0 "com/example/tierline/tierline/csv/LineProblems" "count" "J" (.long cnt) := (F_count_o0.keep K1 nin0)
      have c50 : Fld Z T1.heap o0 "com/example/tierline/tierline/csv/LineProblems" "listed" "Ljava/util/List;" (.ref li) := (F_listed_o0.keep K1 nin0)
      have c51 : Exa Z T1.heap li "java/util/ArrayList" := (E_li.keep K1)
      have c52 : Fld Z T1.heap li "java/util/ArrayList" "size" "I" (.int (1 : Int32)) := (F_size_li.keep K1 nin0)
      have c53 : Fld Z T1.heap li "java/util/AbstractList" "modCount" "I" (.int mc) := (F_modCount_li.keep K1 nin0)
      have c54 : Fld Z T1.heap li "java/util/ArrayList" "elementData" "[Ljava/lang/Object;" (.ref arr) := (F_elementData_li.keep K1 nin0)
      have c55 : Arv Z T1.heap arr ka (.object "java/lang/Object") (10 : Int32) [(.ref x0)] .null := (V_arr.keep K1 nin0)
      have c56 : Exa Z T1.heap x0 "com/example/tierline/tierline/csv/LineProblems$Problem" := (E_x0.keep K1)
      have c57 : Fld Z T1.heap x0 "com/example/tierline/tierline/csv/LineProblems$Problem" "line" "I" (.int l0) := (F_line_x0.keep K1 nin0)
      have c58 : Fld Z T1.heap x0 "com/example/tierline/tierline/csv/LineProblems$Problem" "conflict" "Z" (.int c0) := (F_conflict_x0.keep K1 nin0)
      have ne59 : arr ≠ o0 := (Ne.symm (Exa.neArv c48 c55 (hw _ (List.mem_of_getElem? (i := 1) rfl))))
      have ne60 : li ≠ o0 := (ne_exa c51 c48 (by decide))
      have ne61 : x0 ≠ o0 := (ne_exa c56 c48 (by decide))
      have ne62 : arr ≠ li := (Ne.symm (Exa.neArv c51 c55 (hw _ (List.mem_of_getElem? (i := 18) rfl))))
      have ne63 : x0 ≠ li := (ne_exa c56 c51 (by decide))
      have ne64 : x0 ≠ arr := (Exa.neArv c56 c55 (hw _ (List.mem_of_getElem? (i := 81) rfl)))
      have z65 : n0 ≤ T1.heap.size := (Nat.le_trans Z0 K1.1)
      obtain ⟨cq66, kq66, q66a, q66b, q66c⟩ := isOf hZ rfl c48
      -- pc 45: LineProblems.add by rm482_1
      obtain ⟨_, _, ⟨T66, L66, k66, n66⟩, -, X66, ⟨Lc66, hQ66, l66, y66, z66'⟩, st66⟩ := X1.virtualBack hx (y := (⟨"com/example/tierline/tierline/csv/LineProblems", "add", "(ILjava/lang/String;)V"⟩ : MethodName)) (z := (⟨"com/example/tierline/tierline/csv/LineProblems", "add", "(ILjava/lang/String;)V"⟩ : MethodName)) hown (mvT hZ (hw _ (List.mem_of_getElem? (i := 75) rfl))) (mvT hZ (hw _ (List.mem_of_getElem? (i := 76) rfl))) (notFace_of_selects (args := #[]) (mvT hZ (hw _ (List.mem_of_getElem? (i := 78) rfl)))) (mvT hZ (hw _ (List.mem_of_getElem? (i := 78) rfl))) (mvT hZ (hw _ (List.mem_of_getElem? (i := 77) rfl))) (by decide) (backOf (W := 0) (rm482_1 l Z a0 hw [] o0 p2 b_1 cnt li mc arr ka x0 l0 c0 T1.heap n0 z65 c48 c49 c50 c51 c52 c53 g_o0 g_li c54 c55 ovr_ka g_arr c56 c57 c58) hZ (hw _ (List.mem_of_getElem? (i := 79) rfl)) (hw _ (List.mem_of_getElem? (i := 2) rfl)) (by decide) (by decide)) q66a q66c (g := (mkF m 45 #[.val (.ref o0), .val (.int p1), .val (.int p2), .val (.int p3), .val (.ref b_1)] [(.ref b_1), (.int p2), (.ref o0)])) rfl (by rw [hml]; rfl) (Steps.refl _) (argsL := [(.int p2), (.ref b_1)]) (rest := []) (lenOf pd_15 rfl) rfl (by show 2 * 0 + _ ≤ _; exact Nat.le_of_eq rfl) (hb hby d2_45) (fun _ _ => ⟨rfl, rfl, (by decide : 2 + 1 ≤ _), (by decide : 5 + 3 ≤ _)⟩)
      dsimp only [Pt.U, Pt.locs, Pt.cells, Pt.slots] at X66 l66 y66 z66' st66 hQ66
      subst l66 y66 z66'
      obtain ⟨y0_66, m0_66, d0_66, y1_66, m1_66, d1_66, rfl, N66q, K66, r0_66, r1_66, r2_66, r3_66, r4_66, r5_66, r6_66, r7_66, r8_66, r9_66, r10_66, r11_66⟩ := hQ66
      have N66 := Fr.app N1 N66q
      have J66 : Keep h0 T66.heap [o0, li, arr] := J1.trans K66 (allS (Or.inl (List.mem_of_getElem? (i := 0) rfl)) (allS (Or.inl (List.mem_of_getElem? (i := 1) rfl)) (allS (Or.inl (List.mem_of_getElem? (i := 2) rfl)) all0)))
      obtain ⟨fs, hr, hrun, hended, hW, hsame⟩ := X66.leave (v := none) (fun _ => rfl)
      refine ⟨_, _, pre27 _ ?_, hrun, hended, _, _, rfl, ?_, ⟨_, rfl⟩, hW, hsame.mono (by decide) (by decide)⟩
      · show Steps p.tables e below (T1.setTop (mkF m 28 #[.val (.ref o0), .val (.int p1), .val (.int p2), .val (.int p3), .val (.ref b_1)] [(.int (2 : Int32)), (.int p1)])) _
        refine XS.icmpYes X1.here hx rfl (pc0 := 28) (pc' := 41) rfl (hb hby d2_28) rfl (feq hc28_28).2 (by decide) (by decide) ?_
        show Steps p.tables e below (T1.setTop (mkF m 41 #[.val (.ref o0), .val (.int p1), .val (.int p2), .val (.int p3), .val (.ref b_1)] [])) _
        refine XS.aloadN X1.here hx rfl (hb hby d2_41) rfl rfl ?_
        show Steps p.tables e below (T1.setTop (mkF m 42 #[.val (.ref o0), .val (.int p1), .val (.int p2), .val (.int p3), .val (.ref b_1)] [(.ref o0)])) _
        refine XS.iloadN X1.here hx rfl (hb hby d2_42) rfl ?_
        show Steps p.tables e below (T1.setTop (mkF m 43 #[.val (.ref o0), .val (.int p1), .val (.int p2), .val (.int p3), .val (.ref b_1)] [(.int p2), (.ref o0)])) _
        refine XS.aload X1.here hx rfl (hb hby d2_43) rfl rfl ?_
        show Steps p.tables e below (T1.setTop (mkF m 45 #[.val (.ref o0), .val (.int p1), .val (.int p2), .val (.int p3), .val (.ref b_1)] [(.ref b_1), (.int p2), (.ref o0)])) _
        refine st66.trans ?_
        show Steps p.tables e below (T66.setTop (mkF m 48 #[.val (.ref o0), .val (.int p1), .val (.int p2), .val (.int p3), .val (.ref b_1)] [])) _
        exact X66.returnOut hx Bd.returns (hb hby d2_48) hr
      · show Q2_1 Z o0 p1 p2 p3 cnt li mc arr ka x0 l0 c0 cs h0 n0 _ T66.heap _
        exact ⟨y0_66, m0_66, d0_66, y1_66, m1_66, d1_66, rfl, N66, J66, r0_66, r1_66, r2_66, r3_66, r4_66, r5_66, r6_66, r7_66, r8_66, r9_66, r10_66, r11_66⟩
theorem ef_485_2 (m : MethodId) (o0 : Addr) (o1 : Addr) (p2 : Int32) : entryFrame m #[(.ref o0), (.ref o1), (.int p2)] 4 = mkF m 0 #[.val (.ref o0), .val (.ref o1), .val (.int p2), .unset] [] := by first | (simp [entryFrame, mkF, argsToLocals, Value.category]; done) | rfl
def Q485_2 (Z : State) (o0 : Addr) (o1 : Addr) (p2 : Int32) (cnt : Int64) (li : Addr) (mc : Int32) (arr : Addr) (ka : ClassId) (x0 : Addr) (l0 : Int32) (c0 : Int32) (x1 : Addr) (l1 : Int32) (c1 : Int32) (lo : Int32) (co : Int32) (h0 : Heap) (n0 : Nat) (v : Option Value) (h : Heap) (L : List Loc) : Prop := v = none ∧ Fr n0 L ∧ Keep h0 h [o0, li, arr] ∧ Fld Z h o0 "com/example/tierline/tierline/csv/LineProblems" "count" "J" (.long (cnt + (1 : Int64))) ∧ Fld Z h o0 "com/example/tierline/tierline/csv/LineProblems" "listed" "Ljava/util/List;" (.ref li)
set_option maxRecDepth 65536 in
set_option maxHeartbeats 40000000 in
theorem rm485_2 (l : Launch) (Z : State) (a0 : Array Value) (hw : ∀ d ∈ tables_1, d.before a0 Z = true) (ws : List Jvm.Cond) (o0 : Addr) (o1 : Addr) (p2 : Int32) (cnt : Int64) (li : Addr) (mc : Int32) (arr : Addr) (ka : ClassId) (x0 : Addr) (l0 : Int32) (c0 : Int32) (x1 : Addr) (l1 : Int32) (c1 : Int32) (lo : Int32) (co : Int32) (h0 : Heap) (n0 : Nat) (Z0 : n0 ≤ h0.size) (E_o0 : Exa Z h0 o0 "com/example/tierline/tierline/csv/LineProblems") (F_count_o0 : Fld Z h0 o0 "com/example/tierline/tierline/csv/LineProblems" "count" "J" (.long cnt)) (F_listed_o0 : Fld Z h0 o0 "com/example/tierline/tierline/csv/LineProblems" "listed" "Ljava/util/List;" (.ref li)) (E_li : Exa Z h0 li "java/util/ArrayList") (F_size_li : Fld Z h0 li "java/util/ArrayList" "size" "I" (.int (2 : Int32))) (F_modCount_li : Fld Z h0 li "java/util/AbstractList" "modCount" "I" (.int mc)) (g_o0 : n0 ≤ o0) (g_li : n0 ≤ li) (F_elementData_li : Fld Z h0 li "java/util/ArrayList" "elementData" "[Ljava/lang/Object;" (.ref arr)) (V_arr : Arv Z h0 arr ka (.object "java/lang/Object") (10 : Int32) [(.ref x0), (.ref x1)] .null) (ovr_ka : Ovr Z ka "java/lang/Object") (g_arr : n0 ≤ arr) (E_x0 : Exa Z h0 x0 "com/example/tierline/tierline/csv/LineProblems$Problem") (F_line_x0 : Fld Z h0 x0 "com/example/tierline/tierline/csv/LineProblems$Problem" "line" "I" (.int l0)) (F_conflict_x0 : Fld Z h0 x0 "com/example/tierline/tierline/csv/LineProblems$Problem" "conflict" "Z" (.int c0)) (E_x1 : Exa Z h0 x1 "com/example/tierline/tierline/csv/LineProblems$Problem") (F_line_x1 : Fld Z h0 x1 "com/example/tierline/tierline/csv/LineProblems$Problem" "line" "I" (.int l1)) (F_conflict_x1 : Fld Z h0 x1 "com/example/tierline/tierline/csv/LineProblems$Problem" "conflict" "Z" (.int c1)) (E_o1 : Exa Z h0 o1 "com/example/tierline/tierline/csv/LineProblems$Problem") (F_line_o1 : Fld Z h0 o1 "com/example/tierline/tierline/csv/LineProblems$Problem" "line" "I" (.int lo)) (F_conflict_o1 : Fld Z h0 o1 "com/example/tierline/tierline/csv/LineProblems$Problem" "conflict" "Z" (.int co)) :
    MetFree l (⟨"com/example/tierline/tierline/csv/LineProblems", "add", "(Lcom/example/tierline/tierline/csv/LineProblems$Problem;Z)V"⟩ : MethodName) (head1 (Jvm.Cond.code (⟨"com/example/tierline/tierline/csv/LineProblems", "add", "(Lcom/example/tierline/tierline/csv/LineProblems$Problem;Z)V"⟩ : MethodName) prog_48_method_5_code 4 none :: ws) ({ frames := 3, cells := 0, slots := 0, locals := 40 } : Room)) (fun a U => a = #[(.ref o0), (.ref o1), (.int p2)] ∧ Z.Warmed39 U.vm ∧ U.heap = h0) (fun _ _ _ _ _ => True) (fun _ U o U' => ∃ v L, o = .returned v ∧ Q485_2 Z o0 o1 p2 cnt li mc arr ka x0 l0 c0 x1 l1 c1 lo co h0 n0 v U'.heap L ∧ FrameEnd U o U' L ({ frames := 3, cells := 0, slots := 0, locals := 40 } : Room).cells ({ frames := 3, cells := 0, slots := 0, locals := 40 } : Room).slots) := by
  refine MetFree.of_bodySF (plainFor_of_name pn_com_example_tierline_tierline_csv_LineProblems) hisR ?_
  intro p e s m args below meth c s₁ Bd hml0 hP hK
  obtain ⟨rfl, hZ, hh⟩ := hP
  have hx := Bd.exec
  have hby := Bd.bytes
  have hml : c.maxLocals = 4 := hml0
  have hown : s.vm.findClass "com/example/tierline/tierline/csv/LineProblems" = some m.cls := findClass_of_methodNamed Bd.named
  have hnm := (name_of_methodNamed Bd.named Bd.method).1
  have X0 : Stand p l e ({ frames := 3, cells := 0, slots := 0, locals := 40 } : Room) s m #[(.ref o0), (.ref o1), (.int p2)] below meth c s₁ [] 0 0 := Stand.of_body Bd
  have e0 : s₁.heap = h0 := by rw [← hh, Bd.state]; rfl
  have N0 := Fr.nil n0
  have pre0 : ∀ t, Steps p.tables e below (s₁.setTop (mkF m 0 #[.val (.ref o0), .val (.ref o1), .val (.int p2), .unset] [])) t → Steps p.tables e below (s₁.setTop (entryFrame m #[(.ref o0), (.ref o1), (.int p2)] 4)) t := fun t k => castTop (ef_485_2 m o0 o1 p2) k
  obtain ⟨T1, X1, e1, st1⟩ := getF X0 hx hZ hown (host := "") (Or.inl (hw _ (List.mem_of_getElem? (i := 50) rfl))) Via.refl e0 F_count_o0 (g := (mkF m 2 #[.val (.ref o0), .val (.ref o1), .val (.int p2), .unset] [(.ref o0), (.ref o0)])) rfl rfl (hb hby d485_2)
  have ne2 : arr ≠ o0 := (Ne.symm (Exa.neArv E_o0 V_arr (hw _ (List.mem_of_getElem? (i := 1) rfl))))
  have ne3 : li ≠ o0 := (ne_exa E_li E_o0 (by decide))
  have ne4 : o1 ≠ o0 := (ne_exa E_o1 E_o0 (by decide))
  have ne5 : x0 ≠ o0 := (ne_exa E_x0 E_o0 (by decide))
  have ne6 : x1 ≠ o0 := (ne_exa E_x1 E_o0 (by decide))
  obtain ⟨T7, h7, X7, e7, W7, st7⟩ := putF X1 hx hZ hown (host := "") (Or.inl (hw _ (List.mem_of_getElem? (i := 50) rfl))) Via.refl e1 F_count_o0 E_o0 (Or.inl (hw _ (List.mem_of_getElem? (i := 51) rfl))) (hw _ (List.mem_of_getElem? (i := 1) rfl)) (ty := .long) (by decide) rfl rfl (g := (mkF m 7 #[.val (.ref o0), .val (.ref o1), .val (.int p2), .unset] [(.long (cnt + (1 : Int64))), (.ref o0)])) rfl rfl (hb hby d485_7)
  have Fw7 : Fld Z h7 o0 "com/example/tierline/tierline/csv/LineProblems" "count" "J" (.long (cnt + (1 : Int64))) := F_count_o0.same W7
  have J7 : Keep h0 h7 [o0, li, arr] := (Keep.refl h0 [o0, li, arr]).wr W7 (Or.inl (List.mem_of_getElem? (i := 0) rfl))
  have N7 := Fr.snoc X7 N0 g_o0
  have c8 : Fld Z h7 o0 "com/example/tierline/tierline/csv/LineProblems" "listed" "Ljava/util/List;" (.ref li) := (F_listed_o0.other W7 (Or.inr (slot_ne (Or.inr (hw _ (List.mem_of_getElem? (i := 42) rfl))) (Or.inl (hw _ (List.mem_of_getElem? (i := 51) rfl))) (by decide) (t := (.object "java/util/List")) (t' := .long) (by decide) (by decide))))
  obtain ⟨T9, X9, e9, st9⟩ := getF X7 hx hZ hown (host := "") (Or.inl (hw _ (List.mem_of_getElem? (i := 41) rfl))) Via.refl e7 c8 (g := (mkF m 11 #[.val (.ref o0), .val (.ref o1), .val (.int p2), .unset] [(.ref o0)])) rfl rfl (hb hby d485_11)
  have c10 : Fld Z h7 li "java/util/ArrayList" "size" "I" (.int (2 : Int32)) := (F_size_li.other W7 (Or.inl ne3))
  have z11 : n0 ≤ h7.size := (Nat.le_trans Z0 (Keep.of_wr W7).1)
  have c13 : Exa Z h7 li "java/util/ArrayList" := (E_li.wr W7)
  obtain ⟨cq12, kq12, q12a, q12b, q12c⟩ := isOf hZ e9 c13
  -- pc 14: List.size by rm388
  obtain ⟨_, _, ⟨T12, L12, k12, n12⟩, -, X12, ⟨Lc12, hQ12, l12, y12, z12'⟩, st12⟩ := X9.interfaceBack hx (xi := (⟨"java/util/List", "size", "()I"⟩ : MethodName)) (y := (⟨"java/util/ArrayList", "size", "()I"⟩ : MethodName)) hown (mvT hZ (hw _ (List.mem_of_getElem? (i := 97) rfl))) (mvT hZ (hw _ (List.mem_of_getElem? (i := 98) rfl))) (mvT hZ (hw _ (List.mem_of_getElem? (i := 99) rfl))) (mvT hZ (hw _ (List.mem_of_getElem? (i := 100) rfl))) (mvT hZ (hw _ (List.mem_of_getElem? (i := 101) rfl))) (mvT hZ (hw _ (List.mem_of_getElem? (i := 102) rfl))) (mvT hZ (hw _ (List.mem_of_getElem? (i := 103) rfl))) (mvT hZ (hw _ (List.mem_of_getElem? (i := 104) rfl))) (by decide) (backOf (W := 0) (rm388 l Z a0 hw [] li (2 : Int32) h7 n0 z11 c10) hZ (hw _ (List.mem_of_getElem? (i := 105) rfl)) (hw _ (List.mem_of_getElem? (i := 19) rfl)) (by decide) (by decide)) q12a q12b q12c (g := (mkF m 14 #[.val (.ref o0), .val (.ref o1), .val (.int p2), .unset] [(.ref li)])) rfl (by rw [hml]; rfl) (Steps.refl _) (argsL := []) (rest := []) (lenOf pd_10 rfl) rfl (by show 2 * 0 + _ ≤ _; exact Nat.le_of_eq rfl) (hb hby d485_14) (fun _ _ => ⟨rfl, e9, (by decide : 0 + 0 ≤ _), (by decide : 0 + 0 ≤ _)⟩)
  dsimp only [Pt.U, Pt.locs, Pt.cells, Pt.slots] at X12 l12 y12 z12' st12 hQ12
  subst l12 y12 z12'
  obtain ⟨rfl, N12q, K12⟩ := hQ12
  have N12 := Fr.app N7 N12q
  have J12 : Keep h0 T12.heap [o0, li, arr] := J7.trans K12 all0
  have c14 : Fld Z T12.heap o0 "com/example/tierline/tierline/csv/LineProblems" "listed" "Ljava/util/List;" (.ref li) := (c8.keep K12 nin0)
  obtain ⟨T15, X15, e15, st15⟩ := getF X12 hx hZ hown (host := "") (Or.inl (hw _ (List.mem_of_getElem? (i := 41) rfl))) Via.refl rfl c14 (g := (mkF m 25 #[.val (.ref o0), .val (.ref o1), .val (.int p2), .val (.int (2 : Int32))] [(.ref o0)])) rfl rfl (hb hby d485_25)
  have c16 : Exa Z T12.heap li "java/util/ArrayList" := (c13.keep K12)
  have c17 : Fld Z T12.heap li "java/util/ArrayList" "size" "I" (.int (2 : Int32)) := (c10.keep K12 nin0)
  have c18 : Fld Z T12.heap li "java/util/ArrayList" "elementData" "[Ljava/lang/Object;" (.ref arr) := ((F_elementData_li.other W7 (Or.inl ne3)).keep K12 nin0)
  have c19 : Arv Z T12.heap arr ka (.object "java/lang/Object") (10 : Int32) [(.ref x0), (.ref x1)] .null := ((V_arr.other W7 ne2).keep K12 nin0)
  have z20 : n0 ≤ T12.heap.size := (Nat.le_trans z11 K12.1)
  obtain ⟨cq21, kq21, q21a, q21b, q21c⟩ := isOf hZ e15 c16
  -- pc 31: List.get by rm3820_1_2
  obtain ⟨_, _, ⟨T21, L21, k21, n21⟩, -, X21, ⟨Lc21, hQ21, l21, y21, z21'⟩, st21⟩ := X15.interfaceBack hx (xi := (⟨"java/util/List", "get", "(I)Ljava/lang/Object;"⟩ : MethodName)) (y := (⟨"java/util/ArrayList", "get", "(I)Ljava/lang/Object;"⟩ : MethodName)) hown (mvT hZ (hw _ (List.mem_of_getElem? (i := 149) rfl))) (mvT hZ (hw _ (List.mem_of_getElem? (i := 150) rfl))) (mvT hZ (hw _ (List.mem_of_getElem? (i := 151) rfl))) (mvT hZ (hw _ (List.mem_of_getElem? (i := 152) rfl))) (mvT hZ (hw _ (List.mem_of_getElem? (i := 153) rfl))) (mvT hZ (hw _ (List.mem_of_getElem? (i := 154) rfl))) (mvT hZ (hw _ (List.mem_of_getElem? (i := 155) rfl))) (mvT hZ (hw _ (List.mem_of_getElem? (i := 104) rfl))) (by decide) (backOf (W := 0) (rm3820_1_2 l Z a0 hw [] li arr ka [(.ref x0), (.ref x1)] x1 T12.heap n0 z20 c16 c17 c18 c19 rfl) hZ (hw _ (List.mem_of_getElem? (i := 156) rfl)) (hw _ (List.mem_of_getElem? (i := 19) rfl)) (by decide) (by decide)) q21a q21b q21c (g := (mkF m 31 #[.val (.ref o0), .val (.ref o1), .val (.int p2), .val (.int (2 : Int32))] [(.int (1 : Int32)), (.ref li)])) rfl (by rw [hml]; rfl) (Steps.refl _) (argsL := [(.int (1 : Int32))]) (rest := []) (lenOf pd_9 rfl) rfl (by show 2 * 0 + _ ≤ _; exact Nat.le_of_eq rfl) (hb hby d485_31) (fun _ _ => ⟨rfl, e15, (by decide : 0 + 0 ≤ _), (by decide : 0 + 0 ≤ _)⟩)
  dsimp only [Pt.U, Pt.locs, Pt.cells, Pt.slots] at X21 l21 y21 z21' st21 hQ21
  subst l21 y21 z21'
  obtain ⟨rfl, N21q, K21⟩ := hQ21
  have N21 := Fr.app N12 N21q
  have J21 : Keep h0 T21.heap [o0, li, arr] := J12.trans K21 all0
  have c22 : Exa Z T21.heap x1 "com/example/tierline/tierline/csv/LineProblems$Problem" := (((E_x1.wr W7).keep K12).keep K21)
  obtain ⟨T23, X23, e23, st23⟩ := castY X21 hx hZ hown (hw _ (List.mem_of_getElem? (i := 80) rfl)) rfl (Ins.self c22) (g := (mkF m 36 #[.val (.ref o0), .val (.ref o1), .val (.int p2), .val (.int (2 : Int32))] [(.ref x1)])) rfl rfl (hb hby d485_36)
  have c24 : Fld Z T21.heap x1 "com/example/tierline/tierline/csv/LineProblems$Problem" "line" "I" (.int l1) := (((F_line_x1.other W7 (Or.inl ne6)).keep K12 nin0).keep K21 nin0)
  have c25 : Fld Z T21.heap x1 "com/example/tierline/tierline/csv/LineProblems$Problem" "conflict" "Z" (.int c1) := (((F_conflict_x1.other W7 (Or.inl ne6)).keep K12 nin0).keep K21 nin0)
  have c26 : Fld Z T21.heap o1 "com/example/tierline/tierline/csv/LineProblems$Problem" "line" "I" (.int lo) := (((F_line_o1.other W7 (Or.inl ne4)).keep K12 nin0).keep K21 nin0)
  have c27 : Fld Z T21.heap o1 "com/example/tierline/tierline/csv/LineProblems$Problem" "conflict" "Z" (.int co) := (((F_conflict_o1.other W7 (Or.inl ne4)).keep K12 nin0).keep K21 nin0)
  have z28 : n0 ≤ T21.heap.size := (Nat.le_trans z20 K21.1)
  -- pc 41: LineProblems.listsAfter by rm486
  obtain ⟨_, _, ⟨T29, L29, k29, n29⟩, -, X29, ⟨Lc29, hQ29, l29, y29, z29'⟩, st29⟩ := Jvm.LawKit.callS X23 hx (y := (⟨"com/example/tierline/tierline/csv/LineProblems", "listsAfter", "(Lcom/example/tierline/tierline/csv/LineProblems$Problem;Lcom/example/tierline/tierline/csv/LineProblems$Problem;Z)Z"⟩ : MethodName)) hown (mvT hZ (hw _ (List.mem_of_getElem? (i := 171) rfl))) (mvT hZ (hw _ (List.mem_of_getElem? (i := 172) rfl))) (mvT hZ (hw _ (List.mem_of_getElem? (i := 2) rfl))) (mvT hZ (hw _ (List.mem_of_getElem? (i := 173) rfl))) (by decide) (backOf (W := 0) (rm486 l Z a0 hw [] x1 o1 p2 l1 c1 lo co T21.heap n0 z28 c24 c25 c26 c27) hZ (hw _ (List.mem_of_getElem? (i := 173) rfl)) (hw _ (List.mem_of_getElem? (i := 2) rfl)) (by decide) (by decide)) (g := (mkF m 41 #[.val (.ref o0), .val (.ref o1), .val (.int p2), .val (.int (2 : Int32))] [(.int p2), (.ref o1), (.ref x1)])) rfl (by rw [hml]; rfl) (argsL := [(.ref x1), (.ref o1), (.int p2)]) (rest := []) (lenOf pd_16 rfl) rfl (by show 2 * 0 + _ ≤ _; exact Nat.le_of_eq rfl) (hb hby d485_41) (fun _ _ => ⟨rfl, e23, (by decide : 0 + 0 ≤ _), (by decide : 0 + 0 ≤ _)⟩)
  dsimp only [Pt.U, Pt.locs, Pt.cells, Pt.slots] at X29 l29 y29 z29' st29 hQ29
  subst l29 y29 z29'
  obtain ⟨rv_29, rfl, N29q, K29⟩ := hQ29
  have N29 := Fr.app N21 N29q
  have J29 : Keep h0 T29.heap [o0, li, arr] := J21.trans K29 all0
  have pre30 : ∀ t, Steps p.tables e below (T29.setTop (mkF m 44 #[.val (.ref o0), .val (.ref o1), .val (.int p2), .val (.int (2 : Int32))] [(.int rv_29)])) t → Steps p.tables e below (s₁.setTop (entryFrame m #[(.ref o0), (.ref o1), (.int p2)] 4)) t := by
    intro t kt
    refine pre0 _ ?_
    show Steps p.tables e below (s₁.setTop (mkF m 0 #[.val (.ref o0), .val (.ref o1), .val (.int p2), .unset] [])) _
    refine XS.aloadN X0.here hx rfl (hb hby d485_0) rfl rfl ?_
    show Steps p.tables e below (s₁.setTop (mkF m 1 #[.val (.ref o0), .val (.ref o1), .val (.int p2), .unset] [(.ref o0)])) _
    refine XS.dup X0.here hx rfl (hb hby d485_1) rfl rfl ?_
    show Steps p.tables e below (s₁.setTop (mkF m 2 #[.val (.ref o0), .val (.ref o1), .val (.int p2), .unset] [(.ref o0), (.ref o0)])) _
    refine st1 _ ?_
    show Steps p.tables e below (T1.setTop (mkF m 5 #[.val (.ref o0), .val (.ref o1), .val (.int p2), .unset] [(.long cnt), (.ref o0)])) _
    refine XS.lconst X1.here hx rfl (hb hby d485_5) ?_
    show Steps p.tables e below (T1.setTop (mkF m 6 #[.val (.ref o0), .val (.ref o1), .val (.int p2), .unset] [(.long (1 : Int64)), (.long cnt), (.ref o0)])) _
    refine XS.ladd X1.here hx rfl (hb hby d485_6) rfl ?_
    show Steps p.tables e below (T1.setTop (mkF m 7 #[.val (.ref o0), .val (.ref o1), .val (.int p2), .unset] [(.long (cnt + (1 : Int64))), (.ref o0)])) _
    refine st7 _ ?_
    show Steps p.tables e below (T7.setTop (mkF m 10 #[.val (.ref o0), .val (.ref o1), .val (.int p2), .unset] [])) _
    refine XS.aloadN X7.here hx rfl (hb hby d485_10) rfl rfl ?_
    show Steps p.tables e below (T7.setTop (mkF m 11 #[.val (.ref o0), .val (.ref o1), .val (.int p2), .unset] [(.ref o0)])) _
    refine st9 _ ?_
    show Steps p.tables e below (T9.setTop (mkF m 14 #[.val (.ref o0), .val (.ref o1), .val (.int p2), .unset] [(.ref li)])) _
    refine st12.trans ?_
    show Steps p.tables e below (T12.setTop (mkF m 19 #[.val (.ref o0), .val (.ref o1), .val (.int p2), .unset] [(.int (2 : Int32))])) _
    refine XS.istoreN X12.here hx rfl (hb hby d485_19) rfl (l' := #[.val (.ref o0), .val (.ref o1), .val (.int p2), .val (.int (2 : Int32))]) rfl ?_
    show Steps p.tables e below (T12.setTop (mkF m 20 #[.val (.ref o0), .val (.ref o1), .val (.int p2), .val (.int (2 : Int32))] [])) _
    refine XS.iloadN X12.here hx rfl (hb hby d485_20) rfl ?_
    show Steps p.tables e below (T12.setTop (mkF m 21 #[.val (.ref o0), .val (.ref o1), .val (.int p2), .val (.int (2 : Int32))] [(.int (2 : Int32))])) _
    refine XS.ifNo X12.here hx rfl (hb hby d485_21) rfl ((if0 _ _).trans (tlt (by decide)).2.2.2) ?_
    show Steps p.tables e below (T12.setTop (mkF m 24 #[.val (.ref o0), .val (.ref o1), .val (.int p2), .val (.int (2 : Int32))] [])) _
    refine XS.aloadN X12.here hx rfl (hb hby d485_24) rfl rfl ?_
    show Steps p.tables e below (T12.setTop (mkF m 25 #[.val (.ref o0), .val (.ref o1), .val (.int p2), .val (.int (2 : Int32))] [(.ref o0)])) _
    refine st15 _ ?_
    show Steps p.tables e below (T15.setTop (mkF m 28 #[.val (.ref o0), .val (.ref o1), .val (.int p2), .val (.int (2 : Int32))] [(.ref li)])) _
    refine XS.iloadN X15.here hx rfl (hb hby d485_28) rfl ?_
    show Steps p.tables e below (T15.setTop (mkF m 29 #[.val (.ref o0), .val (.ref o1), .val (.int p2), .val (.int (2 : Int32))] [(.int (2 : Int32)), (.ref li)])) _
    refine XS.iconst X15.here hx rfl (hb hby d485_29) ?_
    show Steps p.tables e below (T15.setTop (mkF m 30 #[.val (.ref o0), .val (.ref o1), .val (.int p2), .val (.int (2 : Int32))] [(.int (1 : Int32)), (.int (2 : Int32)), (.ref li)])) _
    refine XS.isub X15.here hx rfl (hb hby d485_30) rfl ?_
    show Steps p.tables e below (T15.setTop (mkF m 31 #[.val (.ref o0), .val (.ref o1), .val (.int p2), .val (.int (2 : Int32))] [(.int (1 : Int32)), (.ref li)])) _
    refine st21.trans ?_
    show Steps p.tables e below (T21.setTop (mkF m 36 #[.val (.ref o0), .val (.ref o1), .val (.int p2), .val (.int (2 : Int32))] [(.ref x1)])) _
    refine st23 _ ?_
    show Steps p.tables e below (T23.setTop (mkF m 39 #[.val (.ref o0), .val (.ref o1), .val (.int p2), .val (.int (2 : Int32))] [(.ref x1)])) _
    refine XS.aloadN X23.here hx rfl (hb hby d485_39) rfl rfl ?_
    show Steps p.tables e below (T23.setTop (mkF m 40 #[.val (.ref o0), .val (.ref o1), .val (.int p2), .val (.int (2 : Int32))] [(.ref o1), (.ref x1)])) _
    refine XS.iloadN X23.here hx rfl (hb hby d485_40) rfl ?_
    show Steps p.tables e below (T23.setTop (mkF m 41 #[.val (.ref o0), .val (.ref o1), .val (.int p2), .val (.int (2 : Int32))] [(.int p2), (.ref o1), (.ref x1)])) _
    refine st29 _ ?_
    exact kt
  by_cases hc44_31 : rv_29 = (0 : Int32)
  · skip
    have c32 : Fld Z T29.heap o0 "com/example/tierline/tierline/csv/LineProblems" "listed" "Ljava/util/List;" (.ref li) := ((c14.keep K21 nin0).keep K29 nin0)
    obtain ⟨T33, X33, e33, st33⟩ := getF X29 hx hZ hown (host := "") (Or.inl (hw _ (List.mem_of_getElem? (i := 41) rfl))) Via.refl rfl c32 (g := (mkF m 60 #[.val (.ref o0), .val (.ref o1), .val (.int p2), .val (.int (2 : Int32))] [(.ref o0)])) rfl rfl (hb hby d485_60)
    have c34 : Exa Z T29.heap li "java/util/ArrayList" := ((c16.keep K21).keep K29)
    have c35 : Fld Z T29.heap li "java/util/ArrayList" "elementData" "[Ljava/lang/Object;" (.ref arr) := ((c18.keep K21 nin0).keep K29 nin0)
    have c36 : Arv Z T29.heap arr ka (.object "java/lang/Object") (10 : Int32) [(.ref x0), (.ref x1)] .null := ((c19.keep K21 nin0).keep K29 nin0)
    have c37 : Fld Z T29.heap li "java/util/ArrayList" "size" "I" (.int (2 : Int32)) := ((c17.keep K21 nin0).keep K29 nin0)
    have c38 : Fld Z T29.heap li "java/util/AbstractList" "modCount" "I" (.int mc) := ((((F_modCount_li.other W7 (Or.inl ne3)).keep K12 nin0).keep K21 nin0).keep K29 nin0)
    have c39 : Exa Z T29.heap o1 "com/example/tierline/tierline/csv/LineProblems$Problem" := ((((E_o1.wr W7).keep K12).keep K21).keep K29)
    have c40 : Exa Z T29.heap x0 "com/example/tierline/tierline/csv/LineProblems$Problem" := ((((E_x0.wr W7).keep K12).keep K21).keep K29)
    have c41 : Exa Z T29.heap x1 "com/example/tierline/tierline/csv/LineProblems$Problem" := (c22.keep K29)
    have ne42 : arr ≠ li := (Ne.symm (Exa.neArv c34 c36 (hw _ (List.mem_of_getElem? (i := 18) rfl))))
    have ne43 : o1 ≠ li := (ne_exa c39 c34 (by decide))
    have ne44 : x0 ≠ li := (ne_exa c40 c34 (by decide))
    have ne45 : x1 ≠ li := (ne_exa c41 c34 (by decide))
    have ne46 : o1 ≠ arr := (Exa.neArv c39 c36 (hw _ (List.mem_of_getElem? (i := 81) rfl)))
    have ne47 : x0 ≠ arr := (Exa.neArv c40 c36 (hw _ (List.mem_of_getElem? (i := 81) rfl)))
    have ne48 : x1 ≠ arr := (Exa.neArv c41 c36 (hw _ (List.mem_of_getElem? (i := 81) rfl)))
    have z49 : n0 ≤ T29.heap.size := (Nat.le_trans z28 K29.1)
    obtain ⟨cq50, kq50, q50a, q50b, q50c⟩ := isOf hZ e33 c34
    -- pc 65: List.add by rm3826_2_2
    obtain ⟨_, _, ⟨T50, L50, k50, n50⟩, -, X50, ⟨Lc50, hQ50, l50, y50, z50'⟩, st50⟩ := X33.interfaceBack hx (xi := (⟨"java/util/List", "add", "(ILjava/lang/Object;)V"⟩ : MethodName)) (y := (⟨"java/util/ArrayList", "add", "(ILjava/lang/Object;)V"⟩ : MethodName)) hown (mvT hZ (hw _ (List.mem_of_getElem? (i := 108) rfl))) (mvT hZ (hw _ (List.mem_of_getElem? (i := 109) rfl))) (mvT hZ (hw _ (List.mem_of_getElem? (i := 110) rfl))) (mvT hZ (hw _ (List.mem_of_getElem? (i := 111) rfl))) (mvT hZ (hw _ (List.mem_of_getElem? (i := 112) rfl))) (mvT hZ (hw _ (List.mem_of_getElem? (i := 113) rfl))) (mvT hZ (hw _ (List.mem_of_getElem? (i := 114) rfl))) (mvT hZ (hw _ (List.mem_of_getElem? (i := 104) rfl))) (by decide) (backOf (W := 0) (rm3826_2_2 l Z a0 hw [] li o1 arr ka mc x0 x1 T29.heap n0 z49 c34 c35 c36 ovr_ka c37 c38 g_li g_arr c39 c40 c41) hZ (hw _ (List.mem_of_getElem? (i := 115) rfl)) (hw _ (List.mem_of_getElem? (i := 19) rfl)) (by decide) (by decide)) q50a q50b q50c (g := (mkF m 65 #[.val (.ref o0), .val (.ref o1), .val (.int p2), .val (.int (2 : Int32))] [(.ref o1), (.int (2 : Int32)), (.ref li)])) rfl (by rw [hml]; rfl) (Steps.refl _) (argsL := [(.int (2 : Int32)), (.ref o1)]) (rest := []) (lenOf pd_11 rfl) rfl (by show 2 * 0 + _ ≤ _; exact Nat.le_of_eq rfl) (hb hby d485_65) (fun _ _ => ⟨rfl, e33, (by decide : 0 + 0 ≤ _), (by decide : 0 + 0 ≤ _)⟩)
    dsimp only [Pt.U, Pt.locs, Pt.cells, Pt.slots] at X50 l50 y50 z50' st50 hQ50
    subst l50 y50 z50'
    obtain ⟨rfl, N50q, K50, r0_50, r1_50, r2_50, r3_50⟩ := hQ50
    have N50 := Fr.app N29 N50q
    have J50 : Keep h0 T50.heap [o0, li, arr] := J29.trans K50 (allS (Or.inl (List.mem_of_getElem? (i := 1) rfl)) (allS (Or.inl (List.mem_of_getElem? (i := 2) rfl)) all0))
    have c51 : Fld Z T50.heap o0 "com/example/tierline/tierline/csv/LineProblems" "listed" "Ljava/util/List;" (.ref li) := (c32.keep K50 (ninS (Ne.symm ne3) (ninS (Ne.symm ne2) nin0)))
    obtain ⟨T52, X52, e52, st52⟩ := getF X50 hx hZ hown (host := "") (Or.inl (hw _ (List.mem_of_getElem? (i := 41) rfl))) Via.refl rfl c51 (g := (mkF m 71 #[.val (.ref o0), .val (.ref o1), .val (.int p2), .val (.int (2 : Int32))] [(.ref o0)])) rfl rfl (hb hby d485_71)
    have z53 : n0 ≤ T50.heap.size := (Nat.le_trans z49 K50.1)
    have c55 : Exa Z T50.heap li "java/util/ArrayList" := (c34.keep K50)
    obtain ⟨cq54, kq54, q54a, q54b, q54c⟩ := isOf hZ e52 c55
    -- pc 74: List.size by rm388
    obtain ⟨_, _, ⟨T54, L54, k54, n54⟩, -, X54, ⟨Lc54, hQ54, l54, y54, z54'⟩, st54⟩ := X52.interfaceBack hx (xi := (⟨"java/util/List", "size", "()I"⟩ : MethodName)) (y := (⟨"java/util/ArrayList", "size", "()I"⟩ : MethodName)) hown (mvT hZ (hw _ (List.mem_of_getElem? (i := 97) rfl))) (mvT hZ (hw _ (List.mem_of_getElem? (i := 98) rfl))) (mvT hZ (hw _ (List.mem_of_getElem? (i := 99) rfl))) (mvT hZ (hw _ (List.mem_of_getElem? (i := 100) rfl))) (mvT hZ (hw _ (List.mem_of_getElem? (i := 101) rfl))) (mvT hZ (hw _ (List.mem_of_getElem? (i := 102) rfl))) (mvT hZ (hw _ (List.mem_of_getElem? (i := 103) rfl))) (mvT hZ (hw _ (List.mem_of_getElem? (i := 104) rfl))) (by decide) (backOf (W := 0) (rm388 l Z a0 hw [] li (3 : Int32) T50.heap n0 z53 r0_50) hZ (hw _ (List.mem_of_getElem? (i := 105) rfl)) (hw _ (List.mem_of_getElem? (i := 19) rfl)) (by decide) (by decide)) q54a q54b q54c (g := (mkF m 74 #[.val (.ref o0), .val (.ref o1), .val (.int p2), .val (.int (2 : Int32))] [(.ref li)])) rfl (by rw [hml]; rfl) (Steps.refl _) (argsL := []) (rest := []) (lenOf pd_10 rfl) rfl (by show 2 * 0 + _ ≤ _; exact Nat.le_of_eq rfl) (hb hby d485_74) (fun _ _ => ⟨rfl, e52, (by decide : 0 + 0 ≤ _), (by decide : 0 + 0 ≤ _)⟩)
    dsimp only [Pt.U, Pt.locs, Pt.cells, Pt.slots] at X54 l54 y54 z54' st54 hQ54
    subst l54 y54 z54'
    obtain ⟨rfl, N54q, K54⟩ := hQ54
    have N54 := Fr.app N50 N54q
    have J54 : Keep h0 T54.heap [o0, li, arr] := J50.trans K54 all0
    have c56 : Fld Z T54.heap o0 "com/example/tierline/tierline/csv/LineProblems" "count" "J" (.long (cnt + (1 : Int64))) := (((((Fw7.keep K12 nin0).keep K21 nin0).keep K29 nin0).keep K50 (ninS (Ne.symm ne3) (ninS (Ne.symm ne2) nin0))).keep K54 nin0)
    have c57 : Fld Z T54.heap o0 "com/example/tierline/tierline/csv/LineProblems" "listed" "Ljava/util/List;" (.ref li) := (c51.keep K54 nin0)
    obtain ⟨fs, hr, hrun, hended, hW, hsame⟩ := X54.leave (v := none) (fun _ => rfl)
    refine ⟨_, _, pre30 _ ?_, hrun, hended, _, _, rfl, ?_, ⟨_, rfl⟩, hW, hsame.mono (by decide) (by decide)⟩
    · show Steps p.tables e below (T29.setTop (mkF m 44 #[.val (.ref o0), .val (.ref o1), .val (.int p2), .val (.int (2 : Int32))] [(.int rv_29)])) _
      refine XS.ifYes X29.here hx rfl (pc0 := 44) (pc' := 53) rfl (hb hby d485_44) rfl ((if0 _ _).trans (teq hc44_31).1) (by decide) (by decide) ?_
      show Steps p.tables e below (T29.setTop (mkF m 53 #[.val (.ref o0), .val (.ref o1), .val (.int p2), .val (.int (2 : Int32))] [])) _
      refine XS.iloadN X29.here hx rfl (hb hby d485_53) rfl ?_
      show Steps p.tables e below (T29.setTop (mkF m 54 #[.val (.ref o0), .val (.ref o1), .val (.int p2), .val (.int (2 : Int32))] [(.int (2 : Int32))])) _
      refine XS.bipush X29.here hx rfl (hb hby d485_54) ?_
      show Steps p.tables e below (T29.setTop (mkF m 56 #[.val (.ref o0), .val (.ref o1), .val (.int p2), .val (.int (2 : Int32))] [(.int (100 : Int32)), (.int (2 : Int32))])) _
      refine XS.icmpNo X29.here hx rfl (hb hby d485_56) rfl (tlt (by decide)).2.1 ?_
      show Steps p.tables e below (T29.setTop (mkF m 59 #[.val (.ref o0), .val (.ref o1), .val (.int p2), .val (.int (2 : Int32))] [])) _
      refine XS.aloadN X29.here hx rfl (hb hby d485_59) rfl rfl ?_
      show Steps p.tables e below (T29.setTop (mkF m 60 #[.val (.ref o0), .val (.ref o1), .val (.int p2), .val (.int (2 : Int32))] [(.ref o0)])) _
      refine st33 _ ?_
      show Steps p.tables e below (T33.setTop (mkF m 63 #[.val (.ref o0), .val (.ref o1), .val (.int p2), .val (.int (2 : Int32))] [(.ref li)])) _
      refine XS.iloadN X33.here hx rfl (hb hby d485_63) rfl ?_
      show Steps p.tables e below (T33.setTop (mkF m 64 #[.val (.ref o0), .val (.ref o1), .val (.int p2), .val (.int (2 : Int32))] [(.int (2 : Int32)), (.ref li)])) _
      refine XS.aloadN X33.here hx rfl (hb hby d485_64) rfl rfl ?_
      show Steps p.tables e below (T33.setTop (mkF m 65 #[.val (.ref o0), .val (.ref o1), .val (.int p2), .val (.int (2 : Int32))] [(.ref o1), (.int (2 : Int32)), (.ref li)])) _
      refine st50.trans ?_
      show Steps p.tables e below (T50.setTop (mkF m 70 #[.val (.ref o0), .val (.ref o1), .val (.int p2), .val (.int (2 : Int32))] [])) _
      refine XS.aloadN X50.here hx rfl (hb hby d485_70) rfl rfl ?_
      show Steps p.tables e below (T50.setTop (mkF m 71 #[.val (.ref o0), .val (.ref o1), .val (.int p2), .val (.int (2 : Int32))] [(.ref o0)])) _
      refine st52 _ ?_
      show Steps p.tables e below (T52.setTop (mkF m 74 #[.val (.ref o0), .val (.ref o1), .val (.int p2), .val (.int (2 : Int32))] [(.ref li)])) _
      refine st54.trans ?_
      show Steps p.tables e below (T54.setTop (mkF m 79 #[.val (.ref o0), .val (.ref o1), .val (.int p2), .val (.int (2 : Int32))] [(.int (3 : Int32))])) _
      refine XS.bipush X54.here hx rfl (hb hby d485_79) ?_
      show Steps p.tables e below (T54.setTop (mkF m 81 #[.val (.ref o0), .val (.ref o1), .val (.int p2), .val (.int (2 : Int32))] [(.int (100 : Int32)), (.int (3 : Int32))])) _
      refine XS.icmpYes X54.here hx rfl (pc0 := 81) (pc' := 96) rfl (hb hby d485_81) rfl (flt (by decide)).2.2.2 (by decide) (by decide) ?_
      show Steps p.tables e below (T54.setTop (mkF m 96 #[.val (.ref o0), .val (.ref o1), .val (.int p2), .val (.int (2 : Int32))] [])) _
      exact X54.returnOut hx Bd.returns (hb hby d485_96) hr
    · show Q485_2 Z o0 o1 p2 cnt li mc arr ka x0 l0 c0 x1 l1 c1 lo co h0 n0 _ T54.heap _
      exact ⟨rfl, N54, J54, c56, c57⟩
  · skip
    have c58 : Fld Z T29.heap o0 "com/example/tierline/tierline/csv/LineProblems" "listed" "Ljava/util/List;" (.ref li) := ((c14.keep K21 nin0).keep K29 nin0)
    obtain ⟨T59, X59, e59, st59⟩ := getF X29 hx hZ hown (host := "") (Or.inl (hw _ (List.mem_of_getElem? (i := 41) rfl))) Via.refl rfl c58 (g := (mkF m 25 #[.val (.ref o0), .val (.ref o1), .val (.int p2), .val (.int (1 : Int32))] [(.ref o0)])) rfl rfl (hb hby d485_25)
    have c60 : Exa Z T29.heap li "java/util/ArrayList" := ((c16.keep K21).keep K29)
    have c61 : Fld Z T29.heap li "java/util/ArrayList" "size" "I" (.int (2 : Int32)) := ((c17.keep K21 nin0).keep K29 nin0)
    have c62 : Fld Z T29.heap li "java/util/ArrayList" "elementData" "[Ljava/lang/Object;" (.ref arr) := ((c18.keep K21 nin0).keep K29 nin0)
    have c63 : Arv Z T29.heap arr ka (.object "java/lang/Object") (10 : Int32) [(.ref x0), (.ref x1)] .null := ((c19.keep K21 nin0).keep K29 nin0)
    have z64 : n0 ≤ T29.heap.size := (Nat.le_trans z28 K29.1)
    obtain ⟨cq65, kq65, q65a, q65b, q65c⟩ := isOf hZ e59 c60
    -- pc 31: List.get by rm3820_0_2
    obtain ⟨_, _, ⟨T65, L65, k65, n65⟩, -, X65, ⟨Lc65, hQ65, l65, y65, z65'⟩, st65⟩ := X59.interfaceBack hx (xi := (⟨"java/util/List", "get", "(I)Ljava/lang/Object;"⟩ : MethodName)) (y := (⟨"java/util/ArrayList", "get", "(I)Ljava/lang/Object;"⟩ : MethodName)) hown (mvT hZ (hw _ (List.mem_of_getElem? (i := 149) rfl))) (mvT hZ (hw _ (List.mem_of_getElem? (i := 150) rfl))) (mvT hZ (hw _ (List.mem_of_getElem? (i := 151) rfl))) (mvT hZ (hw _ (List.mem_of_getElem? (i := 152) rfl))) (mvT hZ (hw _ (List.mem_of_getElem? (i := 153) rfl))) (mvT hZ (hw _ (List.mem_of_getElem? (i := 154) rfl))) (mvT hZ (hw _ (List.mem_of_getElem? (i := 155) rfl))) (mvT hZ (hw _ (List.mem_of_getElem? (i := 104) rfl))) (by decide) (backOf (W := 0) (rm3820_0_2 l Z a0 hw [] li arr ka [(.ref x0), (.ref x1)] x0 T29.heap n0 z64 c60 c61 c62 c63 rfl) hZ (hw _ (List.mem_of_getElem? (i := 156) rfl)) (hw _ (List.mem_of_getElem? (i := 19) rfl)) (by decide) (by decide)) q65a q65b q65c (g := (mkF m 31 #[.val (.ref o0), .val (.ref o1), .val (.int p2), .val (.int (1 : Int32))] [(.int (0 : Int32)), (.ref li)])) rfl (by rw [hml]; rfl) (Steps.refl _) (argsL := [(.int (0 : Int32))]) (rest := []) (lenOf pd_9 rfl) rfl (by show 2 * 0 + _ ≤ _; exact Nat.le_of_eq rfl) (hb hby d485_31) (fun _ _ => ⟨rfl, e59, (by decide : 0 + 0 ≤ _), (by decide : 0 + 0 ≤ _)⟩)
    dsimp only [Pt.U, Pt.locs, Pt.cells, Pt.slots] at X65 l65 y65 z65' st65 hQ65
    subst l65 y65 z65'
    obtain ⟨rfl, N65q, K65⟩ := hQ65
    have N65 := Fr.app N29 N65q
    have J65 : Keep h0 T65.heap [o0, li, arr] := J29.trans K65 all0
    have c66 : Exa Z T65.heap x0 "com/example/tierline/tierline/csv/LineProblems$Problem" := (((((E_x0.wr W7).keep K12).keep K21).keep K29).keep K65)
    obtain ⟨T67, X67, e67, st67⟩ := castY X65 hx hZ hown (hw _ (List.mem_of_getElem? (i := 80) rfl)) rfl (Ins.self c66) (g := (mkF m 36 #[.val (.ref o0), .val (.ref o1), .val (.int p2), .val (.int (1 : Int32))] [(.ref x0)])) rfl rfl (hb hby d485_36)
    have c68 : Fld Z T65.heap x0 "com/example/tierline/tierline/csv/LineProblems$Problem" "line" "I" (.int l0) := (((((F_line_x0.other W7 (Or.inl ne5)).keep K12 nin0).keep K21 nin0).keep K29 nin0).keep K65 nin0)
    have c69 : Fld Z T65.heap x0 "com/example/tierline/tierline/csv/LineProblems$Problem" "conflict" "Z" (.int c0) := (((((F_conflict_x0.other W7 (Or.inl ne5)).keep K12 nin0).keep K21 nin0).keep K29 nin0).keep K65 nin0)
    have c70 : Fld Z T65.heap o1 "com/example/tierline/tierline/csv/LineProblems$Problem" "line" "I" (.int lo) := ((c26.keep K29 nin0).keep K65 nin0)
    have c71 : Fld Z T65.heap o1 "com/example/tierline/tierline/csv/LineProblems$Problem" "conflict" "Z" (.int co) := ((c27.keep K29 nin0).keep K65 nin0)
    have z72 : n0 ≤ T65.heap.size := (Nat.le_trans z64 K65.1)
    -- pc 41: LineProblems.listsAfter by rm486
    obtain ⟨_, _, ⟨T73, L73, k73, n73⟩, -, X73, ⟨Lc73, hQ73, l73, y73, z73'⟩, st73⟩ := Jvm.LawKit.callS X67 hx (y := (⟨"com/example/tierline/tierline/csv/LineProblems", "listsAfter", "(Lcom/example/tierline/tierline/csv/LineProblems$Problem;Lcom/example/tierline/tierline/csv/LineProblems$Problem;Z)Z"⟩ : MethodName)) hown (mvT hZ (hw _ (List.mem_of_getElem? (i := 171) rfl))) (mvT hZ (hw _ (List.mem_of_getElem? (i := 172) rfl))) (mvT hZ (hw _ (List.mem_of_getElem? (i := 2) rfl))) (mvT hZ (hw _ (List.mem_of_getElem? (i := 173) rfl))) (by decide) (backOf (W := 0) (rm486 l Z a0 hw [] x0 o1 p2 l0 c0 lo co T65.heap n0 z72 c68 c69 c70 c71) hZ (hw _ (List.mem_of_getElem? (i := 173) rfl)) (hw _ (List.mem_of_getElem? (i := 2) rfl)) (by decide) (by decide)) (g := (mkF m 41 #[.val (.ref o0), .val (.ref o1), .val (.int p2), .val (.int (1 : Int32))] [(.int p2), (.ref o1), (.ref x0)])) rfl (by rw [hml]; rfl) (argsL := [(.ref x0), (.ref o1), (.int p2)]) (rest := []) (lenOf pd_16 rfl) rfl (by show 2 * 0 + _ ≤ _; exact Nat.le_of_eq rfl) (hb hby d485_41) (fun _ _ => ⟨rfl, e67, (by decide : 0 + 0 ≤ _), (by decide : 0 + 0 ≤ _)⟩)
    dsimp only [Pt.U, Pt.locs, Pt.cells, Pt.slots] at X73 l73 y73 z73' st73 hQ73
    subst l73 y73 z73'
    obtain ⟨rv_73, rfl, N73q, K73⟩ := hQ73
    have N73 := Fr.app N65 N73q
    have J73 : Keep h0 T73.heap [o0, li, arr] := J65.trans K73 all0
    have pre74 : ∀ t, Steps p.tables e below (T73.setTop (mkF m 44 #[.val (.ref o0), .val (.ref o1), .val (.int p2), .val (.int (1 : Int32))] [(.int rv_73)])) t → Steps p.tables e below (s₁.setTop (entryFrame m #[(.ref o0), (.ref o1), (.int p2)] 4)) t := by
      intro t kt
      refine pre30 _ ?_
      show Steps p.tables e below (T29.setTop (mkF m 44 #[.val (.ref o0), .val (.ref o1), .val (.int p2), .val (.int (2 : Int32))] [(.int rv_29)])) _
      refine XS.ifNo X29.here hx rfl (hb hby d485_44) rfl ((if0 _ _).trans (feq hc44_31).1) ?_
      show Steps p.tables e below (T29.setTop (mkF m 47 #[.val (.ref o0), .val (.ref o1), .val (.int p2), .val (.int (2 : Int32))] [])) _
      refine XS.iinc X29.here hx rfl (hb hby d485_47) rfl (l' := #[.val (.ref o0), .val (.ref o1), .val (.int p2), .val (.int (1 : Int32))]) rfl ?_
      show Steps p.tables e below (T29.setTop (mkF m 50 #[.val (.ref o0), .val (.ref o1), .val (.int p2), .val (.int (1 : Int32))] [])) _
      refine XS.goto X29.here hx rfl (pc0 := 50) (pc' := 20) rfl (hb hby d485_50) (by decide) (by decide) ?_
      show Steps p.tables e below (T29.setTop (mkF m 20 #[.val (.ref o0), .val (.ref o1), .val (.int p2), .val (.int (1 : Int32))] [])) _
      refine XS.iloadN X29.here hx rfl (hb hby d485_20) rfl ?_
      show Steps p.tables e below (T29.setTop (mkF m 21 #[.val (.ref o0), .val (.ref o1), .val (.int p2), .val (.int (1 : Int32))] [(.int (1 : Int32))])) _
      refine XS.ifNo X29.here hx rfl (hb hby d485_21) rfl ((if0 _ _).trans (tlt (by decide)).2.2.2) ?_
      show Steps p.tables e below (T29.setTop (mkF m 24 #[.val (.ref o0), .val (.ref o1), .val (.int p2), .val (.int (1 : Int32))] [])) _
      refine XS.aloadN X29.here hx rfl (hb hby d485_24) rfl rfl ?_
      show Steps p.tables e below (T29.setTop (mkF m 25 #[.val (.ref o0), .val (.ref o1), .val (.int p2), .val (.int (1 : Int32))] [(.ref o0)])) _
      refine st59 _ ?_
      show Steps p.tables e below (T59.setTop (mkF m 28 #[.val (.ref o0), .val (.ref o1), .val (.int p2), .val (.int (1 : Int32))] [(.ref li)])) _
      refine XS.iloadN X59.here hx rfl (hb hby d485_28) rfl ?_
      show Steps p.tables e below (T59.setTop (mkF m 29 #[.val (.ref o0), .val (.ref o1), .val (.int p2), .val (.int (1 : Int32))] [(.int (1 : Int32)), (.ref li)])) _
      refine XS.iconst X59.here hx rfl (hb hby d485_29) ?_
      show Steps p.tables e below (T59.setTop (mkF m 30 #[.val (.ref o0), .val (.ref o1), .val (.int p2), .val (.int (1 : Int32))] [(.int (1 : Int32)), (.int (1 : Int32)), (.ref li)])) _
      refine XS.isub X59.here hx rfl (hb hby d485_30) rfl ?_
      show Steps p.tables e below (T59.setTop (mkF m 31 #[.val (.ref o0), .val (.ref o1), .val (.int p2), .val (.int (1 : Int32))] [(.int (0 : Int32)), (.ref li)])) _
      refine st65.trans ?_
      show Steps p.tables e below (T65.setTop (mkF m 36 #[.val (.ref o0), .val (.ref o1), .val (.int p2), .val (.int (1 : Int32))] [(.ref x0)])) _
      refine st67 _ ?_
      show Steps p.tables e below (T67.setTop (mkF m 39 #[.val (.ref o0), .val (.ref o1), .val (.int p2), .val (.int (1 : Int32))] [(.ref x0)])) _
      refine XS.aloadN X67.here hx rfl (hb hby d485_39) rfl rfl ?_
      show Steps p.tables e below (T67.setTop (mkF m 40 #[.val (.ref o0), .val (.ref o1), .val (.int p2), .val (.int (1 : Int32))] [(.ref o1), (.ref x0)])) _
      refine XS.iloadN X67.here hx rfl (hb hby d485_40) rfl ?_
      show Steps p.tables e below (T67.setTop (mkF m 41 #[.val (.ref o0), .val (.ref o1), .val (.int p2), .val (.int (1 : Int32))] [(.int p2), (.ref o1), (.ref x0)])) _
      refine st73 _ ?_
      exact kt
    by_cases hc44_75 : rv_73 = (0 : Int32)
    · skip
      have c76 : Fld Z T73.heap o0 "com/example/tierline/tierline/csv/LineProblems" "listed" "Ljava/util/List;" (.ref li) := ((c58.keep K65 nin0).keep K73 nin0)
      obtain ⟨T77, X77, e77, st77⟩ := getF X73 hx hZ hown (host := "") (Or.inl (hw _ (List.mem_of_getElem? (i := 41) rfl))) Via.refl rfl c76 (g := (mkF m 60 #[.val (.ref o0), .val (.ref o1), .val (.int p2), .val (.int (1 : Int32))] [(.ref o0)])) rfl rfl (hb hby d485_60)
      have c78 : Exa Z T73.heap li "java/util/ArrayList" := ((c60.keep K65).keep K73)
      have c79 : Fld Z T73.heap li "java/util/ArrayList" "elementData" "[Ljava/lang/Object;" (.ref arr) := ((c62.keep K65 nin0).keep K73 nin0)
      have c80 : Arv Z T73.heap arr ka (.object "java/lang/Object") (10 : Int32) [(.ref x0), (.ref x1)] .null := ((c63.keep K65 nin0).keep K73 nin0)
      have c81 : Fld Z T73.heap li "java/util/ArrayList" "size" "I" (.int (2 : Int32)) := ((c61.keep K65 nin0).keep K73 nin0)
      have c82 : Fld Z T73.heap li "java/util/AbstractList" "modCount" "I" (.int mc) := ((((((F_modCount_li.other W7 (Or.inl ne3)).keep K12 nin0).keep K21 nin0).keep K29 nin0).keep K65 nin0).keep K73 nin0)
      have c83 : Exa Z T73.heap o1 "com/example/tierline/tierline/csv/LineProblems$Problem" := ((((((E_o1.wr W7).keep K12).keep K21).keep K29).keep K65).keep K73)
      have c84 : Exa Z T73.heap x0 "com/example/tierline/tierline/csv/LineProblems$Problem" := (c66.keep K73)
      have c85 : Exa Z T73.heap x1 "com/example/tierline/tierline/csv/LineProblems$Problem" := (((c22.keep K29).keep K65).keep K73)
      have ne86 : arr ≠ li := (Ne.symm (Exa.neArv c78 c80 (hw _ (List.mem_of_getElem? (i := 18) rfl))))
      have ne87 : o1 ≠ li := (ne_exa c83 c78 (by decide))
      have ne88 : x0 ≠ li := (ne_exa c84 c78 (by decide))
      have ne89 : x1 ≠ li := (ne_exa c85 c78 (by decide))
      have ne90 : o1 ≠ arr := (Exa.neArv c83 c80 (hw _ (List.mem_of_getElem? (i := 81) rfl)))
      have ne91 : x0 ≠ arr := (Exa.neArv c84 c80 (hw _ (List.mem_of_getElem? (i := 81) rfl)))
      have ne92 : x1 ≠ arr := (Exa.neArv c85 c80 (hw _ (List.mem_of_getElem? (i := 81) rfl)))
      have z93 : n0 ≤ T73.heap.size := (Nat.le_trans z72 K73.1)
      obtain ⟨cq94, kq94, q94a, q94b, q94c⟩ := isOf hZ e77 c78
      -- pc 65: List.add by rm3826_2_1
      obtain ⟨_, _, ⟨T94, L94, k94, n94⟩, -, X94, ⟨Lc94, hQ94, l94, y94, z94'⟩, st94⟩ := X77.interfaceBack hx (xi := (⟨"java/util/List", "add", "(ILjava/lang/Object;)V"⟩ : MethodName)) (y := (⟨"java/util/ArrayList", "add", "(ILjava/lang/Object;)V"⟩ : MethodName)) hown (mvT hZ (hw _ (List.mem_of_getElem? (i := 108) rfl))) (mvT hZ (hw _ (List.mem_of_getElem? (i := 109) rfl))) (mvT hZ (hw _ (List.mem_of_getElem? (i := 110) rfl))) (mvT hZ (hw _ (List.mem_of_getElem? (i := 111) rfl))) (mvT hZ (hw _ (List.mem_of_getElem? (i := 112) rfl))) (mvT hZ (hw _ (List.mem_of_getElem? (i := 113) rfl))) (mvT hZ (hw _ (List.mem_of_getElem? (i := 114) rfl))) (mvT hZ (hw _ (List.mem_of_getElem? (i := 104) rfl))) (by decide) (backOf (W := 0) (rm3826_2_1 l Z a0 hw [] li o1 arr ka mc x0 x1 T73.heap n0 z93 c78 c79 c80 ovr_ka c81 c82 g_li g_arr c83 c84 c85) hZ (hw _ (List.mem_of_getElem? (i := 115) rfl)) (hw _ (List.mem_of_getElem? (i := 19) rfl)) (by decide) (by decide)) q94a q94b q94c (g := (mkF m 65 #[.val (.ref o0), .val (.ref o1), .val (.int p2), .val (.int (1 : Int32))] [(.ref o1), (.int (1 : Int32)), (.ref li)])) rfl (by rw [hml]; rfl) (Steps.refl _) (argsL := [(.int (1 : Int32)), (.ref o1)]) (rest := []) (lenOf pd_11 rfl) rfl (by show 2 * 0 + _ ≤ _; exact Nat.le_of_eq rfl) (hb hby d485_65) (fun _ _ => ⟨rfl, e77, (by decide : 0 + 0 ≤ _), (by decide : 0 + 0 ≤ _)⟩)
      dsimp only [Pt.U, Pt.locs, Pt.cells, Pt.slots] at X94 l94 y94 z94' st94 hQ94
      subst l94 y94 z94'
      obtain ⟨rfl, N94q, K94, r0_94, r1_94, r2_94, r3_94⟩ := hQ94
      have N94 := Fr.app N73 N94q
      have J94 : Keep h0 T94.heap [o0, li, arr] := J73.trans K94 (allS (Or.inl (List.mem_of_getElem? (i := 1) rfl)) (allS (Or.inl (List.mem_of_getElem? (i := 2) rfl)) all0))
      have c95 : Fld Z T94.heap o0 "com/example/tierline/tierline/csv/LineProblems" "listed" "Ljava/util/List;" (.ref li) := (c76.keep K94 (ninS (Ne.symm ne3) (ninS (Ne.symm ne2) nin0)))
      obtain ⟨T96, X96, e96, st96⟩ := getF X94 hx hZ hown (host := "") (Or.inl (hw _ (List.mem_of_getElem? (i := 41) rfl))) Via.refl rfl c95 (g := (mkF m 71 #[.val (.ref o0), .val (.ref o1), .val (.int p2), .val (.int (1 : Int32))] [(.ref o0)])) rfl rfl (hb hby d485_71)
      have z97 : n0 ≤ T94.heap.size := (Nat.le_trans z93 K94.1)
      have c99 : Exa Z T94.heap li "java/util/ArrayList" := (c78.keep K94)
      obtain ⟨cq98, kq98, q98a, q98b, q98c⟩ := isOf hZ e96 c99
      -- pc 74: List.size by rm388
      obtain ⟨_, _, ⟨T98, L98, k98, n98⟩, -, X98, ⟨Lc98, hQ98, l98, y98, z98'⟩, st98⟩ := X96.interfaceBack hx (xi := (⟨"java/util/List", "size", "()I"⟩ : MethodName)) (y := (⟨"java/util/ArrayList", "size", "()I"⟩ : MethodName)) hown (mvT hZ (hw _ (List.mem_of_getElem? (i := 97) rfl))) (mvT hZ (hw _ (List.mem_of_getElem? (i := 98) rfl))) (mvT hZ (hw _ (List.mem_of_getElem? (i := 99) rfl))) (mvT hZ (hw _ (List.mem_of_getElem? (i := 100) rfl))) (mvT hZ (hw _ (List.mem_of_getElem? (i := 101) rfl))) (mvT hZ (hw _ (List.mem_of_getElem? (i := 102) rfl))) (mvT hZ (hw _ (List.mem_of_getElem? (i := 103) rfl))) (mvT hZ (hw _ (List.mem_of_getElem? (i := 104) rfl))) (by decide) (backOf (W := 0) (rm388 l Z a0 hw [] li (3 : Int32) T94.heap n0 z97 r0_94) hZ (hw _ (List.mem_of_getElem? (i := 105) rfl)) (hw _ (List.mem_of_getElem? (i := 19) rfl)) (by decide) (by decide)) q98a q98b q98c (g := (mkF m 74 #[.val (.ref o0), .val (.ref o1), .val (.int p2), .val (.int (1 : Int32))] [(.ref li)])) rfl (by rw [hml]; rfl) (Steps.refl _) (argsL := []) (rest := []) (lenOf pd_10 rfl) rfl (by show 2 * 0 + _ ≤ _; exact Nat.le_of_eq rfl) (hb hby d485_74) (fun _ _ => ⟨rfl, e96, (by decide : 0 + 0 ≤ _), (by decide : 0 + 0 ≤ _)⟩)
      dsimp only [Pt.U, Pt.locs, Pt.cells, Pt.slots] at X98 l98 y98 z98' st98 hQ98
      subst l98 y98 z98'
      obtain ⟨rfl, N98q, K98⟩ := hQ98
      have N98 := Fr.app N94 N98q
      have J98 : Keep h0 T98.heap [o0, li, arr] := J94.trans K98 all0
      have c100 : Fld Z T98.heap o0 "com/example/tierline/tierline/csv/LineProblems" "count" "J" (.long (cnt + (1 : Int64))) := (((((((Fw7.keep K12 nin0).keep K21 nin0).keep K29 nin0).keep K65 nin0).keep K73 nin0).keep K94 (ninS (Ne.symm ne3) (ninS (Ne.symm ne2) nin0))).keep K98 nin0)
      have c101 : Fld Z T98.heap o0 "com/example/tierline/tierline/csv/LineProblems" "listed" "Ljava/util/List;" (.ref li) := (c95.keep K98 nin0)
      obtain ⟨fs, hr, hrun, hended, hW, hsame⟩ := X98.leave (v := none) (fun _ => rfl)
      refine ⟨_, _, pre74 _ ?_, hrun, hended, _, _, rfl, ?_, ⟨_, rfl⟩, hW, hsame.mono (by decide) (by decide)⟩
      · show Steps p.tables e below (T73.setTop (mkF m 44 #[.val (.ref o0), .val (.ref o1), .val (.int p2), .val (.int (1 : Int32))] [(.int rv_73)])) _
        refine XS.ifYes X73.here hx rfl (pc0 := 44) (pc' := 53) rfl (hb hby d485_44) rfl ((if0 _ _).trans (teq hc44_75).1) (by decide) (by decide) ?_
        show Steps p.tables e below (T73.setTop (mkF m 53 #[.val (.ref o0), .val (.ref o1), .val (.int p2), .val (.int (1 : Int32))] [])) _
        refine XS.iloadN X73.here hx rfl (hb hby d485_53) rfl ?_
        show Steps p.tables e below (T73.setTop (mkF m 54 #[.val (.ref o0), .val (.ref o1), .val (.int p2), .val (.int (1 : Int32))] [(.int (1 : Int32))])) _
        refine XS.bipush X73.here hx rfl (hb hby d485_54) ?_
        show Steps p.tables e below (T73.setTop (mkF m 56 #[.val (.ref o0), .val (.ref o1), .val (.int p2), .val (.int (1 : Int32))] [(.int (100 : Int32)), (.int (1 : Int32))])) _
        refine XS.icmpNo X73.here hx rfl (hb hby d485_56) rfl (tlt (by decide)).2.1 ?_
        show Steps p.tables e below (T73.setTop (mkF m 59 #[.val (.ref o0), .val (.ref o1), .val (.int p2), .val (.int (1 : Int32))] [])) _
        refine XS.aloadN X73.here hx rfl (hb hby d485_59) rfl rfl ?_
        show Steps p.tables e below (T73.setTop (mkF m 60 #[.val (.ref o0), .val (.ref o1), .val (.int p2), .val (.int (1 : Int32))] [(.ref o0)])) _
        refine st77 _ ?_
        show Steps p.tables e below (T77.setTop (mkF m 63 #[.val (.ref o0), .val (.ref o1), .val (.int p2), .val (.int (1 : Int32))] [(.ref li)])) _
        refine XS.iloadN X77.here hx rfl (hb hby d485_63) rfl ?_
        show Steps p.tables e below (T77.setTop (mkF m 64 #[.val (.ref o0), .val (.ref o1), .val (.int p2), .val (.int (1 : Int32))] [(.int (1 : Int32)), (.ref li)])) _
        refine XS.aloadN X77.here hx rfl (hb hby d485_64) rfl rfl ?_
        show Steps p.tables e below (T77.setTop (mkF m 65 #[.val (.ref o0), .val (.ref o1), .val (.int p2), .val (.int (1 : Int32))] [(.ref o1), (.int (1 : Int32)), (.ref li)])) _
        refine st94.trans ?_
        show Steps p.tables e below (T94.setTop (mkF m 70 #[.val (.ref o0), .val (.ref o1), .val (.int p2), .val (.int (1 : Int32))] [])) _
        refine XS.aloadN X94.here hx rfl (hb hby d485_70) rfl rfl ?_
        show Steps p.tables e below (T94.setTop (mkF m 71 #[.val (.ref o0), .val (.ref o1), .val (.int p2), .val (.int (1 : Int32))] [(.ref o0)])) _
        refine st96 _ ?_
        show Steps p.tables e below (T96.setTop (mkF m 74 #[.val (.ref o0), .val (.ref o1), .val (.int p2), .val (.int (1 : Int32))] [(.ref li)])) _
        refine st98.trans ?_
        show Steps p.tables e below (T98.setTop (mkF m 79 #[.val (.ref o0), .val (.ref o1), .val (.int p2), .val (.int (1 : Int32))] [(.int (3 : Int32))])) _
        refine XS.bipush X98.here hx rfl (hb hby d485_79) ?_
        show Steps p.tables e below (T98.setTop (mkF m 81 #[.val (.ref o0), .val (.ref o1), .val (.int p2), .val (.int (1 : Int32))] [(.int (100 : Int32)), (.int (3 : Int32))])) _
        refine XS.icmpYes X98.here hx rfl (pc0 := 81) (pc' := 96) rfl (hb hby d485_81) rfl (flt (by decide)).2.2.2 (by decide) (by decide) ?_
        show Steps p.tables e below (T98.setTop (mkF m 96 #[.val (.ref o0), .val (.ref o1), .val (.int p2), .val (.int (1 : Int32))] [])) _
        exact X98.returnOut hx Bd.returns (hb hby d485_96) hr
      · show Q485_2 Z o0 o1 p2 cnt li mc arr ka x0 l0 c0 x1 l1 c1 lo co h0 n0 _ T98.heap _
        exact ⟨rfl, N98, J98, c100, c101⟩
    · skip
      have c102 : Fld Z T73.heap o0 "com/example/tierline/tierline/csv/LineProblems" "listed" "Ljava/util/List;" (.ref li) := ((c58.keep K65 nin0).keep K73 nin0)
      obtain ⟨T103, X103, e103, st103⟩ := getF X73 hx hZ hown (host := "") (Or.inl (hw _ (List.mem_of_getElem? (i := 41) rfl))) Via.refl rfl c102 (g := (mkF m 60 #[.val (.ref o0), .val (.ref o1), .val (.int p2), .val (.int (0 : Int32))] [(.ref o0)])) rfl rfl (hb hby d485_60)
      have c104 : Exa Z T73.heap li "java/util/ArrayList" := ((c60.keep K65).keep K73)
      have c105 : Fld Z T73.heap li "java/util/ArrayList" "elementData" "[Ljava/lang/Object;" (.ref arr) := ((c62.keep K65 nin0).keep K73 nin0)
      have c106 : Arv Z T73.heap arr ka (.object "java/lang/Object") (10 : Int32) [(.ref x0), (.ref x1)] .null := ((c63.keep K65 nin0).keep K73 nin0)
      have c107 : Fld Z T73.heap li "java/util/ArrayList" "size" "I" (.int (2 : Int32)) := ((c61.keep K65 nin0).keep K73 nin0)
      have c108 : Fld Z T73.heap li "java/util/AbstractList" "modCount" "I" (.int mc) := ((((((F_modCount_li.other W7 (Or.inl ne3)).keep K12 nin0).keep K21 nin0).keep K29 nin0).keep K65 nin0).keep K73 nin0)
      have c109 : Exa Z T73.heap o1 "com/example/tierline/tierline/csv/LineProblems$Problem" := ((((((E_o1.wr W7).keep K12).keep K21).keep K29).keep K65).keep K73)
      have c110 : Exa Z T73.heap x0 "com/example/tierline/tierline/csv/LineProblems$Problem" := (c66.keep K73)
      have c111 : Exa Z T73.heap x1 "com/example/tierline/tierline/csv/LineProblems$Problem" := (((c22.keep K29).keep K65).keep K73)
      have ne112 : arr ≠ li := (Ne.symm (Exa.neArv c104 c106 (hw _ (List.mem_of_getElem? (i := 18) rfl))))
      have ne113 : o1 ≠ li := (ne_exa c109 c104 (by decide))
      have ne114 : x0 ≠ li := (ne_exa c110 c104 (by decide))
      have ne115 : x1 ≠ li := (ne_exa c111 c104 (by decide))
      have ne116 : o1 ≠ arr := (Exa.neArv c109 c106 (hw _ (List.mem_of_getElem? (i := 81) rfl)))
      have ne117 : x0 ≠ arr := (Exa.neArv c110 c106 (hw _ (List.mem_of_getElem? (i := 81) rfl)))
      have ne118 : x1 ≠ arr := (Exa.neArv c111 c106 (hw _ (List.mem_of_getElem? (i := 81) rfl)))
      have z119 : n0 ≤ T73.heap.size := (Nat.le_trans z72 K73.1)
      obtain ⟨cq120, kq120, q120a, q120b, q120c⟩ := isOf hZ e103 c104
      -- pc 65: List.add by rm3826_2_0
      obtain ⟨_, _, ⟨T120, L120, k120, n120⟩, -, X120, ⟨Lc120, hQ120, l120, y120, z120'⟩, st120⟩ := X103.interfaceBack hx (xi := (⟨"java/util/List", "add", "(ILjava/lang/Object;)V"⟩ : MethodName)) (y := (⟨"java/util/ArrayList", "add", "(ILjava/lang/Object;)V"⟩ : MethodName)) hown (mvT hZ (hw _ (List.mem_of_getElem? (i := 108) rfl))) (mvT hZ (hw _ (List.mem_of_getElem? (i := 109) rfl))) (mvT hZ (hw _ (List.mem_of_getElem? (i := 110) rfl))) (mvT hZ (hw _ (List.mem_of_getElem? (i := 111) rfl))) (mvT hZ (hw _ (List.mem_of_getElem? (i := 112) rfl))) (mvT hZ (hw _ (List.mem_of_getElem? (i := 113) rfl))) (mvT hZ (hw _ (List.mem_of_getElem? (i := 114) rfl))) (mvT hZ (hw _ (List.mem_of_getElem? (i := 104) rfl))) (by decide) (backOf (W := 0) (rm3826_2_0 l Z a0 hw [] li o1 arr ka mc x0 x1 T73.heap n0 z119 c104 c105 c106 ovr_ka c107 c108 g_li g_arr c109 c110 c111) hZ (hw _ (List.mem_of_getElem? (i := 115) rfl)) (hw _ (List.mem_of_getElem? (i := 19) rfl)) (by decide) (by decide)) q120a q120b q120c (g := (mkF m 65 #[.val (.ref o0), .val (.ref o1), .val (.int p2), .val (.int (0 : Int32))] [(.ref o1), (.int (0 : Int32)), (.ref li)])) rfl (by rw [hml]; rfl) (Steps.refl _) (argsL := [(.int (0 : Int32)), (.ref o1)]) (rest := []) (lenOf pd_11 rfl) rfl (by show 2 * 0 + _ ≤ _; exact Nat.le_of_eq rfl) (hb hby d485_65) (fun _ _ => ⟨rfl, e103, (by decide : 0 + 0 ≤ _), (by decide : 0 + 0 ≤ _)⟩)
      dsimp only [Pt.U, Pt.locs, Pt.cells, Pt.slots] at X120 l120 y120 z120' st120 hQ120
      subst l120 y120 z120'
      obtain ⟨rfl, N120q, K120, r0_120, r1_120, r2_120, r3_120⟩ := hQ120
      have N120 := Fr.app N73 N120q
      have J120 : Keep h0 T120.heap [o0, li, arr] := J73.trans K120 (allS (Or.inl (List.mem_of_getElem? (i := 1) rfl)) (allS (Or.inl (List.mem_of_getElem? (i := 2) rfl)) all0))
      have c121 : Fld Z T120.heap o0 "com/example/tierline/tierline/csv/LineProblems" "listed" "Ljava/util/List;" (.ref li) := (c102.keep K120 (ninS (Ne.symm ne3) (ninS (Ne.symm ne2) nin0)))
      obtain ⟨T122, X122, e122, st122⟩ := getF X120 hx hZ hown (host := "") (Or.inl (hw _ (List.mem_of_getElem? (i := 41) rfl))) Via.refl rfl c121 (g := (mkF m 71 #[.val (.ref o0), .val (.ref o1), .val (.int p2), .val (.int (0 : Int32))] [(.ref o0)])) rfl rfl (hb hby d485_71)
      have z123 : n0 ≤ T120.heap.size := (Nat.le_trans z119 K120.1)
      have c125 : Exa Z T120.heap li "java/util/ArrayList" := (c104.keep K120)
      obtain ⟨cq124, kq124, q124a, q124b, q124c⟩ := isOf hZ e122 c125
      -- pc 74: List.size by rm388
      obtain ⟨_, _, ⟨T124, L124, k124, n124⟩, -, X124, ⟨Lc124, hQ124, l124, y124, z124'⟩, st124⟩ := X122.interfaceBack hx (xi := (⟨"java/util/List", "size", "()I"⟩ : MethodName)) (y := (⟨"java/util/ArrayList", "size", "()I"⟩ : MethodName)) hown (mvT hZ (hw _ (List.mem_of_getElem? (i := 97) rfl))) (mvT hZ (hw _ (List.mem_of_getElem? (i := 98) rfl))) (mvT hZ (hw _ (List.mem_of_getElem? (i := 99) rfl))) (mvT hZ (hw _ (List.mem_of_getElem? (i := 100) rfl))) (mvT hZ (hw _ (List.mem_of_getElem? (i := 101) rfl))) (mvT hZ (hw _ (List.mem_of_getElem? (i := 102) rfl))) (mvT hZ (hw _ (List.mem_of_getElem? (i := 103) rfl))) (mvT hZ (hw _ (List.mem_of_getElem? (i := 104) rfl))) (by decide) (backOf (W := 0) (rm388 l Z a0 hw [] li (3 : Int32) T120.heap n0 z123 r0_120) hZ (hw _ (List.mem_of_getElem? (i := 105) rfl)) (hw _ (List.mem_of_getElem? (i := 19) rfl)) (by decide) (by decide)) q124a q124b q124c (g := (mkF m 74 #[.val (.ref o0), .val (.ref o1), .val (.int p2), .val (.int (0 : Int32))] [(.ref li)])) rfl (by rw [hml]; rfl) (Steps.refl _) (argsL := []) (rest := []) (lenOf pd_10 rfl) rfl (by show 2 * 0 + _ ≤ _; exact Nat.le_of_eq rfl) (hb hby d485_74) (fun _ _ => ⟨rfl, e122, (by decide : 0 + 0 ≤ _), (by decide : 0 + 0 ≤ _)⟩)
      dsimp only [Pt.U, Pt.locs, Pt.cells, Pt.slots] at X124 l124 y124 z124' st124 hQ124
      subst l124 y124 z124'
      obtain ⟨rfl, N124q, K124⟩ := hQ124
      have N124 := Fr.app N120 N124q
      have J124 : Keep h0 T124.heap [o0, li, arr] := J120.trans K124 all0
      have c126 : Fld Z T124.heap o0 "com/example/tierline/tierline/csv/LineProblems" "count" "J" (.long (cnt + (1 : Int64))) := (((((((Fw7.keep K12 nin0).keep K21 nin0).keep K29 nin0).keep K65 nin0).keep K73 nin0).keep K120 (ninS (Ne.symm ne3) (ninS (Ne.symm ne2) nin0))).keep K124 nin0)
      have c127 : Fld Z T124.heap o0 "com/example/tierline/tierline/csv/LineProblems" "listed" "Ljava/util/List;" (.ref li) := (c121.keep K124 nin0)
      obtain ⟨fs, hr, hrun, hended, hW, hsame⟩ := X124.leave (v := none) (fun _ => rfl)
      refine ⟨_, _, pre74 _ ?_, hrun, hended, _, _, rfl, ?_, ⟨_, rfl⟩, hW, hsame.mono (by decide) (by decide)⟩
      · show Steps p.tables e below (T73.setTop (mkF m 44 #[.val (.ref o0), .val (.ref o1), .val (.int p2), .val (.int (1 : Int32))] [(.int rv_73)])) _
        refine XS.ifNo X73.here hx rfl (hb hby d485_44) rfl ((if0 _ _).trans (feq hc44_75).1) ?_
        show Steps p.tables e below (T73.setTop (mkF m 47 #[.val (.ref o0), .val (.ref o1), .val (.int p2), .val (.int (1 : Int32))] [])) _
        refine XS.iinc X73.here hx rfl (hb hby d485_47) rfl (l' := #[.val (.ref o0), .val (.ref o1), .val (.int p2), .val (.int (0 : Int32))]) rfl ?_
        show Steps p.tables e below (T73.setTop (mkF m 50 #[.val (.ref o0), .val (.ref o1), .val (.int p2), .val (.int (0 : Int32))] [])) _
        refine XS.goto X73.here hx rfl (pc0 := 50) (pc' := 20) rfl (hb hby d485_50) (by decide) (by decide) ?_
        show Steps p.tables e below (T73.setTop (mkF m 20 #[.val (.ref o0), .val (.ref o1), .val (.int p2), .val (.int (0 : Int32))] [])) _
        refine XS.iloadN X73.here hx rfl (hb hby d485_20) rfl ?_
        show Steps p.tables e below (T73.setTop (mkF m 21 #[.val (.ref o0), .val (.ref o1), .val (.int p2), .val (.int (0 : Int32))] [(.int (0 : Int32))])) _
        refine XS.ifYes X73.here hx rfl (pc0 := 21) (pc' := 53) rfl (hb hby d485_21) rfl ((if0 _ _).trans (flt (by decide)).2.2.2) (by decide) (by decide) ?_
        show Steps p.tables e below (T73.setTop (mkF m 53 #[.val (.ref o0), .val (.ref o1), .val (.int p2), .val (.int (0 : Int32))] [])) _
        refine XS.iloadN X73.here hx rfl (hb hby d485_53) rfl ?_
        show Steps p.tables e below (T73.setTop (mkF m 54 #[.val (.ref o0), .val (.ref o1), .val (.int p2), .val (.int (0 : Int32))] [(.int (0 : Int32))])) _
        refine XS.bipush X73.here hx rfl (hb hby d485_54) ?_
        show Steps p.tables e below (T73.setTop (mkF m 56 #[.val (.ref o0), .val (.ref o1), .val (.int p2), .val (.int (0 : Int32))] [(.int (100 : Int32)), (.int (0 : Int32))])) _
        refine XS.icmpNo X73.here hx rfl (hb hby d485_56) rfl (tlt (by decide)).2.1 ?_
        show Steps p.tables e below (T73.setTop (mkF m 59 #[.val (.ref o0), .val (.ref o1), .val (.int p2), .val (.int (0 : Int32))] [])) _
        refine XS.aloadN X73.here hx rfl (hb hby d485_59) rfl rfl ?_
        show Steps p.tables e below (T73.setTop (mkF m 60 #[.val (.ref o0), .val (.ref o1), .val (.int p2), .val (.int (0 : Int32))] [(.ref o0)])) _
        refine st103 _ ?_
        show Steps p.tables e below (T103.setTop (mkF m 63 #[.val (.ref o0), .val (.ref o1), .val (.int p2), .val (.int (0 : Int32))] [(.ref li)])) _
        refine XS.iloadN X103.here hx rfl (hb hby d485_63) rfl ?_
        show Steps p.tables e below (T103.setTop (mkF m 64 #[.val (.ref o0), .val (.ref o1), .val (.int p2), .val (.int (0 : Int32))] [(.int (0 : Int32)), (.ref li)])) _
        refine XS.aloadN X103.here hx rfl (hb hby d485_64) rfl rfl ?_
        show Steps p.tables e below (T103.setTop (mkF m 65 #[.val (.ref o0), .val (.ref o1), .val (.int p2), .val (.int (0 : Int32))] [(.ref o1), (.int (0 : Int32)), (.ref li)])) _
        refine st120.trans ?_
        show Steps p.tables e below (T120.setTop (mkF m 70 #[.val (.ref o0), .val (.ref o1), .val (.int p2), .val (.int (0 : Int32))] [])) _
        refine XS.aloadN X120.here hx rfl (hb hby d485_70) rfl rfl ?_
        show Steps p.tables e below (T120.setTop (mkF m 71 #[.val (.ref o0), .val (.ref o1), .val (.int p2), .val (.int (0 : Int32))] [(.ref o0)])) _
        refine st122 _ ?_
        show Steps p.tables e below (T122.setTop (mkF m 74 #[.val (.ref o0), .val (.ref o1), .val (.int p2), .val (.int (0 : Int32))] [(.ref li)])) _
        refine st124.trans ?_
        show Steps p.tables e below (T124.setTop (mkF m 79 #[.val (.ref o0), .val (.ref o1), .val (.int p2), .val (.int (0 : Int32))] [(.int (3 : Int32))])) _
        refine XS.bipush X124.here hx rfl (hb hby d485_79) ?_
        show Steps p.tables e below (T124.setTop (mkF m 81 #[.val (.ref o0), .val (.ref o1), .val (.int p2), .val (.int (0 : Int32))] [(.int (100 : Int32)), (.int (3 : Int32))])) _
        refine XS.icmpYes X124.here hx rfl (pc0 := 81) (pc' := 96) rfl (hb hby d485_81) rfl (flt (by decide)).2.2.2 (by decide) (by decide) ?_
        show Steps p.tables e below (T124.setTop (mkF m 96 #[.val (.ref o0), .val (.ref o1), .val (.int p2), .val (.int (0 : Int32))] [])) _
        exact X124.returnOut hx Bd.returns (hb hby d485_96) hr
      · show Q485_2 Z o0 o1 p2 cnt li mc arr ka x0 l0 c0 x1 l1 c1 lo co h0 n0 _ T124.heap _
        exact ⟨rfl, N124, J124, c126, c127⟩
theorem ef_482_2 (m : MethodId) (o0 : Addr) (p1 : Int32) (o2 : Addr) : entryFrame m #[(.ref o0), (.int p1), (.ref o2)] 3 = mkF m 0 #[.val (.ref o0), .val (.int p1), .val (.ref o2)] [] := by first | (simp [entryFrame, mkF, argsToLocals, Value.category]; done) | rfl
def Q482_2 (Z : State) (o0 : Addr) (p1 : Int32) (o2 : Addr) (cnt : Int64) (li : Addr) (mc : Int32) (arr : Addr) (ka : ClassId) (x0 : Addr) (l0 : Int32) (c0 : Int32) (x1 : Addr) (l1 : Int32) (c1 : Int32) (h0 : Heap) (n0 : Nat) (v : Option Value) (h : Heap) (L : List Loc) : Prop := v = none ∧ Fr n0 L ∧ Keep h0 h [o0, li, arr] ∧ Fld Z h o0 "com/example/tierline/tierline/csv/LineProblems" "count" "J" (.long (cnt + (1 : Int64))) ∧ Fld Z h o0 "com/example/tierline/tierline/csv/LineProblems" "listed" "Ljava/util/List;" (.ref li)
set_option maxRecDepth 65536 in
set_option maxHeartbeats 40000000 in
theorem rm482_2 (l : Launch) (Z : State) (a0 : Array Value) (hw : ∀ d ∈ tables_1, d.before a0 Z = true) (ws : List Jvm.Cond) (o0 : Addr) (p1 : Int32) (o2 : Addr) (cnt : Int64) (li : Addr) (mc : Int32) (arr : Addr) (ka : ClassId) (x0 : Addr) (l0 : Int32) (c0 : Int32) (x1 : Addr) (l1 : Int32) (c1 : Int32) (h0 : Heap) (n0 : Nat) (Z0 : n0 ≤ h0.size) (E_o0 : Exa Z h0 o0 "com/example/tierline/tierline/csv/LineProblems") (F_count_o0 : Fld Z h0 o0 "com/example/tierline/tierline/csv/LineProblems" "count" "J" (.long cnt)) (F_listed_o0 : Fld Z h0 o0 "com/example/tierline/tierline/csv/LineProblems" "listed" "Ljava/util/List;" (.ref li)) (E_li : Exa Z h0 li "java/util/ArrayList") (F_size_li : Fld Z h0 li "java/util/ArrayList" "size" "I" (.int (2 : Int32))) (F_modCount_li : Fld Z h0 li "java/util/AbstractList" "modCount" "I" (.int mc)) (g_o0 : n0 ≤ o0) (g_li : n0 ≤ li) (F_elementData_li : Fld Z h0 li "java/util/ArrayList" "elementData" "[Ljava/lang/Object;" (.ref arr)) (V_arr : Arv Z h0 arr ka (.object "java/lang/Object") (10 : Int32) [(.ref x0), (.ref x1)] .null) (ovr_ka : Ovr Z ka "java/lang/Object") (g_arr : n0 ≤ arr) (E_x0 : Exa Z h0 x0 "com/example/tierline/tierline/csv/LineProblems$Problem") (F_line_x0 : Fld Z h0 x0 "com/example/tierline/tierline/csv/LineProblems$Problem" "line" "I" (.int l0)) (F_conflict_x0 : Fld Z h0 x0 "com/example/tierline/tierline/csv/LineProblems$Problem" "conflict" "Z" (.int c0)) (E_x1 : Exa Z h0 x1 "com/example/tierline/tierline/csv/LineProblems$Problem") (F_line_x1 : Fld Z h0 x1 "com/example/tierline/tierline/csv/LineProblems$Problem" "line" "I" (.int l1)) (F_conflict_x1 : Fld Z h0 x1 "com/example/tierline/tierline/csv/LineProblems$Problem" "conflict" "Z" (.int c1)) :
    MetFree l (⟨"com/example/tierline/tierline/csv/LineProblems", "add", "(ILjava/lang/String;)V"⟩ : MethodName) (head1 (Jvm.Cond.code (⟨"com/example/tierline/tierline/csv/LineProblems", "add", "(ILjava/lang/String;)V"⟩ : MethodName) prog_48_method_2_code 3 none :: ws) ({ frames := 4, cells := 1, slots := 3, locals := 55 } : Room)) (fun a U => a = #[(.ref o0), (.int p1), (.ref o2)] ∧ Z.Warmed39 U.vm ∧ U.heap = h0) (fun _ _ _ _ _ => True) (fun _ U o U' => ∃ v L, o = .returned v ∧ Q482_2 Z o0 p1 o2 cnt li mc arr ka x0 l0 c0 x1 l1 c1 h0 n0 v U'.heap L ∧ FrameEnd U o U' L ({ frames := 4, cells := 1, slots := 3, locals := 55 } : Room).cells ({ frames := 4, cells := 1, slots := 3, locals := 55 } : Room).slots) := by
  refine MetFree.of_bodySF (plainFor_of_name pn_com_example_tierline_tierline_csv_LineProblems) hisR ?_
  intro p e s m args below meth c s₁ Bd hml0 hP hK
  obtain ⟨rfl, hZ, hh⟩ := hP
  have hx := Bd.exec
  have hby := Bd.bytes
  have hml : c.maxLocals = 3 := hml0
  have hown : s.vm.findClass "com/example/tierline/tierline/csv/LineProblems" = some m.cls := findClass_of_methodNamed Bd.named
  have hnm := (name_of_methodNamed Bd.named Bd.method).1
  have X0 : Stand p l e ({ frames := 4, cells := 1, slots := 3, locals := 55 } : Room) s m #[(.ref o0), (.int p1), (.ref o2)] below meth c s₁ [] 0 0 := Stand.of_body Bd
  have e0 : s₁.heap = h0 := by rw [← hh, Bd.state]; rfl
  have N0 := Fr.nil n0
  have pre0 : ∀ t, Steps p.tables e below (s₁.setTop (mkF m 0 #[.val (.ref o0), .val (.int p1), .val (.ref o2)] [])) t → Steps p.tables e below (s₁.setTop (entryFrame m #[(.ref o0), (.int p1), (.ref o2)] 3)) t := fun t k => castTop (ef_482_2 m o0 p1 o2) k
  obtain ⟨T1, h1, X1, e1, E1, A1, D1, U1, st1⟩ := newO X0 hx hZ hown (hw _ (List.mem_of_getElem? (i := 80) rfl)) (hw _ (List.mem_of_getElem? (i := 81) rfl)) (hw _ (List.mem_of_getElem? (i := 82) rfl)) e0 (g := (mkF m 1 #[.val (.ref o0), .val (.int p1), .val (.ref o2)] [(.ref o0)])) rfl (hb hby d482_1) (by decide) (by decide)
  obtain ⟨b1, g1⟩ : ∃ z, z = h0.size := ⟨_, rfl⟩
  rw [← g1] at A1 D1 U1 st1
  have g_b1 : n0 ≤ b1 := Nat.le_trans Z0 (Nat.le_of_eq g1.symm)
  have sz_b1 : h0.size ≤ b1 := Nat.le_trans (Keep.refl h0 [o0, li, arr]).1 (Nat.le_of_eq g1.symm)
  have ne2 : o0 ≠ b1 := Nat.ne_of_lt (Nat.lt_of_lt_of_le E_o0.lt (Nat.le_of_eq g1.symm))
  have ne3 : li ≠ b1 := Nat.ne_of_lt (Nat.lt_of_lt_of_le E_li.lt (Nat.le_of_eq g1.symm))
  have ne4 : arr ≠ b1 := Nat.ne_of_lt (Nat.lt_of_lt_of_le V_arr.lt (Nat.le_of_eq g1.symm))
  have ne5 : x0 ≠ b1 := Nat.ne_of_lt (Nat.lt_of_lt_of_le E_x0.lt (Nat.le_of_eq g1.symm))
  have ne6 : x1 ≠ b1 := Nat.ne_of_lt (Nat.lt_of_lt_of_le E_x1.lt (Nat.le_of_eq g1.symm))
  have F_line_b1 : Fld Z h1 b1 "com/example/tierline/tierline/csv/LineProblems$Problem" "line" "I" (.int (0 : Int32)) := D1 (Or.inr (hw _ (List.mem_of_getElem? (i := 88) rfl))) (ty := .int) (by decide)
  have F_reason_b1 : Fld Z h1 b1 "com/example/tierline/tierline/csv/LineProblems$Problem" "reason" "Ljava/lang/String;" .null := D1 (Or.inr (hw _ (List.mem_of_getElem? (i := 90) rfl))) (ty := (.object "java/lang/String")) (by decide)
  have F_conflict_b1 : Fld Z h1 b1 "com/example/tierline/tierline/csv/LineProblems$Problem" "conflict" "Z" (.int (0 : Int32)) := D1 (Or.inr (hw _ (List.mem_of_getElem? (i := 92) rfl))) (ty := .boolean) (by decide)
  have J1 : Keep h0 h1 [o0, li, arr] := (Keep.refl h0 [o0, li, arr]).ext E1
  have z7 : n0 ≤ h1.size := (Nat.le_trans Z0 E1.1)
  -- pc 8: LineProblems$Problem.<init> by rm49
  obtain ⟨_, _, ⟨T8, L8, k8, n8⟩, -, X8, ⟨Lc8, hQ8, l8, y8, z8'⟩, st8⟩ := own_specialBackR X1 hx (y := (⟨"com/example/tierline/tierline/csv/LineProblems$Problem", "<init>", "(ILjava/lang/String;Z)V"⟩ : MethodName)) rfl hown (own_mvRef hZ (hw _ (List.mem_of_getElem? (i := 83) rfl)) (hw _ (List.mem_of_getElem? (i := 84) rfl)) (by decide)) (mvT hZ (hw _ (List.mem_of_getElem? (i := 84) rfl))) (mvT hZ (hw _ (List.mem_of_getElem? (i := 85) rfl))) (by decide) (backOf (W := 2) (rm49 l Z a0 hw [] b1 p1 o2 (0 : Int32) h1 n0 z7 A1 F_line_b1 F_reason_b1 F_conflict_b1 g_b1) hZ (hw _ (List.mem_of_getElem? (i := 85) rfl)) (hw _ (List.mem_of_getElem? (i := 82) rfl)) (by decide) (by decide)) (g := (mkF m 8 #[.val (.ref o0), .val (.int p1), .val (.ref o2)] [(.int (0 : Int32)), (.ref o2), (.int p1), (.ref b1), (.ref b1), (.ref o0)])) rfl (by rw [hml]; rfl) (Steps.refl _) (a := b1) (argsL := [(.int p1), (.ref o2), (.int (0 : Int32))]) (rest := [(.ref b1), (.ref o0)]) (lenOf pd_12 rfl) rfl (by show 2 * 0 + _ ≤ _; exact Nat.le_of_eq rfl) (hb hby d482_8) (fun _ _ => ⟨rfl, e1, (by decide : 1 + 0 ≤ _), (by decide : 3 + 0 ≤ _)⟩)
  dsimp only [Pt.U, Pt.locs, Pt.cells, Pt.slots] at X8 l8 y8 z8' st8 hQ8
  subst l8 y8 z8'
  obtain ⟨rfl, N8q, K8, r0_8, r1_8⟩ := hQ8
  have N8 := Fr.app N0 N8q
  have J8 : Keep h0 T8.heap [o0, li, arr] := J1.trans K8 (allS (Or.inr sz_b1) all0)
  have c9 : Exa Z T8.heap o0 "com/example/tierline/tierline/csv/LineProblems" := ((E_o0.ext E1).keep K8)
  have c10 : Fld Z T8.heap o0 "com/example/tierline/tierline/csv/LineProblems" "count" "J" (.long cnt) := ((F_count_o0.ext E1).keep K8 (ninS ne2 nin0))
  have c11 : Fld Z T8.heap o0 "com/example/tierline/tierline/csv/LineProblems" "listed" "Ljava/util/List;" (.ref li) := ((F_listed_o0.ext E1).keep K8 (ninS ne2 nin0))
  have c12 : Exa Z T8.heap li "java/util/ArrayList" := ((E_li.ext E1).keep K8)
  have c13 : Fld Z T8.heap li "java/util/ArrayList" "size" "I" (.int (2 : Int32)) := ((F_size_li.ext E1).keep K8 (ninS ne3 nin0))
  have c14 : Fld Z T8.heap li "java/util/AbstractList" "modCount" "I" (.int mc) := ((F_modCount_li.ext E1).keep K8 (ninS ne3 nin0))
  have c15 : Fld Z T8.heap li "java/util/ArrayList" "elementData" "[Ljava/lang/Object;" (.ref arr) := ((F_elementData_li.ext E1).keep K8 (ninS ne3 nin0))
  have c16 : Arv Z T8.heap arr ka (.object "java/lang/Object") (10 : Int32) [(.ref x0), (.ref x1)] .null := ((V_arr.ext E1).keep K8 (ninS ne4 nin0))
  have c17 : Exa Z T8.heap x0 "com/example/tierline/tierline/csv/LineProblems$Problem" := ((E_x0.ext E1).keep K8)
  have c18 : Fld Z T8.heap x0 "com/example/tierline/tierline/csv/LineProblems$Problem" "line" "I" (.int l0) := ((F_line_x0.ext E1).keep K8 (ninS ne5 nin0))
  have c19 : Fld Z T8.heap x0 "com/example/tierline/tierline/csv/LineProblems$Problem" "conflict" "Z" (.int c0) := ((F_conflict_x0.ext E1).keep K8 (ninS ne5 nin0))
  have c20 : Exa Z T8.heap x1 "com/example/tierline/tierline/csv/LineProblems$Problem" := ((E_x1.ext E1).keep K8)
  have c21 : Fld Z T8.heap x1 "com/example/tierline/tierline/csv/LineProblems$Problem" "line" "I" (.int l1) := ((F_line_x1.ext E1).keep K8 (ninS ne6 nin0))
  have c22 : Fld Z T8.heap x1 "com/example/tierline/tierline/csv/LineProblems$Problem" "conflict" "Z" (.int c1) := ((F_conflict_x1.ext E1).keep K8 (ninS ne6 nin0))
  have c23 : Exa Z T8.heap b1 "com/example/tierline/tierline/csv/LineProblems$Problem" := (A1.keep K8)
  have ne24 : arr ≠ o0 := (Ne.symm (Exa.neArv c9 c16 (hw _ (List.mem_of_getElem? (i := 1) rfl))))
  have ne25 : li ≠ o0 := (ne_exa c12 c9 (by decide))
  have ne26 : x0 ≠ o0 := (ne_exa c17 c9 (by decide))
  have ne27 : x1 ≠ o0 := (ne_exa c20 c9 (by decide))
  have ne28 : arr ≠ li := (Ne.symm (Exa.neArv c12 c16 (hw _ (List.mem_of_getElem? (i := 18) rfl))))
  have ne29 : x0 ≠ li := (ne_exa c17 c12 (by decide))
  have ne30 : x1 ≠ li := (ne_exa c20 c12 (by decide))
  have ne31 : x0 ≠ arr := (Exa.neArv c17 c16 (hw _ (List.mem_of_getElem? (i := 81) rfl)))
  have ne32 : x1 ≠ arr := (Exa.neArv c20 c16 (hw _ (List.mem_of_getElem? (i := 81) rfl)))
  have z33 : n0 ≤ T8.heap.size := (Nat.le_trans z7 K8.1)
  obtain ⟨cq34, qh34, qh34'⟩ := c9.cell
  -- pc 12: LineProblems.add by rm485_2
  obtain ⟨_, _, ⟨T34, L34, k34, n34⟩, -, X34, ⟨Lc34, hQ34, l34, y34, z34'⟩, st34⟩ := X8.privateBack hx (y := (⟨"com/example/tierline/tierline/csv/LineProblems", "add", "(Lcom/example/tierline/tierline/csv/LineProblems$Problem;Z)V"⟩ : MethodName)) hown (mvT hZ (hw _ (List.mem_of_getElem? (i := 93) rfl))) (mvT hZ (hw _ (List.mem_of_getElem? (i := 94) rfl))) (own_selP hZ (hw _ (List.mem_of_getElem? (i := 1) rfl)) (hw _ (List.mem_of_getElem? (i := 95) rfl)) (hw _ (List.mem_of_getElem? (i := 94) rfl)) (by decide)) (Cond.privateMethod_at (mvP hZ (hw _ (List.mem_of_getElem? (i := 95) rfl)) (args := #[]))) (mvT hZ (hw _ (List.mem_of_getElem? (i := 96) rfl))) (by decide) (backOf (W := 0) (rm485_2 l Z a0 hw [] o0 b1 (0 : Int32) cnt li mc arr ka x0 l0 c0 x1 l1 c1 p1 (nar .boolean (0 : Int32)) T8.heap n0 z33 c9 c10 c11 c12 c13 c14 g_o0 g_li c15 c16 ovr_ka g_arr c17 c18 c19 c20 c21 c22 c23 r0_8 r1_8) hZ (hw _ (List.mem_of_getElem? (i := 96) rfl)) (hw _ (List.mem_of_getElem? (i := 2) rfl)) (by decide) (by decide)) (g := (mkF m 12 #[.val (.ref o0), .val (.int p1), .val (.ref o2)] [(.int (0 : Int32)), (.ref b1), (.ref o0)])) rfl (by rw [hml]; rfl) (Steps.refl _) (a := o0) qh34 qh34' (argsL := [(.ref b1), (.int (0 : Int32))]) (rest := []) (lenOf pd_13 rfl) rfl (by show 2 * 0 + _ ≤ _; exact Nat.le_of_eq rfl) (hb hby d482_12) (fun _ _ => ⟨rfl, rfl, (by decide : 1 + 0 ≤ _), (by decide : 3 + 0 ≤ _)⟩)
  dsimp only [Pt.U, Pt.locs, Pt.cells, Pt.slots] at X34 l34 y34 z34' st34 hQ34
  subst l34 y34 z34'
  obtain ⟨rfl, N34q, K34, r0_34, r1_34⟩ := hQ34
  have N34 := Fr.app N8 N34q
  have J34 : Keep h0 T34.heap [o0, li, arr] := J8.trans K34 (allS (Or.inl (List.mem_of_getElem? (i := 0) rfl)) (allS (Or.inl (List.mem_of_getElem? (i := 1) rfl)) (allS (Or.inl (List.mem_of_getElem? (i := 2) rfl)) all0)))
  obtain ⟨fs, hr, hrun, hended, hW, hsame⟩ := X34.leave (v := none) (fun _ => rfl)
  refine ⟨_, _, pre0 _ ?_, hrun, hended, _, _, rfl, ?_, ⟨_, rfl⟩, hW, hsame.mono (by decide) (by decide)⟩
  · show Steps p.tables e below (s₁.setTop (mkF m 0 #[.val (.ref o0), .val (.int p1), .val (.ref o2)] [])) _
    refine XS.aloadN X0.here hx rfl (hb hby d482_0) rfl rfl ?_
    show Steps p.tables e below (s₁.setTop (mkF m 1 #[.val (.ref o0), .val (.int p1), .val (.ref o2)] [(.ref o0)])) _
    refine st1 _ ?_
    show Steps p.tables e below (T1.setTop (mkF m 4 #[.val (.ref o0), .val (.int p1), .val (.ref o2)] [(.ref b1), (.ref o0)])) _
    refine XS.dup X1.here hx rfl (hb hby d482_4) rfl rfl ?_
    show Steps p.tables e below (T1.setTop (mkF m 5 #[.val (.ref o0), .val (.int p1), .val (.ref o2)] [(.ref b1), (.ref b1), (.ref o0)])) _
    refine XS.iloadN X1.here hx rfl (hb hby d482_5) rfl ?_
    show Steps p.tables e below (T1.setTop (mkF m 6 #[.val (.ref o0), .val (.int p1), .val (.ref o2)] [(.int p1), (.ref b1), (.ref b1), (.ref o0)])) _
    refine XS.aloadN X1.here hx rfl (hb hby d482_6) rfl rfl ?_
    show Steps p.tables e below (T1.setTop (mkF m 7 #[.val (.ref o0), .val (.int p1), .val (.ref o2)] [(.ref o2), (.int p1), (.ref b1), (.ref b1), (.ref o0)])) _
    refine XS.iconst X1.here hx rfl (hb hby d482_7) ?_
    show Steps p.tables e below (T1.setTop (mkF m 8 #[.val (.ref o0), .val (.int p1), .val (.ref o2)] [(.int (0 : Int32)), (.ref o2), (.int p1), (.ref b1), (.ref b1), (.ref o0)])) _
    refine st8.trans ?_
    show Steps p.tables e below (T8.setTop (mkF m 11 #[.val (.ref o0), .val (.int p1), .val (.ref o2)] [(.ref b1), (.ref o0)])) _
    refine XS.iconst X8.here hx rfl (hb hby d482_11) ?_
    show Steps p.tables e below (T8.setTop (mkF m 12 #[.val (.ref o0), .val (.int p1), .val (.ref o2)] [(.int (0 : Int32)), (.ref b1), (.ref o0)])) _
    refine st34.trans ?_
    show Steps p.tables e below (T34.setTop (mkF m 15 #[.val (.ref o0), .val (.int p1), .val (.ref o2)] [])) _
    exact X34.returnOut hx Bd.returns (hb hby d482_15) hr
  · show Q482_2 Z o0 p1 o2 cnt li mc arr ka x0 l0 c0 x1 l1 c1 h0 n0 _ T34.heap _
    exact ⟨rfl, N34, J34, r0_34, r1_34⟩
theorem ef_484_2 (m : MethodId) (o0 : Addr) (p1 : Int32) (o2 : Addr) : entryFrame m #[(.ref o0), (.int p1), (.ref o2)] 3 = mkF m 0 #[.val (.ref o0), .val (.int p1), .val (.ref o2)] [] := by first | (simp [entryFrame, mkF, argsToLocals, Value.category]; done) | rfl
def Q484_2 (Z : State) (o0 : Addr) (p1 : Int32) (o2 : Addr) (cnt : Int64) (li : Addr) (mc : Int32) (arr : Addr) (ka : ClassId) (x0 : Addr) (l0 : Int32) (c0 : Int32) (x1 : Addr) (l1 : Int32) (c1 : Int32) (h0 : Heap) (n0 : Nat) (v : Option Value) (h : Heap) (L : List Loc) : Prop := v = none ∧ Fr n0 L ∧ Keep h0 h [o0, li, arr] ∧ Fld Z h o0 "com/example/tierline/tierline/csv/LineProblems" "count" "J" (.long (cnt + (1 : Int64))) ∧ Fld Z h o0 "com/example/tierline/tierline/csv/LineProblems" "listed" "Ljava/util/List;" (.ref li)
set_option maxRecDepth 65536 in
set_option maxHeartbeats 40000000 in
theorem rm484_2 (l : Launch) (Z : State) (a0 : Array Value) (hw : ∀ d ∈ tables_1, d.before a0 Z = true) (ws : List Jvm.Cond) (o0 : Addr) (p1 : Int32) (o2 : Addr) (cnt : Int64) (li : Addr) (mc : Int32) (arr : Addr) (ka : ClassId) (x0 : Addr) (l0 : Int32) (c0 : Int32) (x1 : Addr) (l1 : Int32) (c1 : Int32) (h0 : Heap) (n0 : Nat) (Z0 : n0 ≤ h0.size) (E_o0 : Exa Z h0 o0 "com/example/tierline/tierline/csv/LineProblems") (F_count_o0 : Fld Z h0 o0 "com/example/tierline/tierline/csv/LineProblems" "count" "J" (.long cnt)) (F_listed_o0 : Fld Z h0 o0 "com/example/tierline/tierline/csv/LineProblems" "listed" "Ljava/util/List;" (.ref li)) (E_li : Exa Z h0 li "java/util/ArrayList") (F_size_li : Fld Z h0 li "java/util/ArrayList" "size" "I" (.int (2 : Int32))) (F_modCount_li : Fld Z h0 li "java/util/AbstractList" "modCount" "I" (.int mc)) (g_o0 : n0 ≤ o0) (g_li : n0 ≤ li) (F_elementData_li : Fld Z h0 li "java/util/ArrayList" "elementData" "[Ljava/lang/Object;" (.ref arr)) (V_arr : Arv Z h0 arr ka (.object "java/lang/Object") (10 : Int32) [(.ref x0), (.ref x1)] .null) (ovr_ka : Ovr Z ka "java/lang/Object") (g_arr : n0 ≤ arr) (E_x0 : Exa Z h0 x0 "com/example/tierline/tierline/csv/LineProblems$Problem") (F_line_x0 : Fld Z h0 x0 "com/example/tierline/tierline/csv/LineProblems$Problem" "line" "I" (.int l0)) (F_conflict_x0 : Fld Z h0 x0 "com/example/tierline/tierline/csv/LineProblems$Problem" "conflict" "Z" (.int c0)) (E_x1 : Exa Z h0 x1 "com/example/tierline/tierline/csv/LineProblems$Problem") (F_line_x1 : Fld Z h0 x1 "com/example/tierline/tierline/csv/LineProblems$Problem" "line" "I" (.int l1)) (F_conflict_x1 : Fld Z h0 x1 "com/example/tierline/tierline/csv/LineProblems$Problem" "conflict" "Z" (.int c1)) :
    MetFree l (⟨"com/example/tierline/tierline/csv/LineProblems", "addConflict", "(ILjava/lang/String;)V"⟩ : MethodName) (head1 (Jvm.Cond.code (⟨"com/example/tierline/tierline/csv/LineProblems", "addConflict", "(ILjava/lang/String;)V"⟩ : MethodName) prog_48_method_4_code 3 none :: ws) ({ frames := 4, cells := 1, slots := 3, locals := 55 } : Room)) (fun a U => a = #[(.ref o0), (.int p1), (.ref o2)] ∧ Z.Warmed39 U.vm ∧ U.heap = h0) (fun _ _ _ _ _ => True) (fun _ U o U' => ∃ v L, o = .returned v ∧ Q484_2 Z o0 p1 o2 cnt li mc arr ka x0 l0 c0 x1 l1 c1 h0 n0 v U'.heap L ∧ FrameEnd U o U' L ({ frames := 4, cells := 1, slots := 3, locals := 55 } : Room).cells ({ frames := 4, cells := 1, slots := 3, locals := 55 } : Room).slots) := by
  refine MetFree.of_bodySF (plainFor_of_name pn_com_example_tierline_tierline_csv_LineProblems) hisR ?_
  intro p e s m args below meth c s₁ Bd hml0 hP hK
  obtain ⟨rfl, hZ, hh⟩ := hP
  have hx := Bd.exec
  have hby := Bd.bytes
  have hml : c.maxLocals = 3 := hml0
  have hown : s.vm.findClass "com/example/tierline/tierline/csv/LineProblems" = some m.cls := findClass_of_methodNamed Bd.named
  have hnm := (name_of_methodNamed Bd.named Bd.method).1
  have X0 : Stand p l e ({ frames := 4, cells := 1, slots := 3, locals := 55 } : Room) s m #[(.ref o0), (.int p1), (.ref o2)] below meth c s₁ [] 0 0 := Stand.of_body Bd
  have e0 : s₁.heap = h0 := by rw [← hh, Bd.state]; rfl
  have N0 := Fr.nil n0
  have pre0 : ∀ t, Steps p.tables e below (s₁.setTop (mkF m 0 #[.val (.ref o0), .val (.int p1), .val (.ref o2)] [])) t → Steps p.tables e below (s₁.setTop (entryFrame m #[(.ref o0), (.int p1), (.ref o2)] 3)) t := fun t k => castTop (ef_484_2 m o0 p1 o2) k
  obtain ⟨T1, h1, X1, e1, E1, A1, D1, U1, st1⟩ := newO X0 hx hZ hown (hw _ (List.mem_of_getElem? (i := 80) rfl)) (hw _ (List.mem_of_getElem? (i := 81) rfl)) (hw _ (List.mem_of_getElem? (i := 82) rfl)) e0 (g := (mkF m 1 #[.val (.ref o0), .val (.int p1), .val (.ref o2)] [(.ref o0)])) rfl (hb hby d484_1) (by decide) (by decide)
  obtain ⟨b1, g1⟩ : ∃ z, z = h0.size := ⟨_, rfl⟩
  rw [← g1] at A1 D1 U1 st1
  have g_b1 : n0 ≤ b1 := Nat.le_trans Z0 (Nat.le_of_eq g1.symm)
  have sz_b1 : h0.size ≤ b1 := Nat.le_trans (Keep.refl h0 [o0, li, arr]).1 (Nat.le_of_eq g1.symm)
  have ne2 : o0 ≠ b1 := Nat.ne_of_lt (Nat.lt_of_lt_of_le E_o0.lt (Nat.le_of_eq g1.symm))
  have ne3 : li ≠ b1 := Nat.ne_of_lt (Nat.lt_of_lt_of_le E_li.lt (Nat.le_of_eq g1.symm))
  have ne4 : arr ≠ b1 := Nat.ne_of_lt (Nat.lt_of_lt_of_le V_arr.lt (Nat.le_of_eq g1.symm))
  have ne5 : x0 ≠ b1 := Nat.ne_of_lt (Nat.lt_of_lt_of_le E_x0.lt (Nat.le_of_eq g1.symm))
  have ne6 : x1 ≠ b1 := Nat.ne_of_lt (Nat.lt_of_lt_of_le E_x1.lt (Nat.le_of_eq g1.symm))
  have F_line_b1 : Fld Z h1 b1 "com/example/tierline/tierline/csv/LineProblems$Problem" "line" "I" (.int (0 : Int32)) := D1 (Or.inr (hw _ (List.mem_of_getElem? (i := 88) rfl))) (ty := .int) (by decide)
  have F_reason_b1 : Fld Z h1 b1 "com/example/tierline/tierline/csv/LineProblems$Problem" "reason" "Ljava/lang/String;" .null := D1 (Or.inr (hw _ (List.mem_of_getElem? (i := 90) rfl))) (ty := (.object "java/lang/String")) (by decide)
  have F_conflict_b1 : Fld Z h1 b1 "com/example/tierline/tierline/csv/LineProblems$Problem" "conflict" "Z" (.int (0 : Int32)) := D1 (Or.inr (hw _ (List.mem_of_getElem? (i := 92) rfl))) (ty := .boolean) (by decide)
  have J1 : Keep h0 h1 [o0, li, arr] := (Keep.refl h0 [o0, li, arr]).ext E1
  have z7 : n0 ≤ h1.size := (Nat.le_trans Z0 E1.1)
  -- pc 8: LineProblems$Problem.<init> by rm49
  obtain ⟨_, _, ⟨T8, L8, k8, n8⟩, -, X8, ⟨Lc8, hQ8, l8, y8, z8'⟩, st8⟩ := own_specialBackR X1 hx (y := (⟨"com/example/tierline/tierline/csv/LineProblems$Problem", "<init>", "(ILjava/lang/String;Z)V"⟩ : MethodName)) rfl hown (own_mvRef hZ (hw _ (List.mem_of_getElem? (i := 83) rfl)) (hw _ (List.mem_of_getElem? (i := 84) rfl)) (by decide)) (mvT hZ (hw _ (List.mem_of_getElem? (i := 84) rfl))) (mvT hZ (hw _ (List.mem_of_getElem? (i := 85) rfl))) (by decide) (backOf (W := 2) (rm49 l Z a0 hw [] b1 p1 o2 (1 : Int32) h1 n0 z7 A1 F_line_b1 F_reason_b1 F_conflict_b1 g_b1) hZ (hw _ (List.mem_of_getElem? (i := 85) rfl)) (hw _ (List.mem_of_getElem? (i := 82) rfl)) (by decide) (by decide)) (g := (mkF m 8 #[.val (.ref o0), .val (.int p1), .val (.ref o2)] [(.int (1 : Int32)), (.ref o2), (.int p1), (.ref b1), (.ref b1), (.ref o0)])) rfl (by rw [hml]; rfl) (Steps.refl _) (a := b1) (argsL := [(.int p1), (.ref o2), (.int (1 : Int32))]) (rest := [(.ref b1), (.ref o0)]) (lenOf pd_12 rfl) rfl (by show 2 * 0 + _ ≤ _; exact Nat.le_of_eq rfl) (hb hby d484_8) (fun _ _ => ⟨rfl, e1, (by decide : 1 + 0 ≤ _), (by decide : 3 + 0 ≤ _)⟩)
  dsimp only [Pt.U, Pt.locs, Pt.cells, Pt.slots] at X8 l8 y8 z8' st8 hQ8
  subst l8 y8 z8'
  obtain ⟨rfl, N8q, K8, r0_8, r1_8⟩ := hQ8
  have N8 := Fr.app N0 N8q
  have J8 : Keep h0 T8.heap [o0, li, arr] := J1.trans K8 (allS (Or.inr sz_b1) all0)
  have c9 : Exa Z T8.heap o0 "com/example/tierline/tierline/csv/LineProblems" := ((E_o0.ext E1).keep K8)
  have c10 : Fld Z T8.heap o0 "com/example/tierline/tierline/csv/LineProblems" "count" "J" (.long cnt) := ((F_count_o0.ext E1).keep K8 (ninS ne2 nin0))
  have c11 : Fld Z T8.heap o0 "com/example/tierline/tierline/csv/LineProblems" "listed" "Ljava/util/List;" (.ref li) := ((F_listed_o0.ext E1).keep K8 (ninS ne2 nin0))
  have c12 : Exa Z T8.heap li "java/util/ArrayList" := ((E_li.ext E1).keep K8)
  have c13 : Fld Z T8.heap li "java/util/ArrayList" "size" "I" (.int (2 : Int32)) := ((F_size_li.ext E1).keep K8 (ninS ne3 nin0))
  have c14 : Fld Z T8.heap li "java/util/AbstractList" "modCount" "I" (.int mc) := ((F_modCount_li.ext E1).keep K8 (ninS ne3 nin0))
  have c15 : Fld Z T8.heap li "java/util/ArrayList" "elementData" "[Ljava/lang/Object;" (.ref arr) := ((F_elementData_li.ext E1).keep K8 (ninS ne3 nin0))
  have c16 : Arv Z T8.heap arr ka (.object "java/lang/Object") (10 : Int32) [(.ref x0), (.ref x1)] .null := ((V_arr.ext E1).keep K8 (ninS ne4 nin0))
  have c17 : Exa Z T8.heap x0 "com/example/tierline/tierline/csv/LineProblems$Problem" := ((E_x0.ext E1).keep K8)
  have c18 : Fld Z T8.heap x0 "com/example/tierline/tierline/csv/LineProblems$Problem" "line" "I" (.int l0) := ((F_line_x0.ext E1).keep K8 (ninS ne5 nin0))
  have c19 : Fld Z T8.heap x0 "com/example/tierline/tierline/csv/LineProblems$Problem" "conflict" "Z" (.int c0) := ((F_conflict_x0.ext E1).keep K8 (ninS ne5 nin0))
  have c20 : Exa Z T8.heap x1 "com/example/tierline/tierline/csv/LineProblems$Problem" := ((E_x1.ext E1).keep K8)
  have c21 : Fld Z T8.heap x1 "com/example/tierline/tierline/csv/LineProblems$Problem" "line" "I" (.int l1) := ((F_line_x1.ext E1).keep K8 (ninS ne6 nin0))
  have c22 : Fld Z T8.heap x1 "com/example/tierline/tierline/csv/LineProblems$Problem" "conflict" "Z" (.int c1) := ((F_conflict_x1.ext E1).keep K8 (ninS ne6 nin0))
  have c23 : Exa Z T8.heap b1 "com/example/tierline/tierline/csv/LineProblems$Problem" := (A1.keep K8)
  have ne24 : arr ≠ o0 := (Ne.symm (Exa.neArv c9 c16 (hw _ (List.mem_of_getElem? (i := 1) rfl))))
  have ne25 : li ≠ o0 := (ne_exa c12 c9 (by decide))
  have ne26 : x0 ≠ o0 := (ne_exa c17 c9 (by decide))
  have ne27 : x1 ≠ o0 := (ne_exa c20 c9 (by decide))
  have ne28 : arr ≠ li := (Ne.symm (Exa.neArv c12 c16 (hw _ (List.mem_of_getElem? (i := 18) rfl))))
  have ne29 : x0 ≠ li := (ne_exa c17 c12 (by decide))
  have ne30 : x1 ≠ li := (ne_exa c20 c12 (by decide))
  have ne31 : x0 ≠ arr := (Exa.neArv c17 c16 (hw _ (List.mem_of_getElem? (i := 81) rfl)))
  have ne32 : x1 ≠ arr := (Exa.neArv c20 c16 (hw _ (List.mem_of_getElem? (i := 81) rfl)))
  have z33 : n0 ≤ T8.heap.size := (Nat.le_trans z7 K8.1)
  obtain ⟨cq34, qh34, qh34'⟩ := c9.cell
  -- pc 12: LineProblems.add by rm485_2
  obtain ⟨_, _, ⟨T34, L34, k34, n34⟩, -, X34, ⟨Lc34, hQ34, l34, y34, z34'⟩, st34⟩ := X8.privateBack hx (y := (⟨"com/example/tierline/tierline/csv/LineProblems", "add", "(Lcom/example/tierline/tierline/csv/LineProblems$Problem;Z)V"⟩ : MethodName)) hown (mvT hZ (hw _ (List.mem_of_getElem? (i := 93) rfl))) (mvT hZ (hw _ (List.mem_of_getElem? (i := 94) rfl))) (own_selP hZ (hw _ (List.mem_of_getElem? (i := 1) rfl)) (hw _ (List.mem_of_getElem? (i := 95) rfl)) (hw _ (List.mem_of_getElem? (i := 94) rfl)) (by decide)) (Cond.privateMethod_at (mvP hZ (hw _ (List.mem_of_getElem? (i := 95) rfl)) (args := #[]))) (mvT hZ (hw _ (List.mem_of_getElem? (i := 96) rfl))) (by decide) (backOf (W := 0) (rm485_2 l Z a0 hw [] o0 b1 (0 : Int32) cnt li mc arr ka x0 l0 c0 x1 l1 c1 p1 (nar .boolean (1 : Int32)) T8.heap n0 z33 c9 c10 c11 c12 c13 c14 g_o0 g_li c15 c16 ovr_ka g_arr c17 c18 c19 c20 c21 c22 c23 r0_8 r1_8) hZ (hw _ (List.mem_of_getElem? (i := 96) rfl)) (hw _ (List.mem_of_getElem? (i := 2) rfl)) (by decide) (by decide)) (g := (mkF m 12 #[.val (.ref o0), .val (.int p1), .val (.ref o2)] [(.int (0 : Int32)), (.ref b1), (.ref o0)])) rfl (by rw [hml]; rfl) (Steps.refl _) (a := o0) qh34 qh34' (argsL := [(.ref b1), (.int (0 : Int32))]) (rest := []) (lenOf pd_13 rfl) rfl (by show 2 * 0 + _ ≤ _; exact Nat.le_of_eq rfl) (hb hby d484_12) (fun _ _ => ⟨rfl, rfl, (by decide : 1 + 0 ≤ _), (by decide : 3 + 0 ≤ _)⟩)
  dsimp only [Pt.U, Pt.locs, Pt.cells, Pt.slots] at X34 l34 y34 z34' st34 hQ34
  subst l34 y34 z34'
  obtain ⟨rfl, N34q, K34, r0_34, r1_34⟩ := hQ34
  have N34 := Fr.app N8 N34q
  have J34 : Keep h0 T34.heap [o0, li, arr] := J8.trans K34 (allS (Or.inl (List.mem_of_getElem? (i := 0) rfl)) (allS (Or.inl (List.mem_of_getElem? (i := 1) rfl)) (allS (Or.inl (List.mem_of_getElem? (i := 2) rfl)) all0)))
  obtain ⟨fs, hr, hrun, hended, hW, hsame⟩ := X34.leave (v := none) (fun _ => rfl)
  refine ⟨_, _, pre0 _ ?_, hrun, hended, _, _, rfl, ?_, ⟨_, rfl⟩, hW, hsame.mono (by decide) (by decide)⟩
  · show Steps p.tables e below (s₁.setTop (mkF m 0 #[.val (.ref o0), .val (.int p1), .val (.ref o2)] [])) _
    refine XS.aloadN X0.here hx rfl (hb hby d484_0) rfl rfl ?_
    show Steps p.tables e below (s₁.setTop (mkF m 1 #[.val (.ref o0), .val (.int p1), .val (.ref o2)] [(.ref o0)])) _
    refine st1 _ ?_
    show Steps p.tables e below (T1.setTop (mkF m 4 #[.val (.ref o0), .val (.int p1), .val (.ref o2)] [(.ref b1), (.ref o0)])) _
    refine XS.dup X1.here hx rfl (hb hby d484_4) rfl rfl ?_
    show Steps p.tables e below (T1.setTop (mkF m 5 #[.val (.ref o0), .val (.int p1), .val (.ref o2)] [(.ref b1), (.ref b1), (.ref o0)])) _
    refine XS.iloadN X1.here hx rfl (hb hby d484_5) rfl ?_
    show Steps p.tables e below (T1.setTop (mkF m 6 #[.val (.ref o0), .val (.int p1), .val (.ref o2)] [(.int p1), (.ref b1), (.ref b1), (.ref o0)])) _
    refine XS.aloadN X1.here hx rfl (hb hby d484_6) rfl rfl ?_
    show Steps p.tables e below (T1.setTop (mkF m 7 #[.val (.ref o0), .val (.int p1), .val (.ref o2)] [(.ref o2), (.int p1), (.ref b1), (.ref b1), (.ref o0)])) _
    refine XS.iconst X1.here hx rfl (hb hby d484_7) ?_
    show Steps p.tables e below (T1.setTop (mkF m 8 #[.val (.ref o0), .val (.int p1), .val (.ref o2)] [(.int (1 : Int32)), (.ref o2), (.int p1), (.ref b1), (.ref b1), (.ref o0)])) _
    refine st8.trans ?_
    show Steps p.tables e below (T8.setTop (mkF m 11 #[.val (.ref o0), .val (.int p1), .val (.ref o2)] [(.ref b1), (.ref o0)])) _
    refine XS.iconst X8.here hx rfl (hb hby d484_11) ?_
    show Steps p.tables e below (T8.setTop (mkF m 12 #[.val (.ref o0), .val (.int p1), .val (.ref o2)] [(.int (0 : Int32)), (.ref b1), (.ref o0)])) _
    refine st34.trans ?_
    show Steps p.tables e below (T34.setTop (mkF m 15 #[.val (.ref o0), .val (.int p1), .val (.ref o2)] [])) _
    exact X34.returnOut hx Bd.returns (hb hby d484_15) hr
  · show Q484_2 Z o0 p1 o2 cnt li mc arr ka x0 l0 c0 x1 l1 c1 h0 n0 _ T34.heap _
    exact ⟨rfl, N34, J34, r0_34, r1_34⟩
theorem ef_483_2 (m : MethodId) (o0 : Addr) (p1 : Int32) (o2 : Addr) : entryFrame m #[(.ref o0), (.int p1), (.ref o2)] 3 = mkF m 0 #[.val (.ref o0), .val (.int p1), .val (.ref o2)] [] := by first | (simp [entryFrame, mkF, argsToLocals, Value.category]; done) | rfl
def Q483_2 (Z : State) (o0 : Addr) (p1 : Int32) (o2 : Addr) (cnt : Int64) (li : Addr) (mc : Int32) (arr : Addr) (ka : ClassId) (x0 : Addr) (l0 : Int32) (c0 : Int32) (x1 : Addr) (l1 : Int32) (c1 : Int32) (h0 : Heap) (n0 : Nat) (v : Option Value) (h : Heap) (L : List Loc) : Prop := v = none ∧ Fr n0 L ∧ Keep h0 h [o0, li, arr] ∧ Fld Z h o0 "com/example/tierline/tierline/csv/LineProblems" "count" "J" (.long (cnt + (1 : Int64))) ∧ Fld Z h o0 "com/example/tierline/tierline/csv/LineProblems" "listed" "Ljava/util/List;" (.ref li)
set_option maxRecDepth 65536 in
set_option maxHeartbeats 40000000 in
theorem rm483_2 (l : Launch) (Z : State) (a0 : Array Value) (hw : ∀ d ∈ tables_1, d.before a0 Z = true) (ws : List Jvm.Cond) (o0 : Addr) (p1 : Int32) (o2 : Addr) (cnt : Int64) (li : Addr) (mc : Int32) (arr : Addr) (ka : ClassId) (x0 : Addr) (l0 : Int32) (c0 : Int32) (x1 : Addr) (l1 : Int32) (c1 : Int32) (h0 : Heap) (n0 : Nat) (Z0 : n0 ≤ h0.size) (E_o0 : Exa Z h0 o0 "com/example/tierline/tierline/csv/LineProblems") (F_count_o0 : Fld Z h0 o0 "com/example/tierline/tierline/csv/LineProblems" "count" "J" (.long cnt)) (F_listed_o0 : Fld Z h0 o0 "com/example/tierline/tierline/csv/LineProblems" "listed" "Ljava/util/List;" (.ref li)) (E_li : Exa Z h0 li "java/util/ArrayList") (F_size_li : Fld Z h0 li "java/util/ArrayList" "size" "I" (.int (2 : Int32))) (F_modCount_li : Fld Z h0 li "java/util/AbstractList" "modCount" "I" (.int mc)) (g_o0 : n0 ≤ o0) (g_li : n0 ≤ li) (F_elementData_li : Fld Z h0 li "java/util/ArrayList" "elementData" "[Ljava/lang/Object;" (.ref arr)) (V_arr : Arv Z h0 arr ka (.object "java/lang/Object") (10 : Int32) [(.ref x0), (.ref x1)] .null) (ovr_ka : Ovr Z ka "java/lang/Object") (g_arr : n0 ≤ arr) (E_x0 : Exa Z h0 x0 "com/example/tierline/tierline/csv/LineProblems$Problem") (F_line_x0 : Fld Z h0 x0 "com/example/tierline/tierline/csv/LineProblems$Problem" "line" "I" (.int l0)) (F_conflict_x0 : Fld Z h0 x0 "com/example/tierline/tierline/csv/LineProblems$Problem" "conflict" "Z" (.int c0)) (E_x1 : Exa Z h0 x1 "com/example/tierline/tierline/csv/LineProblems$Problem") (F_line_x1 : Fld Z h0 x1 "com/example/tierline/tierline/csv/LineProblems$Problem" "line" "I" (.int l1)) (F_conflict_x1 : Fld Z h0 x1 "com/example/tierline/tierline/csv/LineProblems$Problem" "conflict" "Z" (.int c1)) :
    MetFree l (⟨"com/example/tierline/tierline/csv/LineProblems", "addAheadOnLine", "(ILjava/lang/String;)V"⟩ : MethodName) (head1 (Jvm.Cond.code (⟨"com/example/tierline/tierline/csv/LineProblems", "addAheadOnLine", "(ILjava/lang/String;)V"⟩ : MethodName) prog_48_method_3_code 3 none :: ws) ({ frames := 4, cells := 1, slots := 3, locals := 55 } : Room)) (fun a U => a = #[(.ref o0), (.int p1), (.ref o2)] ∧ Z.Warmed39 U.vm ∧ U.heap = h0) (fun _ _ _ _ _ => True) (fun _ U o U' => ∃ v L, o = .returned v ∧ Q483_2 Z o0 p1 o2 cnt li mc arr ka x0 l0 c0 x1 l1 c1 h0 n0 v U'.heap L ∧ FrameEnd U o U' L ({ frames := 4, cells := 1, slots := 3, locals := 55 } : Room).cells ({ frames := 4, cells := 1, slots := 3, locals := 55 } : Room).slots) := by
  refine MetFree.of_bodySF (plainFor_of_name pn_com_example_tierline_tierline_csv_LineProblems) hisR ?_
  intro p e s m args below meth c s₁ Bd hml0 hP hK
  obtain ⟨rfl, hZ, hh⟩ := hP
  have hx := Bd.exec
  have hby := Bd.bytes
  have hml : c.maxLocals = 3 := hml0
  have hown : s.vm.findClass "com/example/tierline/tierline/csv/LineProblems" = some m.cls := findClass_of_methodNamed Bd.named
  have hnm := (name_of_methodNamed Bd.named Bd.method).1
  have X0 : Stand p l e ({ frames := 4, cells := 1, slots := 3, locals := 55 } : Room) s m #[(.ref o0), (.int p1), (.ref o2)] below meth c s₁ [] 0 0 := Stand.of_body Bd
  have e0 : s₁.heap = h0 := by rw [← hh, Bd.state]; rfl
  have N0 := Fr.nil n0
  have pre0 : ∀ t, Steps p.tables e below (s₁.setTop (mkF m 0 #[.val (.ref o0), .val (.int p1), .val (.ref o2)] [])) t → Steps p.tables e below (s₁.setTop (entryFrame m #[(.ref o0), (.int p1), (.ref o2)] 3)) t := fun t k => castTop (ef_483_2 m o0 p1 o2) k
  obtain ⟨T1, h1, X1, e1, E1, A1, D1, U1, st1⟩ := newO X0 hx hZ hown (hw _ (List.mem_of_getElem? (i := 80) rfl)) (hw _ (List.mem_of_getElem? (i := 81) rfl)) (hw _ (List.mem_of_getElem? (i := 82) rfl)) e0 (g := (mkF m 1 #[.val (.ref o0), .val (.int p1), .val (.ref o2)] [(.ref o0)])) rfl (hb hby d483_1) (by decide) (by decide)
  obtain ⟨b1, g1⟩ : ∃ z, z = h0.size := ⟨_, rfl⟩
  rw [← g1] at A1 D1 U1 st1
  have g_b1 : n0 ≤ b1 := Nat.le_trans Z0 (Nat.le_of_eq g1.symm)
  have sz_b1 : h0.size ≤ b1 := Nat.le_trans (Keep.refl h0 [o0, li, arr]).1 (Nat.le_of_eq g1.symm)
  have ne2 : o0 ≠ b1 := Nat.ne_of_lt (Nat.lt_of_lt_of_le E_o0.lt (Nat.le_of_eq g1.symm))
  have ne3 : li ≠ b1 := Nat.ne_of_lt (Nat.lt_of_lt_of_le E_li.lt (Nat.le_of_eq g1.symm))
  have ne4 : arr ≠ b1 := Nat.ne_of_lt (Nat.lt_of_lt_of_le V_arr.lt (Nat.le_of_eq g1.symm))
  have ne5 : x0 ≠ b1 := Nat.ne_of_lt (Nat.lt_of_lt_of_le E_x0.lt (Nat.le_of_eq g1.symm))
  have ne6 : x1 ≠ b1 := Nat.ne_of_lt (Nat.lt_of_lt_of_le E_x1.lt (Nat.le_of_eq g1.symm))
  have F_line_b1 : Fld Z h1 b1 "com/example/tierline/tierline/csv/LineProblems$Problem" "line" "I" (.int (0 : Int32)) := D1 (Or.inr (hw _ (List.mem_of_getElem? (i := 88) rfl))) (ty := .int) (by decide)
  have F_reason_b1 : Fld Z h1 b1 "com/example/tierline/tierline/csv/LineProblems$Problem" "reason" "Ljava/lang/String;" .null := D1 (Or.inr (hw _ (List.mem_of_getElem? (i := 90) rfl))) (ty := (.object "java/lang/String")) (by decide)
  have F_conflict_b1 : Fld Z h1 b1 "com/example/tierline/tierline/csv/LineProblems$Problem" "conflict" "Z" (.int (0 : Int32)) := D1 (Or.inr (hw _ (List.mem_of_getElem? (i := 92) rfl))) (ty := .boolean) (by decide)
  have J1 : Keep h0 h1 [o0, li, arr] := (Keep.refl h0 [o0, li, arr]).ext E1
  have z7 : n0 ≤ h1.size := (Nat.le_trans Z0 E1.1)
  -- pc 8: LineProblems$Problem.<init> by rm49
  obtain ⟨_, _, ⟨T8, L8, k8, n8⟩, -, X8, ⟨Lc8, hQ8, l8, y8, z8'⟩, st8⟩ := own_specialBackR X1 hx (y := (⟨"com/example/tierline/tierline/csv/LineProblems$Problem", "<init>", "(ILjava/lang/String;Z)V"⟩ : MethodName)) rfl hown (own_mvRef hZ (hw _ (List.mem_of_getElem? (i := 83) rfl)) (hw _ (List.mem_of_getElem? (i := 84) rfl)) (by decide)) (mvT hZ (hw _ (List.mem_of_getElem? (i := 84) rfl))) (mvT hZ (hw _ (List.mem_of_getElem? (i := 85) rfl))) (by decide) (backOf (W := 2) (rm49 l Z a0 hw [] b1 p1 o2 (0 : Int32) h1 n0 z7 A1 F_line_b1 F_reason_b1 F_conflict_b1 g_b1) hZ (hw _ (List.mem_of_getElem? (i := 85) rfl)) (hw _ (List.mem_of_getElem? (i := 82) rfl)) (by decide) (by decide)) (g := (mkF m 8 #[.val (.ref o0), .val (.int p1), .val (.ref o2)] [(.int (0 : Int32)), (.ref o2), (.int p1), (.ref b1), (.ref b1), (.ref o0)])) rfl (by rw [hml]; rfl) (Steps.refl _) (a := b1) (argsL := [(.int p1), (.ref o2), (.int (0 : Int32))]) (rest := [(.ref b1), (.ref o0)]) (lenOf pd_12 rfl) rfl (by show 2 * 0 + _ ≤ _; exact Nat.le_of_eq rfl) (hb hby d483_8) (fun _ _ => ⟨rfl, e1, (by decide : 1 + 0 ≤ _), (by decide : 3 + 0 ≤ _)⟩)
  dsimp only [Pt.U, Pt.locs, Pt.cells, Pt.slots] at X8 l8 y8 z8' st8 hQ8
  subst l8 y8 z8'
  obtain ⟨rfl, N8q, K8, r0_8, r1_8⟩ := hQ8
  have N8 := Fr.app N0 N8q
  have J8 : Keep h0 T8.heap [o0, li, arr] := J1.trans K8 (allS (Or.inr sz_b1) all0)
  have c9 : Exa Z T8.heap o0 "com/example/tierline/tierline/csv/LineProblems" := ((E_o0.ext E1).keep K8)
  have c10 : Fld Z T8.heap o0 "com/example/tierline/tierline/csv/LineProblems" "count" "J" (.long cnt) := ((F_count_o0.ext E1).keep K8 (ninS ne2 nin0))
  have c11 : Fld Z T8.heap o0 "com/example/tierline/tierline/csv/LineProblems" "listed" "Ljava/util/List;" (.ref li) := ((F_listed_o0.ext E1).keep K8 (ninS ne2 nin0))
  have c12 : Exa Z T8.heap li "java/util/ArrayList" := ((E_li.ext E1).keep K8)
  have c13 : Fld Z T8.heap li "java/util/ArrayList" "size" "I" (.int (2 : Int32)) := ((F_size_li.ext E1).keep K8 (ninS ne3 nin0))
  have c14 : Fld Z T8.heap li "java/util/AbstractList" "modCount" "I" (.int mc) := ((F_modCount_li.ext E1).keep K8 (ninS ne3 nin0))
  have c15 : Fld Z T8.heap li "java/util/ArrayList" "elementData" "[Ljava/lang/Object;" (.ref arr) := ((F_elementData_li.ext E1).keep K8 (ninS ne3 nin0))
  have c16 : Arv Z T8.heap arr ka (.object "java/lang/Object") (10 : Int32) [(.ref x0), (.ref x1)] .null := ((V_arr.ext E1).keep K8 (ninS ne4 nin0))
  have c17 : Exa Z T8.heap x0 "com/example/tierline/tierline/csv/LineProblems$Problem" := ((E_x0.ext E1).keep K8)
  have c18 : Fld Z T8.heap x0 "com/example/tierline/tierline/csv/LineProblems$Problem" "line" "I" (.int l0) := ((F_line_x0.ext E1).keep K8 (ninS ne5 nin0))
  have c19 : Fld Z T8.heap x0 "com/example/tierline/tierline/csv/LineProblems$Problem" "conflict" "Z" (.int c0) := ((F_conflict_x0.ext E1).keep K8 (ninS ne5 nin0))
  have c20 : Exa Z T8.heap x1 "com/example/tierline/tierline/csv/LineProblems$Problem" := ((E_x1.ext E1).keep K8)
  have c21 : Fld Z T8.heap x1 "com/example/tierline/tierline/csv/LineProblems$Problem" "line" "I" (.int l1) := ((F_line_x1.ext E1).keep K8 (ninS ne6 nin0))
  have c22 : Fld Z T8.heap x1 "com/example/tierline/tierline/csv/LineProblems$Problem" "conflict" "Z" (.int c1) := ((F_conflict_x1.ext E1).keep K8 (ninS ne6 nin0))
  have c23 : Exa Z T8.heap b1 "com/example/tierline/tierline/csv/LineProblems$Problem" := (A1.keep K8)
  have ne24 : arr ≠ o0 := (Ne.symm (Exa.neArv c9 c16 (hw _ (List.mem_of_getElem? (i := 1) rfl))))
  have ne25 : li ≠ o0 := (ne_exa c12 c9 (by decide))
  have ne26 : x0 ≠ o0 := (ne_exa c17 c9 (by decide))
  have ne27 : x1 ≠ o0 := (ne_exa c20 c9 (by decide))
  have ne28 : arr ≠ li := (Ne.symm (Exa.neArv c12 c16 (hw _ (List.mem_of_getElem? (i := 18) rfl))))
  have ne29 : x0 ≠ li := (ne_exa c17 c12 (by decide))
  have ne30 : x1 ≠ li := (ne_exa c20 c12 (by decide))
  have ne31 : x0 ≠ arr := (Exa.neArv c17 c16 (hw _ (List.mem_of_getElem? (i := 81) rfl)))
  have ne32 : x1 ≠ arr := (Exa.neArv c20 c16 (hw _ (List.mem_of_getElem? (i := 81) rfl)))
  have z33 : n0 ≤ T8.heap.size := (Nat.le_trans z7 K8.1)
  obtain ⟨cq34, qh34, qh34'⟩ := c9.cell
  -- pc 12: LineProblems.add by rm485_2
  obtain ⟨_, _, ⟨T34, L34, k34, n34⟩, -, X34, ⟨Lc34, hQ34, l34, y34, z34'⟩, st34⟩ := X8.privateBack hx (y := (⟨"com/example/tierline/tierline/csv/LineProblems", "add", "(Lcom/example/tierline/tierline/csv/LineProblems$Problem;Z)V"⟩ : MethodName)) hown (mvT hZ (hw _ (List.mem_of_getElem? (i := 93) rfl))) (mvT hZ (hw _ (List.mem_of_getElem? (i := 94) rfl))) (own_selP hZ (hw _ (List.mem_of_getElem? (i := 1) rfl)) (hw _ (List.mem_of_getElem? (i := 95) rfl)) (hw _ (List.mem_of_getElem? (i := 94) rfl)) (by decide)) (Cond.privateMethod_at (mvP hZ (hw _ (List.mem_of_getElem? (i := 95) rfl)) (args := #[]))) (mvT hZ (hw _ (List.mem_of_getElem? (i := 96) rfl))) (by decide) (backOf (W := 0) (rm485_2 l Z a0 hw [] o0 b1 (1 : Int32) cnt li mc arr ka x0 l0 c0 x1 l1 c1 p1 (nar .boolean (0 : Int32)) T8.heap n0 z33 c9 c10 c11 c12 c13 c14 g_o0 g_li c15 c16 ovr_ka g_arr c17 c18 c19 c20 c21 c22 c23 r0_8 r1_8) hZ (hw _ (List.mem_of_getElem? (i := 96) rfl)) (hw _ (List.mem_of_getElem? (i := 2) rfl)) (by decide) (by decide)) (g := (mkF m 12 #[.val (.ref o0), .val (.int p1), .val (.ref o2)] [(.int (1 : Int32)), (.ref b1), (.ref o0)])) rfl (by rw [hml]; rfl) (Steps.refl _) (a := o0) qh34 qh34' (argsL := [(.ref b1), (.int (1 : Int32))]) (rest := []) (lenOf pd_13 rfl) rfl (by show 2 * 0 + _ ≤ _; exact Nat.le_of_eq rfl) (hb hby d483_12) (fun _ _ => ⟨rfl, rfl, (by decide : 1 + 0 ≤ _), (by decide : 3 + 0 ≤ _)⟩)
  dsimp only [Pt.U, Pt.locs, Pt.cells, Pt.slots] at X34 l34 y34 z34' st34 hQ34
  subst l34 y34 z34'
  obtain ⟨rfl, N34q, K34, r0_34, r1_34⟩ := hQ34
  have N34 := Fr.app N8 N34q
  have J34 : Keep h0 T34.heap [o0, li, arr] := J8.trans K34 (allS (Or.inl (List.mem_of_getElem? (i := 0) rfl)) (allS (Or.inl (List.mem_of_getElem? (i := 1) rfl)) (allS (Or.inl (List.mem_of_getElem? (i := 2) rfl)) all0)))
  obtain ⟨fs, hr, hrun, hended, hW, hsame⟩ := X34.leave (v := none) (fun _ => rfl)
  refine ⟨_, _, pre0 _ ?_, hrun, hended, _, _, rfl, ?_, ⟨_, rfl⟩, hW, hsame.mono (by decide) (by decide)⟩
  · show Steps p.tables e below (s₁.setTop (mkF m 0 #[.val (.ref o0), .val (.int p1), .val (.ref o2)] [])) _
    refine XS.aloadN X0.here hx rfl (hb hby d483_0) rfl rfl ?_
    show Steps p.tables e below (s₁.setTop (mkF m 1 #[.val (.ref o0), .val (.int p1), .val (.ref o2)] [(.ref o0)])) _
    refine st1 _ ?_
    show Steps p.tables e below (T1.setTop (mkF m 4 #[.val (.ref o0), .val (.int p1), .val (.ref o2)] [(.ref b1), (.ref o0)])) _
    refine XS.dup X1.here hx rfl (hb hby d483_4) rfl rfl ?_
    show Steps p.tables e below (T1.setTop (mkF m 5 #[.val (.ref o0), .val (.int p1), .val (.ref o2)] [(.ref b1), (.ref b1), (.ref o0)])) _
    refine XS.iloadN X1.here hx rfl (hb hby d483_5) rfl ?_
    show Steps p.tables e below (T1.setTop (mkF m 6 #[.val (.ref o0), .val (.int p1), .val (.ref o2)] [(.int p1), (.ref b1), (.ref b1), (.ref o0)])) _
    refine XS.aloadN X1.here hx rfl (hb hby d483_6) rfl rfl ?_
    show Steps p.tables e below (T1.setTop (mkF m 7 #[.val (.ref o0), .val (.int p1), .val (.ref o2)] [(.ref o2), (.int p1), (.ref b1), (.ref b1), (.ref o0)])) _
    refine XS.iconst X1.here hx rfl (hb hby d483_7) ?_
    show Steps p.tables e below (T1.setTop (mkF m 8 #[.val (.ref o0), .val (.int p1), .val (.ref o2)] [(.int (0 : Int32)), (.ref o2), (.int p1), (.ref b1), (.ref b1), (.ref o0)])) _
    refine st8.trans ?_
    show Steps p.tables e below (T8.setTop (mkF m 11 #[.val (.ref o0), .val (.int p1), .val (.ref o2)] [(.ref b1), (.ref o0)])) _
    refine XS.iconst X8.here hx rfl (hb hby d483_11) ?_
    show Steps p.tables e below (T8.setTop (mkF m 12 #[.val (.ref o0), .val (.int p1), .val (.ref o2)] [(.int (1 : Int32)), (.ref b1), (.ref o0)])) _
    refine st34.trans ?_
    show Steps p.tables e below (T34.setTop (mkF m 15 #[.val (.ref o0), .val (.int p1), .val (.ref o2)] [])) _
    exact X34.returnOut hx Bd.returns (hb hby d483_15) hr
  · show Q483_2 Z o0 p1 o2 cnt li mc arr ka x0 l0 c0 x1 l1 c1 h0 n0 _ T34.heap _
    exact ⟨rfl, N34, J34, r0_34, r1_34⟩
theorem ef_2_2 (m : MethodId) (o0 : Addr) (p1 : Int32) (p2 : Int32) (p3 : Int32) : entryFrame m #[(.ref o0), (.int p1), (.int p2), (.int p3)] 5 = mkF m 0 #[.val (.ref o0), .val (.int p1), .val (.int p2), .val (.int p3), .unset] [] := by first | (simp [entryFrame, mkF, argsToLocals, Value.category]; done) | rfl
def Q2_2 (Z : State) (o0 : Addr) (p1 : Int32) (p2 : Int32) (p3 : Int32) (cnt : Int64) (li : Addr) (mc : Int32) (arr : Addr) (ka : ClassId) (x0 : Addr) (l0 : Int32) (c0 : Int32) (x1 : Addr) (l1 : Int32) (c1 : Int32) (cs : Int32) (h0 : Heap) (n0 : Nat) (v : Option Value) (h : Heap) (L : List Loc) : Prop := v = none ∧ Fr n0 L ∧ Keep h0 h [o0, li, arr] ∧ Fld Z h o0 "com/example/tierline/tierline/csv/LineProblems" "count" "J" (.long (cnt + (1 : Int64))) ∧ Fld Z h o0 "com/example/tierline/tierline/csv/LineProblems" "listed" "Ljava/util/List;" (.ref li)
set_option maxRecDepth 65536 in
set_option maxHeartbeats 40000000 in
theorem rm2_2 (l : Launch) (Z : State) (a0 : Array Value) (hw : ∀ d ∈ tables_1, d.before a0 Z = true) (ws : List Jvm.Cond) (o0 : Addr) (p1 : Int32) (p2 : Int32) (p3 : Int32) (cnt : Int64) (li : Addr) (mc : Int32) (arr : Addr) (ka : ClassId) (x0 : Addr) (l0 : Int32) (c0 : Int32) (x1 : Addr) (l1 : Int32) (c1 : Int32) (cs : Int32) (h0 : Heap) (n0 : Nat) (Z0 : n0 ≤ h0.size) (E_o0 : Exa Z h0 o0 "com/example/tierline/tierline/csv/LineProblems") (F_count_o0 : Fld Z h0 o0 "com/example/tierline/tierline/csv/LineProblems" "count" "J" (.long cnt)) (F_listed_o0 : Fld Z h0 o0 "com/example/tierline/tierline/csv/LineProblems" "listed" "Ljava/util/List;" (.ref li)) (E_li : Exa Z h0 li "java/util/ArrayList") (F_size_li : Fld Z h0 li "java/util/ArrayList" "size" "I" (.int (2 : Int32))) (F_modCount_li : Fld Z h0 li "java/util/AbstractList" "modCount" "I" (.int mc)) (g_o0 : n0 ≤ o0) (g_li : n0 ≤ li) (F_elementData_li : Fld Z h0 li "java/util/ArrayList" "elementData" "[Ljava/lang/Object;" (.ref arr)) (V_arr : Arv Z h0 arr ka (.object "java/lang/Object") (10 : Int32) [(.ref x0), (.ref x1)] .null) (ovr_ka : Ovr Z ka "java/lang/Object") (g_arr : n0 ≤ arr) (E_x0 : Exa Z h0 x0 "com/example/tierline/tierline/csv/LineProblems$Problem") (F_line_x0 : Fld Z h0 x0 "com/example/tierline/tierline/csv/LineProblems$Problem" "line" "I" (.int l0)) (F_conflict_x0 : Fld Z h0 x0 "com/example/tierline/tierline/csv/LineProblems$Problem" "conflict" "Z" (.int c0)) (E_x1 : Exa Z h0 x1 "com/example/tierline/tierline/csv/LineProblems$Problem") (F_line_x1 : Fld Z h0 x1 "com/example/tierline/tierline/csv/LineProblems$Problem" "line" "I" (.int l1)) (F_conflict_x1 : Fld Z h0 x1 "com/example/tierline/tierline/csv/LineProblems$Problem" "conflict" "Z" (.int c1)) (S_COMPACT_STRINGS : Sta Z h0 "java/lang/String" "COMPACT_STRINGS" "Z" (.int cs)) (hcs : ¬ cs = (0 : Int32)) :
    MetFree l (⟨"com/example/tierline/tierline/csv/LineProblemsIsEmptyPinLaw", "addOne", "(Lcom/example/tierline/tierline/csv/LineProblems;IIC)V"⟩ : MethodName) (head1 (Jvm.Cond.code (⟨"com/example/tierline/tierline/csv/LineProblemsIsEmptyPinLaw", "addOne", "(Lcom/example/tierline/tierline/csv/LineProblems;IIC)V"⟩ : MethodName) method_2_code 5 none :: ws) ({ frames := 5, cells := 3, slots := 8, locals := 69 } : Room)) (fun a U => a = #[(.ref o0), (.int p1), (.int p2), (.int p3)] ∧ Z.Warmed39 U.vm ∧ U.heap = h0) (fun _ _ _ _ _ => True) (fun _ U o U' => ∃ v L, o = .returned v ∧ Q2_2 Z o0 p1 p2 p3 cnt li mc arr ka x0 l0 c0 x1 l1 c1 cs h0 n0 v U'.heap L ∧ FrameEnd U o U' L ({ frames := 5, cells := 3, slots := 8, locals := 69 } : Room).cells ({ frames := 5, cells := 3, slots := 8, locals := 69 } : Room).slots) := by
  refine MetFree.of_bodySF (plainFor_of_name pn_com_example_tierline_tierline_csv_LineProblemsIsEmptyPinLaw) hisR ?_
  intro p e s m args below meth c s₁ Bd hml0 hP hK
  obtain ⟨rfl, hZ, hh⟩ := hP
  have hx := Bd.exec
  have hby := Bd.bytes
  have hml : c.maxLocals = 5 := hml0
  have hown : s.vm.findClass "com/example/tierline/tierline/csv/LineProblemsIsEmptyPinLaw" = some m.cls := findClass_of_methodNamed Bd.named
  have hnm := (name_of_methodNamed Bd.named Bd.method).1
  have X0 : Stand p l e ({ frames := 5, cells := 3, slots := 8, locals := 69 } : Room) s m #[(.ref o0), (.int p1), (.int p2), (.int p3)] below meth c s₁ [] 0 0 := Stand.of_body Bd
  have e0 : s₁.heap = h0 := by rw [← hh, Bd.state]; rfl
  have N0 := Fr.nil n0
  have pre0 : ∀ t, Steps p.tables e below (s₁.setTop (mkF m 0 #[.val (.ref o0), .val (.int p1), .val (.int p2), .val (.int p3), .unset] [])) t → Steps p.tables e below (s₁.setTop (entryFrame m #[(.ref o0), (.int p1), (.int p2), (.int p3)] 5)) t := fun t k => castTop (ef_2_2 m o0 p1 p2 p3) k
  -- pc 6: String.valueOf by rm139
  obtain ⟨_, _, ⟨T1, L1, k1, n1⟩, -, X1, ⟨Lc1, hQ1, l1, y1, z1'⟩, st1⟩ := Jvm.LawKit.callS X0 hx (y := (⟨"java/lang/String", "valueOf", "(C)Ljava/lang/String;"⟩ : MethodName)) hown (mvT hZ (hw _ (List.mem_of_getElem? (i := 56) rfl))) (mvT hZ (hw _ (List.mem_of_getElem? (i := 57) rfl))) (mvT hZ (hw _ (List.mem_of_getElem? (i := 4) rfl))) (mvT hZ (hw _ (List.mem_of_getElem? (i := 58) rfl))) (by decide) (backOf (W := 0) (rm139 l Z a0 hw [] ((p3 &&& (255 : Int32)).toUInt32.toUInt16.toUInt32.toInt32) cs h0 n0 Z0 S_COMPACT_STRINGS hcs (own_char _)) hZ (hw _ (List.mem_of_getElem? (i := 58) rfl)) (hw _ (List.mem_of_getElem? (i := 4) rfl)) (by decide) (by decide)) (g := (mkF m 6 #[.val (.ref o0), .val (.int p1), .val (.int p2), .val (.int p3), .unset] [(.int ((p3 &&& (255 : Int32)).toUInt32.toUInt16.toUInt32.toInt32))])) rfl (by rw [hml]; rfl) (argsL := [(.int ((p3 &&& (255 : Int32)).toUInt32.toUInt16.toUInt32.toInt32))]) (rest := []) (lenOf pd_14 rfl) rfl (by show 2 * 0 + _ ≤ _; exact Nat.le_of_eq rfl) (hb hby d2_6) (fun _ _ => ⟨rfl, e0, (by decide : 0 + 2 ≤ _), (by decide : 0 + 5 ≤ _)⟩)
  dsimp only [Pt.U, Pt.locs, Pt.cells, Pt.slots] at X1 l1 y1 z1' st1 hQ1
  subst l1 y1 z1'
  obtain ⟨b_1, rfl, N1q, K1, r0_1⟩ := hQ1
  have N1 := Fr.app N0 N1q
  have J1 : Keep h0 T1.heap [o0, li, arr] := (Keep.refl h0 [o0, li, arr]).trans K1 all0
  have g_b_1 : n0 ≤ b_1 := Nat.le_trans Z0 r0_1
  have sz_b_1 : h0.size ≤ b_1 := Nat.le_trans (Keep.refl h0 [o0, li, arr]).1 r0_1
  have ne2 : o0 ≠ b_1 := Nat.ne_of_lt (Nat.lt_of_lt_of_le E_o0.lt r0_1)
  have ne3 : li ≠ b_1 := Nat.ne_of_lt (Nat.lt_of_lt_of_le E_li.lt r0_1)
  have ne4 : arr ≠ b_1 := Nat.ne_of_lt (Nat.lt_of_lt_of_le V_arr.lt r0_1)
  have ne5 : x0 ≠ b_1 := Nat.ne_of_lt (Nat.lt_of_lt_of_le E_x0.lt r0_1)
  have ne6 : x1 ≠ b_1 := Nat.ne_of_lt (Nat.lt_of_lt_of_le E_x1.lt r0_1)
  have pre7 : ∀ t, Steps p.tables e below (T1.setTop (mkF m 13 #[.val (.ref o0), .val (.int p1), .val (.int p2), .val (.int p3), .val (.ref b_1)] [(.int (1 : Int32)), (.int p1)])) t → Steps p.tables e below (s₁.setTop (entryFrame m #[(.ref o0), (.int p1), (.int p2), (.int p3)] 5)) t := by
    intro t kt
    refine pre0 _ ?_
    show Steps p.tables e below (s₁.setTop (mkF m 0 #[.val (.ref o0), .val (.int p1), .val (.int p2), .val (.int p3), .unset] [])) _
    refine XS.iloadN X0.here hx rfl (hb hby d2_0) rfl ?_
    show Steps p.tables e below (s₁.setTop (mkF m 1 #[.val (.ref o0), .val (.int p1), .val (.int p2), .val (.int p3), .unset] [(.int p3)])) _
    refine XS.sipush X0.here hx rfl (hb hby d2_1) ?_
    show Steps p.tables e below (s₁.setTop (mkF m 4 #[.val (.ref o0), .val (.int p1), .val (.int p2), .val (.int p3), .unset] [(.int (255 : Int32)), (.int p3)])) _
    refine XS.iand X0.here hx rfl (hb hby d2_4) rfl ?_
    show Steps p.tables e below (s₁.setTop (mkF m 5 #[.val (.ref o0), .val (.int p1), .val (.int p2), .val (.int p3), .unset] [(.int (p3 &&& (255 : Int32)))])) _
    refine XS.i2c X0.here hx rfl (hb hby d2_5) rfl ?_
    show Steps p.tables e below (s₁.setTop (mkF m 6 #[.val (.ref o0), .val (.int p1), .val (.int p2), .val (.int p3), .unset] [(.int ((p3 &&& (255 : Int32)).toUInt32.toUInt16.toUInt32.toInt32))])) _
    refine st1 _ ?_
    show Steps p.tables e below (T1.setTop (mkF m 9 #[.val (.ref o0), .val (.int p1), .val (.int p2), .val (.int p3), .unset] [(.ref b_1)])) _
    refine XS.astore X1.here hx rfl (hb hby d2_9) rfl rfl (l' := #[.val (.ref o0), .val (.int p1), .val (.int p2), .val (.int p3), .val (.ref b_1)]) rfl ?_
    show Steps p.tables e below (T1.setTop (mkF m 11 #[.val (.ref o0), .val (.int p1), .val (.int p2), .val (.int p3), .val (.ref b_1)] [])) _
    refine XS.iloadN X1.here hx rfl (hb hby d2_11) rfl ?_
    show Steps p.tables e below (T1.setTop (mkF m 12 #[.val (.ref o0), .val (.int p1), .val (.int p2), .val (.int p3), .val (.ref b_1)] [(.int p1)])) _
    refine XS.iconst X1.here hx rfl (hb hby d2_12) ?_
    exact kt
  by_cases hc13_8 : p1 = (1 : Int32)
  · skip
    have c9 : Exa Z T1.heap o0 "com/example/tierline/tierline/csv/LineProblems" := (E_o0.keep K1)
    have c10 : Fld Z T1.heap o0 "com/example/tierline/tierline/csv/LineProblems" "count" "J" (.long cnt) := (F_count_o0.keep K1 nin0)
    have c11 : Fld Z T1.heap o0 "com/example/tierline/tierline/csv/LineProblems" "listed" "Ljava/util/List;" (.ref li) := (F_listed_o0.keep K1 nin0)
    have c12 : Exa Z T1.heap li "java/util/ArrayList" := (E_li.keep K1)
    have c13 : Fld Z T1.heap li "java/util/ArrayList" "size" "I" (.int (2 : Int32)) := (F_size_li.keep K1 nin0)
    have c14 : Fld Z T1.heap li "java/util/AbstractList" "modCount" "I" (.int mc) := (F_modCount_li.keep K1 nin0)
    have c15 : Fld Z T1.heap li "java/util/ArrayList" "elementData" "[Ljava/lang/Object;" (.ref arr) := (F_elementData_li.keep K1 nin0)
    have c16 : Arv Z T1.heap arr ka (.object "java/lang/Object") (10 : Int32) [(.ref x0), (.ref x1)] .null := (V_arr.keep K1 nin0)
    have c17 : Exa Z T1.heap x0 "com/example/tierline/tierline/csv/LineProblems$Problem" := (E_x0.keep K1)
    have c18 : Fld Z T1.heap x0 "com/example/tierline/tierline/csv/LineProblems$Problem" "line" "I" (.int l0) := (F_line_x0.keep K1 nin0)
    have c19 : Fld Z T1.heap x0 "com/example/tierline/tierline/csv/LineProblems$Problem" "conflict" "Z" (.int c0) := (F_conflict_x0.keep K1 nin0)
    have c20 : Exa Z T1.heap x1 "com/example/tierline/tierline/csv/LineProblems$Problem" := (E_x1.keep K1)
    have c21 : Fld Z T1.heap x1 "com/example/tierline/tierline/csv/LineProblems$Problem" "line" "I" (.int l1) := (F_line_x1.keep K1 nin0)
    have c22 : Fld Z T1.heap x1 "com/example/tierline/tierline/csv/LineProblems$Problem" "conflict" "Z" (.int c1) := (F_conflict_x1.keep K1 nin0)
    have ne23 : arr ≠ o0 := (Ne.symm (Exa.neArv c9 c16 (hw _ (List.mem_of_getElem? (i := 1) rfl))))
    have ne24 : li ≠ o0 := (ne_exa c12 c9 (by decide))
    have ne25 : x0 ≠ o0 := (ne_exa c17 c9 (by decide))
    have ne26 : x1 ≠ o0 := (ne_exa c20 c9 (by decide))
    have ne27 : arr ≠ li := (Ne.symm (Exa.neArv c12 c16 (hw _ (List.mem_of_getElem? (i := 18) rfl))))
    have ne28 : x0 ≠ li := (ne_exa c17 c12 (by decide))
    have ne29 : x1 ≠ li := (ne_exa c20 c12 (by decide))
    have ne30 : x0 ≠ arr := (Exa.neArv c17 c16 (hw _ (List.mem_of_getElem? (i := 81) rfl)))
    have ne31 : x1 ≠ arr := (Exa.neArv c20 c16 (hw _ (List.mem_of_getElem? (i := 81) rfl)))
    have z32 : n0 ≤ T1.heap.size := (Nat.le_trans Z0 K1.1)
    obtain ⟨cq33, kq33, q33a, q33b, q33c⟩ := isOf hZ rfl c9
    -- pc 20: LineProblems.addAheadOnLine by rm483_2
    obtain ⟨_, _, ⟨T33, L33, k33, n33⟩, -, X33, ⟨Lc33, hQ33, l33, y33, z33'⟩, st33⟩ := X1.virtualBack hx (y := (⟨"com/example/tierline/tierline/csv/LineProblems", "addAheadOnLine", "(ILjava/lang/String;)V"⟩ : MethodName)) (z := (⟨"com/example/tierline/tierline/csv/LineProblems", "addAheadOnLine", "(ILjava/lang/String;)V"⟩ : MethodName)) hown (mvT hZ (hw _ (List.mem_of_getElem? (i := 176) rfl))) (mvT hZ (hw _ (List.mem_of_getElem? (i := 177) rfl))) (notFace_of_selects (args := #[]) (mvT hZ (hw _ (List.mem_of_getElem? (i := 179) rfl)))) (mvT hZ (hw _ (List.mem_of_getElem? (i := 179) rfl))) (mvT hZ (hw _ (List.mem_of_getElem? (i := 178) rfl))) (by decide) (backOf (W := 0) (rm483_2 l Z a0 hw [] o0 p2 b_1 cnt li mc arr ka x0 l0 c0 x1 l1 c1 T1.heap n0 z32 c9 c10 c11 c12 c13 c14 g_o0 g_li c15 c16 ovr_ka g_arr c17 c18 c19 c20 c21 c22) hZ (hw _ (List.mem_of_getElem? (i := 180) rfl)) (hw _ (List.mem_of_getElem? (i := 2) rfl)) (by decide) (by decide)) q33a q33c (g := (mkF m 20 #[.val (.ref o0), .val (.int p1), .val (.int p2), .val (.int p3), .val (.ref b_1)] [(.ref b_1), (.int p2), (.ref o0)])) rfl (by rw [hml]; rfl) (Steps.refl _) (argsL := [(.int p2), (.ref b_1)]) (rest := []) (lenOf pd_15 rfl) rfl (by show 2 * 0 + _ ≤ _; exact Nat.le_of_eq rfl) (hb hby d2_20) (fun _ _ => ⟨rfl, rfl, (by decide : 2 + 1 ≤ _), (by decide : 5 + 3 ≤ _)⟩)
    dsimp only [Pt.U, Pt.locs, Pt.cells, Pt.slots] at X33 l33 y33 z33' st33 hQ33
    subst l33 y33 z33'
    obtain ⟨rfl, N33q, K33, r0_33, r1_33⟩ := hQ33
    have N33 := Fr.app N1 N33q
    have J33 : Keep h0 T33.heap [o0, li, arr] := J1.trans K33 (allS (Or.inl (List.mem_of_getElem? (i := 0) rfl)) (allS (Or.inl (List.mem_of_getElem? (i := 1) rfl)) (allS (Or.inl (List.mem_of_getElem? (i := 2) rfl)) all0)))
    obtain ⟨fs, hr, hrun, hended, hW, hsame⟩ := X33.leave (v := none) (fun _ => rfl)
    refine ⟨_, _, pre7 _ ?_, hrun, hended, _, _, rfl, ?_, ⟨_, rfl⟩, hW, hsame.mono (by decide) (by decide)⟩
    · show Steps p.tables e below (T1.setTop (mkF m 13 #[.val (.ref o0), .val (.int p1), .val (.int p2), .val (.int p3), .val (.ref b_1)] [(.int (1 : Int32)), (.int p1)])) _
      refine XS.icmpNo X1.here hx rfl (hb hby d2_13) rfl (teq hc13_8).2 ?_
      show Steps p.tables e below (T1.setTop (mkF m 16 #[.val (.ref o0), .val (.int p1), .val (.int p2), .val (.int p3), .val (.ref b_1)] [])) _
      refine XS.aloadN X1.here hx rfl (hb hby d2_16) rfl rfl ?_
      show Steps p.tables e below (T1.setTop (mkF m 17 #[.val (.ref o0), .val (.int p1), .val (.int p2), .val (.int p3), .val (.ref b_1)] [(.ref o0)])) _
      refine XS.iloadN X1.here hx rfl (hb hby d2_17) rfl ?_
      show Steps p.tables e below (T1.setTop (mkF m 18 #[.val (.ref o0), .val (.int p1), .val (.int p2), .val (.int p3), .val (.ref b_1)] [(.int p2), (.ref o0)])) _
      refine XS.aload X1.here hx rfl (hb hby d2_18) rfl rfl ?_
      show Steps p.tables e below (T1.setTop (mkF m 20 #[.val (.ref o0), .val (.int p1), .val (.int p2), .val (.int p3), .val (.ref b_1)] [(.ref b_1), (.int p2), (.ref o0)])) _
      refine st33.trans ?_
      show Steps p.tables e below (T33.setTop (mkF m 23 #[.val (.ref o0), .val (.int p1), .val (.int p2), .val (.int p3), .val (.ref b_1)] [])) _
      refine XS.goto X33.here hx rfl (pc0 := 23) (pc' := 48) rfl (hb hby d2_23) (by decide) (by decide) ?_
      show Steps p.tables e below (T33.setTop (mkF m 48 #[.val (.ref o0), .val (.int p1), .val (.int p2), .val (.int p3), .val (.ref b_1)] [])) _
      exact X33.returnOut hx Bd.returns (hb hby d2_48) hr
    · show Q2_2 Z o0 p1 p2 p3 cnt li mc arr ka x0 l0 c0 x1 l1 c1 cs h0 n0 _ T33.heap _
      exact ⟨rfl, N33, J33, r0_33, r1_33⟩
  · skip
    have pre34 : ∀ t, Steps p.tables e below (T1.setTop (mkF m 28 #[.val (.ref o0), .val (.int p1), .val (.int p2), .val (.int p3), .val (.ref b_1)] [(.int (2 : Int32)), (.int p1)])) t → Steps p.tables e below (s₁.setTop (entryFrame m #[(.ref o0), (.int p1), (.int p2), (.int p3)] 5)) t := by
      intro t kt
      refine pre7 _ ?_
      show Steps p.tables e below (T1.setTop (mkF m 13 #[.val (.ref o0), .val (.int p1), .val (.int p2), .val (.int p3), .val (.ref b_1)] [(.int (1 : Int32)), (.int p1)])) _
      refine XS.icmpYes X1.here hx rfl (pc0 := 13) (pc' := 26) rfl (hb hby d2_13) rfl (feq hc13_8).2 (by decide) (by decide) ?_
      show Steps p.tables e below (T1.setTop (mkF m 26 #[.val (.ref o0), .val (.int p1), .val (.int p2), .val (.int p3), .val (.ref b_1)] [])) _
      refine XS.iloadN X1.here hx rfl (hb hby d2_26) rfl ?_
      show Steps p.tables e below (T1.setTop (mkF m 27 #[.val (.ref o0), .val (.int p1), .val (.int p2), .val (.int p3), .val (.ref b_1)] [(.int p1)])) _
      refine XS.iconst X1.here hx rfl (hb hby d2_27) ?_
      exact kt
    by_cases hc28_35 : p1 = (2 : Int32)
    · skip
      have c36 : Exa Z T1.heap o0 "com/example/tierline/tierline/csv/LineProblems" := (E_o0.keep K1)
      have c37 : Fld Z T1.heap o0 "com/example/tierline/tierline/csv/LineProblems" "count" "J" (.long cnt) := (F_count_o0.keep K1 nin0)
      have c38 : Fld Z T1.heap o0 "com/example/tierline/tierline/csv/LineProblems" "listed" "Ljava/util/List;" (.ref li) := (F_listed_o0.keep K1 nin0)
      have c39 : Exa Z T1.heap li "java/util/ArrayList" := (E_li.keep K1)
      have c40 : Fld Z T1.heap li "java/util/ArrayList" "size" "I" (.int (2 : Int32)) := (F_size_li.keep K1 nin0)
      have c41 : Fld Z T1.heap li "java/util/AbstractList" "modCount" "I" (.int mc) := (F_modCount_li.keep K1 nin0)
      have c42 : Fld Z T1.heap li "java/util/ArrayList" "elementData" "[Ljava/lang/Object;" (.ref arr) := (F_elementData_li.keep K1 nin0)
      have c43 : Arv Z T1.heap arr ka (.object "java/lang/Object") (10 : Int32) [(.ref x0), (.ref x1)] .null := (V_arr.keep K1 nin0)
      have c44 : Exa Z T1.heap x0 "com/example/tierline/tierline/csv/LineProblems$Problem" := (E_x0.keep K1)
      have c45 : Fld Z T1.heap x0 "com/example/tierline/tierline/csv/LineProblems$Problem" "line" "I" (.int l0) := (F_line_x0.keep K1 nin0)
      have c46 : Fld Z T1.heap x0 "com/example/tierline/tierline/csv/LineProblems$Problem" "conflict" "Z" (.int c0) := (F_conflict_x0.keep K1 nin0)
      have c47 : Exa Z T1.heap x1 "com/example/tierline/tierline/csv/LineProblems$Problem" := (E_x1.keep K1)
      have c48 : Fld Z T1.heap x1 "com/example/tierline/tierline/csv/LineProblems$Problem" "line" "I" (.int l1) := (F_line_x1.keep K1 nin0)
      have c49 : Fld Z T1.heap x1 "com/example/tierline/tierline/csv/LineProblems$Problem" "conflict" "Z" (.int c1) := (F_conflict_x1.keep K1 nin0)
      have ne50 : arr ≠ o0 := (Ne.symm (Exa.neArv c36 c43 (hw _ (List.mem_of_getElem? (i := 1) rfl))))
      have ne51 : li ≠ o0 := (ne_exa c39 c36 (by decide))
      have ne52 : x0 ≠ o0 := (ne_exa c44 c36 (by decide))
      have ne53 : x1 ≠ o0 := (ne_exa c47 c36 (by decide))
      have ne54 : arr ≠ li := (Ne.symm (Exa.neArv c39 c43 (hw _ (List.mem_of_getElem? (i := 18) rfl))))
      have ne55 : x0 ≠ li := (ne_exa c44 c39 (by decide))
      have ne56 : x1 ≠ li := (ne_exa c47 c39 (by decide))
      have ne57 : x0 ≠ arr := (Exa.neArv c44 c43 (hw _ (List.mem_of_getElem? (i := 81) rfl)))
      have ne58 : x1 ≠ arr := (Exa.neArv c47 c43 (hw _ (List.mem_of_getElem? (i := 81) rfl)))
      have z59 : n0 ≤ T1.heap.size := (Nat.le_trans Z0 K1.1)
      obtain ⟨cq60, kq60, q60a, q60b, q60c⟩ := isOf hZ rfl c36
      -- pc 35: LineProblems.addConflict by rm484_2
      obtain ⟨_, _, ⟨T60, L60, k60, n60⟩, -, X60, ⟨Lc60, hQ60, l60, y60, z60'⟩, st60⟩ := X1.virtualBack hx (y := (⟨"com/example/tierline/tierline/csv/LineProblems", "addConflict", "(ILjava/lang/String;)V"⟩ : MethodName)) (z := (⟨"com/example/tierline/tierline/csv/LineProblems", "addConflict", "(ILjava/lang/String;)V"⟩ : MethodName)) hown (mvT hZ (hw _ (List.mem_of_getElem? (i := 144) rfl))) (mvT hZ (hw _ (List.mem_of_getElem? (i := 145) rfl))) (notFace_of_selects (args := #[]) (mvT hZ (hw _ (List.mem_of_getElem? (i := 147) rfl)))) (mvT hZ (hw _ (List.mem_of_getElem? (i := 147) rfl))) (mvT hZ (hw _ (List.mem_of_getElem? (i := 146) rfl))) (by decide) (backOf (W := 0) (rm484_2 l Z a0 hw [] o0 p2 b_1 cnt li mc arr ka x0 l0 c0 x1 l1 c1 T1.heap n0 z59 c36 c37 c38 c39 c40 c41 g_o0 g_li c42 c43 ovr_ka g_arr c44 c45 c46 c47 c48 c49) hZ (hw _ (List.mem_of_getElem? (i := 148) rfl)) (hw _ (List.mem_of_getElem? (i := 2) rfl)) (by decide) (by decide)) q60a q60c (g := (mkF m 35 #[.val (.ref o0), .val (.int p1), .val (.int p2), .val (.int p3), .val (.ref b_1)] [(.ref b_1), (.int p2), (.ref o0)])) rfl (by rw [hml]; rfl) (Steps.refl _) (argsL := [(.int p2), (.ref b_1)]) (rest := []) (lenOf pd_15 rfl) rfl (by show 2 * 0 + _ ≤ _; exact Nat.le_of_eq rfl) (hb hby d2_35) (fun _ _ => ⟨rfl, rfl, (by decide : 2 + 1 ≤ _), (by decide : 5 + 3 ≤ _)⟩)
      dsimp only [Pt.U, Pt.locs, Pt.cells, Pt.slots] at X60 l60 y60 z60' st60 hQ60
      subst l60 y60 z60'
      obtain ⟨rfl, N60q, K60, r0_60, r1_60⟩ := hQ60
      have N60 := Fr.app N1 N60q
      have J60 : Keep h0 T60.heap [o0, li, arr] := J1.trans K60 (allS (Or.inl (List.mem_of_getElem? (i := 0) rfl)) (allS (Or.inl (List.mem_of_getElem? (i := 1) rfl)) (allS (Or.inl (List.mem_of_getElem? (i := 2) rfl)) all0)))
      obtain ⟨fs, hr, hrun, hended, hW, hsame⟩ := X60.leave (v := none) (fun _ => rfl)
      refine ⟨_, _, pre34 _ ?_, hrun, hended, _, _, rfl, ?_, ⟨_, rfl⟩, hW, hsame.mono (by decide) (by decide)⟩
      · show Steps p.tables e below (T1.setTop (mkF m 28 #[.val (.ref o0), .val (.int p1), .val (.int p2), .val (.int p3), .val (.ref b_1)] [(.int (2 : Int32)), (.int p1)])) _
        refine XS.icmpNo X1.here hx rfl (hb hby d2_28) rfl (teq hc28_35).2 ?_
        show Steps p.tables e below (T1.setTop (mkF m 31 #[.val (.ref o0), .val (.int p1), .val (.int p2), .val (.int p3), .val (.ref b_1)] [])) _
        refine XS.aloadN X1.here hx rfl (hb hby d2_31) rfl rfl ?_
        show Steps p.tables e below (T1.setTop (mkF m 32 #[.val (.ref o0), .val (.int p1), .val (.int p2), .val (.int p3), .val (.ref b_1)] [(.ref o0)])) _
        refine XS.iloadN X1.here hx rfl (hb hby d2_32) rfl ?_
        show Steps p.tables e below (T1.setTop (mkF m 33 #[.val (.ref o0), .val (.int p1), .val (.int p2), .val (.int p3), .val (.ref b_1)] [(.int p2), (.ref o0)])) _
        refine XS.aload X1.here hx rfl (hb hby d2_33) rfl rfl ?_
        show Steps p.tables e below (T1.setTop (mkF m 35 #[.val (.ref o0), .val (.int p1), .val (.int p2), .val (.int p3), .val (.ref b_1)] [(.ref b_1), (.int p2), (.ref o0)])) _
        refine st60.trans ?_
        show Steps p.tables e below (T60.setTop (mkF m 38 #[.val (.ref o0), .val (.int p1), .val (.int p2), .val (.int p3), .val (.ref b_1)] [])) _
        refine XS.goto X60.here hx rfl (pc0 := 38) (pc' := 48) rfl (hb hby d2_38) (by decide) (by decide) ?_
        show Steps p.tables e below (T60.setTop (mkF m 48 #[.val (.ref o0), .val (.int p1), .val (.int p2), .val (.int p3), .val (.ref b_1)] [])) _
        exact X60.returnOut hx Bd.returns (hb hby d2_48) hr
      · show Q2_2 Z o0 p1 p2 p3 cnt li mc arr ka x0 l0 c0 x1 l1 c1 cs h0 n0 _ T60.heap _
        exact ⟨rfl, N60, J60, r0_60, r1_60⟩
    · skip
      have c61 : Exa Z T1.heap o0 "com/example/tierline/tierline/csv/LineProblems" := (E_o0.keep K1)
      have c62 : Fld Z T1.heap o0 "com/example/tierline/tierline/csv/LineProblems" "count" "J" (.long cnt) := (F_count_o0.keep K1 nin0)
      have c63 : Fld Z T1.heap o0 "com/example/tierline/tierline/csv/LineProblems" "listed" "Ljava/util/List;" (.ref li) := (F_listed_o0.keep K1 nin0)
      have c64 : Exa Z T1.heap li "java/util/ArrayList" := (E_li.keep K1)
      have c65 : Fld Z T1.heap li "java/util/ArrayList" "size" "I" (.int (2 : Int32)) := (F_size_li.keep K1 nin0)
      have c66 : Fld Z T1.heap li "java/util/AbstractList" "modCount" "I" (.int mc) := (F_modCount_li.keep K1 nin0)
      have c67 : Fld Z T1.heap li "java/util/ArrayList" "elementData" "[Ljava/lang/Object;" (.ref arr) := (F_elementData_li.keep K1 nin0)
      have c68 : Arv Z T1.heap arr ka (.object "java/lang/Object") (10 : Int32) [(.ref x0), (.ref x1)] .null := (V_arr.keep K1 nin0)
      have c69 : Exa Z T1.heap x0 "com/example/tierline/tierline/csv/LineProblems$Problem" := (E_x0.keep K1)
      have c70 : Fld Z T1.heap x0 "com/example/tierline/tierline/csv/LineProblems$Problem" "line" "I" (.int l0) := (F_line_x0.keep K1 nin0)
      have c71 : Fld Z T1.heap x0 "com/example/tierline/tierline/csv/LineProblems$Problem" "conflict" "Z" (.int c0) := (F_conflict_x0.keep K1 nin0)
      have c72 : Exa Z T1.heap x1 "com/example/tierline/tierline/csv/LineProblems$Problem" := (E_x1.keep K1)
      have c73 : Fld Z T1.heap x1 "com/example/tierline/tierline/csv/LineProblems$Problem" "line" "I" (.int l1) := (F_line_x1.keep K1 nin0)
      have c74 : Fld Z T1.heap x1 "com/example/tierline/tierline/csv/LineProblems$Problem" "conflict" "Z" (.int c1) := (F_conflict_x1.keep K1 nin0)
      have ne75 : arr ≠ o0 := (Ne.symm (Exa.neArv c61 c68 (hw _ (List.mem_of_getElem? (i := 1) rfl))))
      have ne76 : li ≠ o0 := (ne_exa c64 c61 (by decide))
      have ne77 : x0 ≠ o0 := (ne_exa c69 c61 (by decide))
      have ne78 : x1 ≠ o0 := (ne_exa c72 c61 (by decide))
      have ne79 : arr ≠ li := (Ne.symm (Exa.neArv c64 c68 (hw _ (List.mem_of_getElem? (i := 18) rfl))))
      have ne80 : x0 ≠ li := (ne_exa c69 c64 (by decide))
      have ne81 : x1 ≠ li := (ne_exa c72 c64 (by decide))
      have ne82 : x0 ≠ arr := (Exa.neArv c69 c68 (hw _ (List.mem_of_getElem? (i := 81) rfl)))
      have ne83 : x1 ≠ arr := (Exa.neArv c72 c68 (hw _ (List.mem_of_getElem? (i := 81) rfl)))
      have z84 : n0 ≤ T1.heap.size := (Nat.le_trans Z0 K1.1)
      obtain ⟨cq85, kq85, q85a, q85b, q85c⟩ := isOf hZ rfl c61
      -- pc 45: LineProblems.add by rm482_2
      obtain ⟨_, _, ⟨T85, L85, k85, n85⟩, -, X85, ⟨Lc85, hQ85, l85, y85, z85'⟩, st85⟩ := X1.virtualBack hx (y := (⟨"com/example/tierline/tierline/csv/LineProblems", "add", "(ILjava/lang/String;)V"⟩ : MethodName)) (z := (⟨"com/example/tierline/tierline/csv/LineProblems", "add", "(ILjava/lang/String;)V"⟩ : MethodName)) hown (mvT hZ (hw _ (List.mem_of_getElem? (i := 75) rfl))) (mvT hZ (hw _ (List.mem_of_getElem? (i := 76) rfl))) (notFace_of_selects (args := #[]) (mvT hZ (hw _ (List.mem_of_getElem? (i := 78) rfl)))) (mvT hZ (hw _ (List.mem_of_getElem? (i := 78) rfl))) (mvT hZ (hw _ (List.mem_of_getElem? (i := 77) rfl))) (by decide) (backOf (W := 0) (rm482_2 l Z a0 hw [] o0 p2 b_1 cnt li mc arr ka x0 l0 c0 x1 l1 c1 T1.heap n0 z84 c61 c62 c63 c64 c65 c66 g_o0 g_li c67 c68 ovr_ka g_arr c69 c70 c71 c72 c73 c74) hZ (hw _ (List.mem_of_getElem? (i := 79) rfl)) (hw _ (List.mem_of_getElem? (i := 2) rfl)) (by decide) (by decide)) q85a q85c (g := (mkF m 45 #[.val (.ref o0), .val (.int p1), .val (.int p2), .val (.int p3), .val (.ref b_1)] [(.ref b_1), (.int p2), (.ref o0)])) rfl (by rw [hml]; rfl) (Steps.refl _) (argsL := [(.int p2), (.ref b_1)]) (rest := []) (lenOf pd_15 rfl) rfl (by show 2 * 0 + _ ≤ _; exact Nat.le_of_eq rfl) (hb hby d2_45) (fun _ _ => ⟨rfl, rfl, (by decide : 2 + 1 ≤ _), (by decide : 5 + 3 ≤ _)⟩)
      dsimp only [Pt.U, Pt.locs, Pt.cells, Pt.slots] at X85 l85 y85 z85' st85 hQ85
      subst l85 y85 z85'
      obtain ⟨rfl, N85q, K85, r0_85, r1_85⟩ := hQ85
      have N85 := Fr.app N1 N85q
      have J85 : Keep h0 T85.heap [o0, li, arr] := J1.trans K85 (allS (Or.inl (List.mem_of_getElem? (i := 0) rfl)) (allS (Or.inl (List.mem_of_getElem? (i := 1) rfl)) (allS (Or.inl (List.mem_of_getElem? (i := 2) rfl)) all0)))
      obtain ⟨fs, hr, hrun, hended, hW, hsame⟩ := X85.leave (v := none) (fun _ => rfl)
      refine ⟨_, _, pre34 _ ?_, hrun, hended, _, _, rfl, ?_, ⟨_, rfl⟩, hW, hsame.mono (by decide) (by decide)⟩
      · show Steps p.tables e below (T1.setTop (mkF m 28 #[.val (.ref o0), .val (.int p1), .val (.int p2), .val (.int p3), .val (.ref b_1)] [(.int (2 : Int32)), (.int p1)])) _
        refine XS.icmpYes X1.here hx rfl (pc0 := 28) (pc' := 41) rfl (hb hby d2_28) rfl (feq hc28_35).2 (by decide) (by decide) ?_
        show Steps p.tables e below (T1.setTop (mkF m 41 #[.val (.ref o0), .val (.int p1), .val (.int p2), .val (.int p3), .val (.ref b_1)] [])) _
        refine XS.aloadN X1.here hx rfl (hb hby d2_41) rfl rfl ?_
        show Steps p.tables e below (T1.setTop (mkF m 42 #[.val (.ref o0), .val (.int p1), .val (.int p2), .val (.int p3), .val (.ref b_1)] [(.ref o0)])) _
        refine XS.iloadN X1.here hx rfl (hb hby d2_42) rfl ?_
        show Steps p.tables e below (T1.setTop (mkF m 43 #[.val (.ref o0), .val (.int p1), .val (.int p2), .val (.int p3), .val (.ref b_1)] [(.int p2), (.ref o0)])) _
        refine XS.aload X1.here hx rfl (hb hby d2_43) rfl rfl ?_
        show Steps p.tables e below (T1.setTop (mkF m 45 #[.val (.ref o0), .val (.int p1), .val (.int p2), .val (.int p3), .val (.ref b_1)] [(.ref b_1), (.int p2), (.ref o0)])) _
        refine st85.trans ?_
        show Steps p.tables e below (T85.setTop (mkF m 48 #[.val (.ref o0), .val (.int p1), .val (.int p2), .val (.int p3), .val (.ref b_1)] [])) _
        exact X85.returnOut hx Bd.returns (hb hby d2_48) hr
      · show Q2_2 Z o0 p1 p2 p3 cnt li mc arr ka x0 l0 c0 x1 l1 c1 cs h0 n0 _ T85.heap _
        exact ⟨rfl, N85, J85, r0_85, r1_85⟩
theorem own_12 {k : Int32} (h : k < (1 : Int32)) : k < (2 : Int32) := by
  rw [Int32.lt_iff_toInt_lt, show (1 : Int32).toInt = 1 from rfl] at h
  rw [Int32.lt_iff_toInt_lt, show (2 : Int32).toInt = 2 from rfl]; omega
theorem own_23 {k : Int32} (h : k < (2 : Int32)) : k < (3 : Int32) := by
  rw [Int32.lt_iff_toInt_lt, show (2 : Int32).toInt = 2 from rfl] at h
  rw [Int32.lt_iff_toInt_lt, show (3 : Int32).toInt = 3 from rfl]; omega
theorem own_k {k n : Int32} (h : k = (n &&& (3 : Int32))) : 0 ≤ k.toInt ∧ k.toInt ≤ 3 := by
  have q := c_and n (3 : Int32) (by decide)
  rw [show (3 : Int32).toInt = 3 from rfl] at q
  rw [h]; exact q
theorem own_k0 {k : Int32} (h : 0 ≤ k.toInt ∧ k.toInt ≤ 3) (q : k < (1 : Int32)) : k = 0 := by
  rw [Int32.lt_iff_toInt_lt, show (1 : Int32).toInt = 1 from rfl] at q
  exact Int32.toInt_inj.mp (by rw [show (0 : Int32).toInt = 0 from rfl]; omega)
theorem own_kp {k : Int32} (q : ¬ k < (1 : Int32)) : ¬ k = 0 := fun z => q (by rw [z]; decide)
theorem own_last0 {k : Int32} (h : 0 ≤ k.toInt ∧ k.toInt ≤ 3) (q : k < (1 : Int32)) : (if (0 : Int64) = (0 : Int64) then (1 : Int32) else 0) = (if k = (0 : Int32) then (1 : Int32) else 0) := by rw [if_pos rfl, if_pos (own_k0 h q)]
theorem own_last1 {k : Int32} (h : 0 ≤ k.toInt ∧ k.toInt ≤ 3) (q : ¬ k < (1 : Int32)) (q2 : k < (2 : Int32)) : (if ((0 : Int64) + (1 : Int64)) = (0 : Int64) then (1 : Int32) else 0) = (if k = (0 : Int32) then (1 : Int32) else 0) := by rw [if_neg (by decide), if_neg (own_kp q)]
theorem own_last2 {k : Int32} (h : 0 ≤ k.toInt ∧ k.toInt ≤ 3) (q : ¬ k < (1 : Int32)) (q2 : ¬ k < (2 : Int32)) (q3 : k < (3 : Int32)) : (if (((0 : Int64) + (1 : Int64)) + (1 : Int64)) = (0 : Int64) then (1 : Int32) else 0) = (if k = (0 : Int32) then (1 : Int32) else 0) := by rw [if_neg (by decide), if_neg (own_kp q)]
theorem own_last3 {k : Int32} (h : 0 ≤ k.toInt ∧ k.toInt ≤ 3) (q : ¬ k < (1 : Int32)) (q2 : ¬ k < (2 : Int32)) (q3 : ¬ k < (3 : Int32)) : (if ((((0 : Int64) + (1 : Int64)) + (1 : Int64)) + (1 : Int64)) = (0 : Int64) then (1 : Int32) else 0) = (if k = (0 : Int32) then (1 : Int32) else 0) := by rw [if_neg (by decide), if_neg (own_kp q)]
theorem pd_17 : parseMethodDescriptor "(Ljava/lang/String;)V" = some ⟨[(.object "java/lang/String")], none⟩ := by decide +kernel
theorem pd_18 : parseMethodDescriptor "()Z" = some ⟨[], some .boolean⟩ := by decide +kernel
theorem pd_19 : parseMethodDescriptor "(Lcom/example/tierline/tierline/csv/LineProblems;IIC)V" = some ⟨[(.object "com/example/tierline/tierline/csv/LineProblems"), .int, .int, .char], none⟩ := by decide +kernel
theorem ef_0 (m : MethodId) (p0 : Int32) (p1 : Int32) (p2 : Int32) (p3 : Int32) (p4 : Int32) (p5 : Int32) : entryFrame m #[(.int p0), (.int p1), (.int p2), (.int p3), (.int p4), (.int p5)] maxLocals = mkF m 0 #[.val (.int p0), .val (.int p1), .val (.int p2), .val (.int p3), .val (.int p4), .val (.int p5), .unset, .unset, .unset, .unset] [] := by first | (simp [entryFrame, mkF, argsToLocals, Value.category, maxLocals]; done) | rfl
def Q0 (Z : State) (p0 : Int32) (p1 : Int32) (p2 : Int32) (p3 : Int32) (p4 : Int32) (p5 : Int32) (dd : Addr) (kd : ClassId) (cs : Int32) (h0 : Heap) (n0 : Nat) (v : Option Value) (h : Heap) (L : List Loc) : Prop := v = some (.int (1 : Int32)) ∧ Fr n0 L
set_option maxRecDepth 65536 in
set_option maxHeartbeats 40000000 in
theorem rm0 (l : Launch) (Z : State) (a0 : Array Value) (hw : ∀ d ∈ tables_1, d.before a0 Z = true) (ws : List Jvm.Cond) (p0 : Int32) (p1 : Int32) (p2 : Int32) (p3 : Int32) (p4 : Int32) (p5 : Int32) (dd : Addr) (kd : ClassId) (cs : Int32) (h0 : Heap) (n0 : Nat) (Z0 : n0 ≤ h0.size) (S_DEFAULTCAPACITY_EMPTY_ELEMENTDATA : Sta Z h0 "java/util/ArrayList" "DEFAULTCAPACITY_EMPTY_ELEMENTDATA" "[Ljava/lang/Object;" (.ref dd)) (V_dd : Arv Z h0 dd kd (.object "java/lang/Object") (0 : Int32) [] .null) (S_COMPACT_STRINGS : Sta Z h0 "java/lang/String" "COMPACT_STRINGS" "Z" (.int cs)) (hcs : ¬ cs = (0 : Int32)) :
    MetFree l x (head1 (Jvm.Cond.code x code maxLocals ret :: ws) room_1) (fun a U => a = #[(.int p0), (.int p1), (.int p2), (.int p3), (.int p4), (.int p5)] ∧ Z.Warmed39 U.vm ∧ U.heap = h0) (fun _ _ _ _ _ => True) (fun _ U o U' => ∃ v L, o = .returned v ∧ Q0 Z p0 p1 p2 p3 p4 p5 dd kd cs h0 n0 v U'.heap L ∧ ReturnedEndW U o U' L room_1.cells room_1.slots) := by
  refine MetFree.of_bodySF (plainFor_of_name pn_com_example_tierline_tierline_csv_LineProblemsIsEmptyPinLaw) hisR ?_
  intro p e s m args below meth c s₁ Bd hml0 hP hK
  obtain ⟨rfl, hZ, hh⟩ := hP
  have hx := Bd.exec
  have hby := Bd.bytes
  have hml : c.maxLocals = 10 := hml0
  have hown : s.vm.findClass "com/example/tierline/tierline/csv/LineProblemsIsEmptyPinLaw" = some m.cls := findClass_of_methodNamed Bd.named
  have hnm := (name_of_methodNamed Bd.named Bd.method).1
  have X0 : Stand p l e room_1 s m #[(.int p0), (.int p1), (.int p2), (.int p3), (.int p4), (.int p5)] below meth c s₁ [] 0 0 := Stand.of_body Bd
  have e0 : s₁.heap = h0 := by rw [← hh, Bd.state]; rfl
  have N0 := Fr.nil n0
  have pre0 : ∀ t, Steps p.tables e below (s₁.setTop (mkF m 0 #[.val (.int p0), .val (.int p1), .val (.int p2), .val (.int p3), .val (.int p4), .val (.int p5), .unset, .unset, .unset, .unset] [])) t → Steps p.tables e below (s₁.setTop (entryFrame m #[(.int p0), (.int p1), (.int p2), (.int p3), (.int p4), (.int p5)] maxLocals)) t := fun t k => castTop (ef_0 m p0 p1 p2 p3 p4 p5) k
  obtain ⟨kk, e_kk⟩ : ∃ z : Int32, z = (p0 &&& (3 : Int32)) := ⟨_, rfl⟩
  have hkr := own_k e_kk
  obtain ⟨T1, h1, X1, e1, E1, A1, D1, U1, st1⟩ := newO X0 hx hZ hown (hw _ (List.mem_of_getElem? (i := 0) rfl)) (hw _ (List.mem_of_getElem? (i := 1) rfl)) (hw _ (List.mem_of_getElem? (i := 2) rfl)) e0 (g := (mkF m 5 #[.val (.int p0), .val (.int p1), .val (.int p2), .val (.int p3), .val (.int p4), .val (.int p5), .val (.int kk), .unset, .unset, .unset] [])) rfl (hb hby at_5) (by decide) (by decide)
  obtain ⟨b1, g1⟩ : ∃ z, z = h0.size := ⟨_, rfl⟩
  rw [← g1] at A1 D1 U1 st1
  have g_b1 : n0 ≤ b1 := Nat.le_trans Z0 (Nat.le_of_eq g1.symm)
  have sz_b1 : h0.size ≤ b1 := Nat.le_trans (Keep.refl h0 []).1 (Nat.le_of_eq g1.symm)
  have ne2 : dd ≠ b1 := Nat.ne_of_lt (Nat.lt_of_lt_of_le V_dd.lt (Nat.le_of_eq g1.symm))
  have F_listed_b1 : Fld Z h1 b1 "com/example/tierline/tierline/csv/LineProblems" "listed" "Ljava/util/List;" .null := D1 (Or.inr (hw _ (List.mem_of_getElem? (i := 42) rfl))) (ty := (.object "java/util/List")) (by decide)
  have F_file_b1 : Fld Z h1 b1 "com/example/tierline/tierline/csv/LineProblems" "file" "Ljava/lang/String;" .null := D1 (Or.inr (hw _ (List.mem_of_getElem? (i := 44) rfl))) (ty := (.object "java/lang/String")) (by decide)
  have F_count_b1 : Fld Z h1 b1 "com/example/tierline/tierline/csv/LineProblems" "count" "J" (.long (0 : Int64)) := D1 (Or.inl (hw _ (List.mem_of_getElem? (i := 51) rfl))) (ty := .long) (by decide)
  have J1 : Keep h0 h1 [] := (Keep.refl h0 []).ext E1
  have wS : ∀ d ∈ Bundle.stringAtoms, d.before a0 Z = true := fun d hd => by
    simp only [Bundle.stringAtoms, List.mem_cons, List.not_mem_nil, or_false] at hd
    rcases hd with rfl | rfl | rfl | rfl | rfl | rfl | rfl
    · exact hw _ (List.mem_of_getElem? (i := 4) rfl)
    · exact hw _ (List.mem_of_getElem? (i := 5) rfl)
    · exact hw _ (List.mem_of_getElem? (i := 6) rfl)
    · exact hw _ (List.mem_of_getElem? (i := 7) rfl)
    · exact hw _ (List.mem_of_getElem? (i := 8) rfl)
    · exact hw _ (List.mem_of_getElem? (i := 9) rfl)
    · exact hw _ (List.mem_of_getElem? (i := 10) rfl)
  obtain ⟨as, T3, h3, k1, X3, e3, E3, hSi, hk1, hZ1, hown1, st3⟩ := ldcS (s := s) (vm0 := s.vm) X1 hx hZ hown (hw _ (List.mem_of_getElem? (i := 3) rfl)) wS e1 (k0 := 0) (State.WarmedH.since (State.WarmedH.refl s) 0) (Nat.zero_le _) (g := (mkF m 9 #[.val (.int p0), .val (.int p1), .val (.int p2), .val (.int p3), .val (.int p4), .val (.int p5), .val (.int kk), .unset, .unset, .unset] [(.ref b1), (.ref b1)])) rfl (hb hby at_9) (n := 4) (by decide) (by decide) (by decide) (by decide)
  have hZ := hZ1
  have hown := hown1
  have J3 : Keep h0 h3 [] := J1.ext E3
  have c4 : Exa Z h3 b1 "com/example/tierline/tierline/csv/LineProblems" := (A1.ext E3)
  have c5 : Fld Z h3 b1 "com/example/tierline/tierline/csv/LineProblems" "listed" "Ljava/util/List;" .null := (F_listed_b1.ext E3)
  have c6 : Fld Z h3 b1 "com/example/tierline/tierline/csv/LineProblems" "file" "Ljava/lang/String;" .null := (F_file_b1.ext E3)
  have c7 : Fld Z h3 b1 "com/example/tierline/tierline/csv/LineProblems" "count" "J" (.long (0 : Int64)) := (F_count_b1.ext E3)
  have c8 : Sta Z h3 "java/util/ArrayList" "DEFAULTCAPACITY_EMPTY_ELEMENTDATA" "[Ljava/lang/Object;" (.ref dd) := ((S_DEFAULTCAPACITY_EMPTY_ELEMENTDATA.ext E1).ext E3)
  have c9 : Arv Z h3 dd kd (.object "java/lang/Object") (0 : Int32) [] .null := ((V_dd.ext E1).ext E3)
  have z10 : n0 ≤ h3.size := (Nat.le_trans (Nat.le_trans Z0 E1.1) E3.1)
  -- pc 11: LineProblems.<init> by rm1
  obtain ⟨_, _, ⟨T11, L11, k11, n11⟩, -, X11, ⟨Lc11, hQ11, l11, y11, z11'⟩, st11⟩ := X3.specialBack hx (y := (⟨"com/example/tierline/tierline/csv/LineProblems", "<init>", "(Ljava/lang/String;)V"⟩ : MethodName)) rfl hown (mvT hZ (hw _ (List.mem_of_getElem? (i := 11) rfl))) (mvT hZ (hw _ (List.mem_of_getElem? (i := 12) rfl))) (mvT hZ (hw _ (List.mem_of_getElem? (i := 13) rfl))) (by decide) (backOf (W := 1) (rm1 l Z a0 hw [] b1 as dd h3 n0 z10 c4 c5 c6 c7 g_b1 c8) hZ (hw _ (List.mem_of_getElem? (i := 13) rfl)) (hw _ (List.mem_of_getElem? (i := 2) rfl)) (by decide) (by decide)) (g := (mkF m 11 #[.val (.int p0), .val (.int p1), .val (.int p2), .val (.int p3), .val (.int p4), .val (.int p5), .val (.int kk), .unset, .unset, .unset] [(.ref as), (.ref b1), (.ref b1)])) rfl (by rw [hml]; rfl) (Steps.refl _) (a := b1) (argsL := [(.ref as)]) (rest := [(.ref b1)]) (lenOf pd_17 rfl) rfl (by show 2 * 0 + _ ≤ _; exact Nat.le_of_eq rfl) (hb hby at_11) (fun _ _ => ⟨rfl, e3, (by decide : 3 + 1 ≤ _), (by decide : 11 + 3 ≤ _)⟩)
  dsimp only [Pt.U, Pt.locs, Pt.cells, Pt.slots] at X11 l11 y11 z11' st11 hQ11
  subst l11 y11 z11'
  obtain ⟨li_11, rfl, N11q, K11, r0_11, r1_11, r2_11, r3_11, r4_11, r5_11, r6_11⟩ := hQ11
  have N11 := Fr.app N0 N11q
  have J11 : Keep h0 T11.heap [] := J3.trans K11 (allS (Or.inr sz_b1) all0)
  have g_li_11 : n0 ≤ li_11 := Nat.le_trans z10 r0_11
  have sz_li_11 : h0.size ≤ li_11 := Nat.le_trans J3.1 r0_11
  have ne12 : dd ≠ li_11 := Nat.ne_of_lt (Nat.lt_of_lt_of_le c9.lt r0_11)
  have ne13 : b1 ≠ li_11 := Nat.ne_of_lt (Nat.lt_of_lt_of_le c4.lt r0_11)
  have z14 : n0 ≤ T11.heap.size := (Nat.le_trans z10 K11.1)
  have c16 : Exa Z T11.heap b1 "com/example/tierline/tierline/csv/LineProblems" := (c4.keep K11)
  obtain ⟨cq15, kq15, q15a, q15b, q15c⟩ := isOf hZ rfl c16
  -- pc 18: LineProblems.isEmpty by rm7
  obtain ⟨_, _, ⟨T15, L15, k15, n15⟩, -, X15, ⟨Lc15, hQ15, l15, y15, z15'⟩, st15⟩ := X11.virtualBack hx (y := (⟨"com/example/tierline/tierline/csv/LineProblems", "isEmpty", "()Z"⟩ : MethodName)) (z := (⟨"com/example/tierline/tierline/csv/LineProblems", "isEmpty", "()Z"⟩ : MethodName)) hown (mvT hZ (hw _ (List.mem_of_getElem? (i := 45) rfl))) (mvT hZ (hw _ (List.mem_of_getElem? (i := 46) rfl))) (notFace_of_selects (args := #[]) (mvT hZ (hw _ (List.mem_of_getElem? (i := 48) rfl)))) (mvT hZ (hw _ (List.mem_of_getElem? (i := 48) rfl))) (mvT hZ (hw _ (List.mem_of_getElem? (i := 47) rfl))) (by decide) (backOf (W := 0) (rm7 l Z a0 hw [] b1 (0 : Int64) T11.heap n0 z14 r3_11) hZ (hw _ (List.mem_of_getElem? (i := 49) rfl)) (hw _ (List.mem_of_getElem? (i := 2) rfl)) (by decide) (by decide)) q15a q15c (g := (mkF m 18 #[.val (.int p0), .val (.int p1), .val (.int p2), .val (.int p3), .val (.int p4), .val (.int p5), .val (.int kk), .val (.ref b1), .unset, .unset] [(.ref b1)])) rfl (by rw [hml]; rfl) (Steps.refl _) (argsL := []) (rest := []) (lenOf pd_18 rfl) rfl (by show 2 * 0 + _ ≤ _; exact Nat.le_of_eq rfl) (hb hby at_18) (fun _ _ => ⟨rfl, rfl, (by decide : 4 + 0 ≤ _), (by decide : 14 + 0 ≤ _)⟩)
  dsimp only [Pt.U, Pt.locs, Pt.cells, Pt.slots] at X15 l15 y15 z15' st15 hQ15
  subst l15 y15 z15'
  obtain ⟨rfl, N15q, K15⟩ := hQ15
  have N15 := Fr.app N11 N15q
  have J15 : Keep h0 T15.heap [] := J11.trans K15 all0
  have pre17 : ∀ t, Steps p.tables e below (T15.setTop (mkF m 26 #[.val (.int p0), .val (.int p1), .val (.int p2), .val (.int p3), .val (.int p4), .val (.int p5), .val (.int kk), .val (.ref b1), .val (.int (if (0 : Int64) = (0 : Int64) then (1 : Int32) else 0)), .unset] [(.int (1 : Int32)), (.int kk)])) t → Steps p.tables e below (s₁.setTop (entryFrame m #[(.int p0), (.int p1), (.int p2), (.int p3), (.int p4), (.int p5)] maxLocals)) t := by
    intro t kt
    refine pre0 _ ?_
    show Steps p.tables e below (s₁.setTop (mkF m 0 #[.val (.int p0), .val (.int p1), .val (.int p2), .val (.int p3), .val (.int p4), .val (.int p5), .unset, .unset, .unset, .unset] [])) _
    refine XS.iloadN X0.here hx rfl (hb hby at_0) rfl ?_
    show Steps p.tables e below (s₁.setTop (mkF m 1 #[.val (.int p0), .val (.int p1), .val (.int p2), .val (.int p3), .val (.int p4), .val (.int p5), .unset, .unset, .unset, .unset] [(.int p0)])) _
    refine XS.iconst X0.here hx rfl (hb hby at_1) ?_
    show Steps p.tables e below (s₁.setTop (mkF m 2 #[.val (.int p0), .val (.int p1), .val (.int p2), .val (.int p3), .val (.int p4), .val (.int p5), .unset, .unset, .unset, .unset] [(.int (3 : Int32)), (.int p0)])) _
    refine XS.iand X0.here hx rfl (hb hby at_2) rfl ?_
    show Steps p.tables e below (s₁.setTop (mkF m 3 #[.val (.int p0), .val (.int p1), .val (.int p2), .val (.int p3), .val (.int p4), .val (.int p5), .unset, .unset, .unset, .unset] [(.int (p0 &&& (3 : Int32)))])) _
    rw [← e_kk]
    show Steps p.tables e below (s₁.setTop (mkF m 3 #[.val (.int p0), .val (.int p1), .val (.int p2), .val (.int p3), .val (.int p4), .val (.int p5), .unset, .unset, .unset, .unset] [(.int kk)])) _
    refine XS.istore X0.here hx rfl (hb hby at_3) rfl (l' := #[.val (.int p0), .val (.int p1), .val (.int p2), .val (.int p3), .val (.int p4), .val (.int p5), .val (.int kk), .unset, .unset, .unset]) rfl ?_
    show Steps p.tables e below (s₁.setTop (mkF m 5 #[.val (.int p0), .val (.int p1), .val (.int p2), .val (.int p3), .val (.int p4), .val (.int p5), .val (.int kk), .unset, .unset, .unset] [])) _
    refine st1 _ ?_
    show Steps p.tables e below (T1.setTop (mkF m 8 #[.val (.int p0), .val (.int p1), .val (.int p2), .val (.int p3), .val (.int p4), .val (.int p5), .val (.int kk), .unset, .unset, .unset] [(.ref b1)])) _
    refine XS.dup X1.here hx rfl (hb hby at_8) rfl rfl ?_
    show Steps p.tables e below (T1.setTop (mkF m 9 #[.val (.int p0), .val (.int p1), .val (.int p2), .val (.int p3), .val (.int p4), .val (.int p5), .val (.int kk), .unset, .unset, .unset] [(.ref b1), (.ref b1)])) _
    refine st3 _ ?_
    show Steps p.tables e below (T3.setTop (mkF m 11 #[.val (.int p0), .val (.int p1), .val (.int p2), .val (.int p3), .val (.int p4), .val (.int p5), .val (.int kk), .unset, .unset, .unset] [(.ref as), (.ref b1), (.ref b1)])) _
    refine st11.trans ?_
    show Steps p.tables e below (T11.setTop (mkF m 14 #[.val (.int p0), .val (.int p1), .val (.int p2), .val (.int p3), .val (.int p4), .val (.int p5), .val (.int kk), .unset, .unset, .unset] [(.ref b1)])) _
    refine XS.astore X11.here hx rfl (hb hby at_14) rfl rfl (l' := #[.val (.int p0), .val (.int p1), .val (.int p2), .val (.int p3), .val (.int p4), .val (.int p5), .val (.int kk), .val (.ref b1), .unset, .unset]) rfl ?_
    show Steps p.tables e below (T11.setTop (mkF m 16 #[.val (.int p0), .val (.int p1), .val (.int p2), .val (.int p3), .val (.int p4), .val (.int p5), .val (.int kk), .val (.ref b1), .unset, .unset] [])) _
    refine XS.aload X11.here hx rfl (hb hby at_16) rfl rfl ?_
    show Steps p.tables e below (T11.setTop (mkF m 18 #[.val (.int p0), .val (.int p1), .val (.int p2), .val (.int p3), .val (.int p4), .val (.int p5), .val (.int kk), .val (.ref b1), .unset, .unset] [(.ref b1)])) _
    refine st15.trans ?_
    show Steps p.tables e below (T15.setTop (mkF m 21 #[.val (.int p0), .val (.int p1), .val (.int p2), .val (.int p3), .val (.int p4), .val (.int p5), .val (.int kk), .val (.ref b1), .unset, .unset] [(.int (if (0 : Int64) = (0 : Int64) then (1 : Int32) else 0))])) _
    refine XS.istore X15.here hx rfl (hb hby at_21) rfl (l' := #[.val (.int p0), .val (.int p1), .val (.int p2), .val (.int p3), .val (.int p4), .val (.int p5), .val (.int kk), .val (.ref b1), .val (.int (if (0 : Int64) = (0 : Int64) then (1 : Int32) else 0)), .unset]) rfl ?_
    show Steps p.tables e below (T15.setTop (mkF m 23 #[.val (.int p0), .val (.int p1), .val (.int p2), .val (.int p3), .val (.int p4), .val (.int p5), .val (.int kk), .val (.ref b1), .val (.int (if (0 : Int64) = (0 : Int64) then (1 : Int32) else 0)), .unset] [])) _
    refine XS.iload X15.here hx rfl (hb hby at_23) rfl ?_
    show Steps p.tables e below (T15.setTop (mkF m 25 #[.val (.int p0), .val (.int p1), .val (.int p2), .val (.int p3), .val (.int p4), .val (.int p5), .val (.int kk), .val (.ref b1), .val (.int (if (0 : Int64) = (0 : Int64) then (1 : Int32) else 0)), .unset] [(.int kk)])) _
    refine XS.iconst X15.here hx rfl (hb hby at_25) ?_
    exact kt
  by_cases hc26_18 : kk < (1 : Int32)
  · skip
    have hc48_19 : kk < (2 : Int32) := own_12 hc26_18
    have hc75_20 : kk < (3 : Int32) := own_23 hc48_19
    have c21 : Fld Z T15.heap b1 "com/example/tierline/tierline/csv/LineProblems" "count" "J" (.long (0 : Int64)) := (r3_11.keep K15 nin0)
    have z22 : n0 ≤ T15.heap.size := (Nat.le_trans z14 K15.1)
    have c24 : Exa Z T15.heap b1 "com/example/tierline/tierline/csv/LineProblems" := (c16.keep K15)
    obtain ⟨cq23, kq23, q23a, q23b, q23c⟩ := isOf hZ rfl c24
    -- pc 102: LineProblems.isEmpty by rm7
    obtain ⟨_, _, ⟨T23, L23, k23, n23⟩, -, X23, ⟨Lc23, hQ23, l23, y23, z23'⟩, st23⟩ := X15.virtualBack hx (y := (⟨"com/example/tierline/tierline/csv/LineProblems", "isEmpty", "()Z"⟩ : MethodName)) (z := (⟨"com/example/tierline/tierline/csv/LineProblems", "isEmpty", "()Z"⟩ : MethodName)) hown (mvT hZ (hw _ (List.mem_of_getElem? (i := 45) rfl))) (mvT hZ (hw _ (List.mem_of_getElem? (i := 46) rfl))) (notFace_of_selects (args := #[]) (mvT hZ (hw _ (List.mem_of_getElem? (i := 48) rfl)))) (mvT hZ (hw _ (List.mem_of_getElem? (i := 48) rfl))) (mvT hZ (hw _ (List.mem_of_getElem? (i := 47) rfl))) (by decide) (backOf (W := 0) (rm7 l Z a0 hw [] b1 (0 : Int64) T15.heap n0 z22 c21) hZ (hw _ (List.mem_of_getElem? (i := 49) rfl)) (hw _ (List.mem_of_getElem? (i := 2) rfl)) (by decide) (by decide)) q23a q23c (g := (mkF m 102 #[.val (.int p0), .val (.int p1), .val (.int p2), .val (.int p3), .val (.int p4), .val (.int p5), .val (.int kk), .val (.ref b1), .val (.int (if (0 : Int64) = (0 : Int64) then (1 : Int32) else 0)), .unset] [(.ref b1)])) rfl (by rw [hml]; rfl) (Steps.refl _) (argsL := []) (rest := []) (lenOf pd_18 rfl) rfl (by show 2 * 0 + _ ≤ _; exact Nat.le_of_eq rfl) (hb hby at_102) (fun _ _ => ⟨rfl, rfl, (by decide : 4 + 0 ≤ _), (by decide : 14 + 0 ≤ _)⟩)
    dsimp only [Pt.U, Pt.locs, Pt.cells, Pt.slots] at X23 l23 y23 z23' st23 hQ23
    subst l23 y23 z23'
    obtain ⟨rfl, N23q, K23⟩ := hQ23
    have N23 := Fr.app N15 N23q
    have J23 : Keep h0 T23.heap [] := J15.trans K23 all0
    have hc124_25 : (if (0 : Int64) = (0 : Int64) then (1 : Int32) else 0) = (if kk = (0 : Int32) then (1 : Int32) else 0) := own_last0 hkr hc26_18
    obtain ⟨fs, hr, hrun, hended, hE1, hE2, hE3, hE4⟩ := X23.leaveW hSi (by exact (Nat.le_trans (Nat.le_trans (Nat.le_trans hk1 K11.1) K15.1) K23.1)) (v := some (.int (1 : Int32))) (fun h => by rw [Bd.returns] at h; cases h)
    refine ⟨_, _, pre17 _ ?_, hrun, hended, _, _, rfl, ?_, hE1, hE2, hE3, hE4.mono (by decide) (by decide)⟩
    · show Steps p.tables e below (T15.setTop (mkF m 26 #[.val (.int p0), .val (.int p1), .val (.int p2), .val (.int p3), .val (.int p4), .val (.int p5), .val (.int kk), .val (.ref b1), .val (.int (if (0 : Int64) = (0 : Int64) then (1 : Int32) else 0)), .unset] [(.int (1 : Int32)), (.int kk)])) _
      refine XS.icmpYes X15.here hx rfl (pc0 := 26) (pc' := 45) rfl (hb hby at_26) rfl (tlt hc26_18).1 (by decide) (by decide) ?_
      show Steps p.tables e below (T15.setTop (mkF m 45 #[.val (.int p0), .val (.int p1), .val (.int p2), .val (.int p3), .val (.int p4), .val (.int p5), .val (.int kk), .val (.ref b1), .val (.int (if (0 : Int64) = (0 : Int64) then (1 : Int32) else 0)), .unset] [])) _
      refine XS.iload X15.here hx rfl (hb hby at_45) rfl ?_
      show Steps p.tables e below (T15.setTop (mkF m 47 #[.val (.int p0), .val (.int p1), .val (.int p2), .val (.int p3), .val (.int p4), .val (.int p5), .val (.int kk), .val (.ref b1), .val (.int (if (0 : Int64) = (0 : Int64) then (1 : Int32) else 0)), .unset] [(.int kk)])) _
      refine XS.iconst X15.here hx rfl (hb hby at_47) ?_
      show Steps p.tables e below (T15.setTop (mkF m 48 #[.val (.int p0), .val (.int p1), .val (.int p2), .val (.int p3), .val (.int p4), .val (.int p5), .val (.int kk), .val (.ref b1), .val (.int (if (0 : Int64) = (0 : Int64) then (1 : Int32) else 0)), .unset] [(.int (2 : Int32)), (.int kk)])) _
      refine XS.icmpYes X15.here hx rfl (pc0 := 48) (pc' := 72) rfl (hb hby at_48) rfl (tlt hc48_19).1 (by decide) (by decide) ?_
      show Steps p.tables e below (T15.setTop (mkF m 72 #[.val (.int p0), .val (.int p1), .val (.int p2), .val (.int p3), .val (.int p4), .val (.int p5), .val (.int kk), .val (.ref b1), .val (.int (if (0 : Int64) = (0 : Int64) then (1 : Int32) else 0)), .unset] [])) _
      refine XS.iload X15.here hx rfl (hb hby at_72) rfl ?_
      show Steps p.tables e below (T15.setTop (mkF m 74 #[.val (.int p0), .val (.int p1), .val (.int p2), .val (.int p3), .val (.int p4), .val (.int p5), .val (.int kk), .val (.ref b1), .val (.int (if (0 : Int64) = (0 : Int64) then (1 : Int32) else 0)), .unset] [(.int kk)])) _
      refine XS.iconst X15.here hx rfl (hb hby at_74) ?_
      show Steps p.tables e below (T15.setTop (mkF m 75 #[.val (.int p0), .val (.int p1), .val (.int p2), .val (.int p3), .val (.int p4), .val (.int p5), .val (.int kk), .val (.ref b1), .val (.int (if (0 : Int64) = (0 : Int64) then (1 : Int32) else 0)), .unset] [(.int (3 : Int32)), (.int kk)])) _
      refine XS.icmpYes X15.here hx rfl (pc0 := 75) (pc' := 100) rfl (hb hby at_75) rfl (tlt hc75_20).1 (by decide) (by decide) ?_
      show Steps p.tables e below (T15.setTop (mkF m 100 #[.val (.int p0), .val (.int p1), .val (.int p2), .val (.int p3), .val (.int p4), .val (.int p5), .val (.int kk), .val (.ref b1), .val (.int (if (0 : Int64) = (0 : Int64) then (1 : Int32) else 0)), .unset] [])) _
      refine XS.aload X15.here hx rfl (hb hby at_100) rfl rfl ?_
      show Steps p.tables e below (T15.setTop (mkF m 102 #[.val (.int p0), .val (.int p1), .val (.int p2), .val (.int p3), .val (.int p4), .val (.int p5), .val (.int kk), .val (.ref b1), .val (.int (if (0 : Int64) = (0 : Int64) then (1 : Int32) else 0)), .unset] [(.ref b1)])) _
      refine st23.trans ?_
      show Steps p.tables e below (T23.setTop (mkF m 105 #[.val (.int p0), .val (.int p1), .val (.int p2), .val (.int p3), .val (.int p4), .val (.int p5), .val (.int kk), .val (.ref b1), .val (.int (if (0 : Int64) = (0 : Int64) then (1 : Int32) else 0)), .unset] [(.int (if (0 : Int64) = (0 : Int64) then (1 : Int32) else 0))])) _
      refine XS.istore X23.here hx rfl (hb hby at_105) rfl (l' := #[.val (.int p0), .val (.int p1), .val (.int p2), .val (.int p3), .val (.int p4), .val (.int p5), .val (.int kk), .val (.ref b1), .val (.int (if (0 : Int64) = (0 : Int64) then (1 : Int32) else 0)), .val (.int (if (0 : Int64) = (0 : Int64) then (1 : Int32) else 0))]) rfl ?_
      show Steps p.tables e below (T23.setTop (mkF m 107 #[.val (.int p0), .val (.int p1), .val (.int p2), .val (.int p3), .val (.int p4), .val (.int p5), .val (.int kk), .val (.ref b1), .val (.int (if (0 : Int64) = (0 : Int64) then (1 : Int32) else 0)), .val (.int (if (0 : Int64) = (0 : Int64) then (1 : Int32) else 0))] [])) _
      refine XS.iload X23.here hx rfl (hb hby at_107) rfl ?_
      show Steps p.tables e below (T23.setTop (mkF m 109 #[.val (.int p0), .val (.int p1), .val (.int p2), .val (.int p3), .val (.int p4), .val (.int p5), .val (.int kk), .val (.ref b1), .val (.int (if (0 : Int64) = (0 : Int64) then (1 : Int32) else 0)), .val (.int (if (0 : Int64) = (0 : Int64) then (1 : Int32) else 0))] [(.int (if (0 : Int64) = (0 : Int64) then (1 : Int32) else 0))])) _
      refine XS.ifNo X23.here hx rfl (hb hby at_109) rfl ((if0 _ _).trans (feq (own_b10n (by decide))).1) ?_
      show Steps p.tables e below (T23.setTop (mkF m 112 #[.val (.int p0), .val (.int p1), .val (.int p2), .val (.int p3), .val (.int p4), .val (.int p5), .val (.int kk), .val (.ref b1), .val (.int (if (0 : Int64) = (0 : Int64) then (1 : Int32) else 0)), .val (.int (if (0 : Int64) = (0 : Int64) then (1 : Int32) else 0))] [])) _
      refine XS.iload X23.here hx rfl (hb hby at_112) rfl ?_
      show Steps p.tables e below (T23.setTop (mkF m 114 #[.val (.int p0), .val (.int p1), .val (.int p2), .val (.int p3), .val (.int p4), .val (.int p5), .val (.int kk), .val (.ref b1), .val (.int (if (0 : Int64) = (0 : Int64) then (1 : Int32) else 0)), .val (.int (if (0 : Int64) = (0 : Int64) then (1 : Int32) else 0))] [(.int (if (0 : Int64) = (0 : Int64) then (1 : Int32) else 0))])) _
      refine XS.iload X23.here hx rfl (hb hby at_114) rfl ?_
      show Steps p.tables e below (T23.setTop (mkF m 116 #[.val (.int p0), .val (.int p1), .val (.int p2), .val (.int p3), .val (.int p4), .val (.int p5), .val (.int kk), .val (.ref b1), .val (.int (if (0 : Int64) = (0 : Int64) then (1 : Int32) else 0)), .val (.int (if (0 : Int64) = (0 : Int64) then (1 : Int32) else 0))] [(.int kk), (.int (if (0 : Int64) = (0 : Int64) then (1 : Int32) else 0))])) _
      refine own_diaF X23.here hx rfl (pc0 := 116) rfl (hb hby at_116) (hb hby at_119) (hb hby at_120) (hb hby at_123) rfl (fun hq => ((if0 _ _).trans (teq hq).2)) (fun hq => ((if0 _ _).trans (feq hq).2)) ?_
      show Steps p.tables e below (T23.setTop (mkF m 124 #[.val (.int p0), .val (.int p1), .val (.int p2), .val (.int p3), .val (.int p4), .val (.int p5), .val (.int kk), .val (.ref b1), .val (.int (if (0 : Int64) = (0 : Int64) then (1 : Int32) else 0)), .val (.int (if (0 : Int64) = (0 : Int64) then (1 : Int32) else 0))] [(.int (if kk = (0 : Int32) then (1 : Int32) else 0)), (.int (if (0 : Int64) = (0 : Int64) then (1 : Int32) else 0))])) _
      refine XS.icmpNo X23.here hx rfl (hb hby at_124) rfl (teq hc124_25).2 ?_
      show Steps p.tables e below (T23.setTop (mkF m 127 #[.val (.int p0), .val (.int p1), .val (.int p2), .val (.int p3), .val (.int p4), .val (.int p5), .val (.int kk), .val (.ref b1), .val (.int (if (0 : Int64) = (0 : Int64) then (1 : Int32) else 0)), .val (.int (if (0 : Int64) = (0 : Int64) then (1 : Int32) else 0))] [])) _
      refine XS.iconst X23.here hx rfl (hb hby at_127) ?_
      show Steps p.tables e below (T23.setTop (mkF m 128 #[.val (.int p0), .val (.int p1), .val (.int p2), .val (.int p3), .val (.int p4), .val (.int p5), .val (.int kk), .val (.ref b1), .val (.int (if (0 : Int64) = (0 : Int64) then (1 : Int32) else 0)), .val (.int (if (0 : Int64) = (0 : Int64) then (1 : Int32) else 0))] [(.int (1 : Int32))])) _
      refine XS.goto X23.here hx rfl (pc0 := 128) (pc' := 132) rfl (hb hby at_128) (by decide) (by decide) ?_
      show Steps p.tables e below (T23.setTop (mkF m 132 #[.val (.int p0), .val (.int p1), .val (.int p2), .val (.int p3), .val (.int p4), .val (.int p5), .val (.int kk), .val (.ref b1), .val (.int (if (0 : Int64) = (0 : Int64) then (1 : Int32) else 0)), .val (.int (if (0 : Int64) = (0 : Int64) then (1 : Int32) else 0))] [(.int (1 : Int32))])) _
      exact retN X23 hx (t := .boolean) Bd.returns (by simp) (hb hby at_132) hr
    · show Q0 Z p0 p1 p2 p3 p4 p5 dd kd cs h0 n0 _ T23.heap _
      exact ⟨rfl, N23⟩
  · skip
    have c26 : Exa Z T15.heap b1 "com/example/tierline/tierline/csv/LineProblems" := (c16.keep K15)
    have c27 : Fld Z T15.heap b1 "com/example/tierline/tierline/csv/LineProblems" "count" "J" (.long (0 : Int64)) := (r3_11.keep K15 nin0)
    have c28 : Fld Z T15.heap b1 "com/example/tierline/tierline/csv/LineProblems" "listed" "Ljava/util/List;" (.ref li_11) := (r2_11.keep K15 nin0)
    have c29 : Exa Z T15.heap li_11 "java/util/ArrayList" := (r1_11.keep K15)
    have c30 : Fld Z T15.heap li_11 "java/util/ArrayList" "size" "I" (.int (0 : Int32)) := (r5_11.keep K15 nin0)
    have c31 : Fld Z T15.heap li_11 "java/util/AbstractList" "modCount" "I" (.int (0 : Int32)) := (r4_11.keep K15 nin0)
    have c32 : Fld Z T15.heap li_11 "java/util/ArrayList" "elementData" "[Ljava/lang/Object;" (.ref dd) := (r6_11.keep K15 nin0)
    have c33 : Arv Z T15.heap dd kd (.object "java/lang/Object") (0 : Int32) [] .null := ((c9.keep K11 (ninS ne2 nin0)).keep K15 nin0)
    have c34 : Sta Z T15.heap "java/util/ArrayList" "DEFAULTCAPACITY_EMPTY_ELEMENTDATA" "[Ljava/lang/Object;" (.ref dd) := (own_Sta_keep (own_Sta_keep c8 K11 (allS c4.nostat all0)) K15 all0)
    have c35 : Sta Z T15.heap "java/lang/String" "COMPACT_STRINGS" "Z" (.int cs) := (own_Sta_keep (own_Sta_keep ((S_COMPACT_STRINGS.ext E1).ext E3) K11 (allS c4.nostat all0)) K15 all0)
    have z36 : n0 ≤ T15.heap.size := (Nat.le_trans z14 K15.1)
    -- pc 42: LineProblemsIsEmptyPinLaw.addOne by rm2_0
    obtain ⟨_, _, ⟨T37, L37, k37, n37⟩, -, X37, ⟨Lc37, hQ37, l37, y37, z37'⟩, st37⟩ := Jvm.LawKit.callS X15 hx (y := (⟨"com/example/tierline/tierline/csv/LineProblemsIsEmptyPinLaw", "addOne", "(Lcom/example/tierline/tierline/csv/LineProblems;IIC)V"⟩ : MethodName)) hown (mvT hZ (hw _ (List.mem_of_getElem? (i := 52) rfl))) (mvT hZ (hw _ (List.mem_of_getElem? (i := 53) rfl))) (mvT hZ (hw _ (List.mem_of_getElem? (i := 54) rfl))) (mvT hZ (hw _ (List.mem_of_getElem? (i := 55) rfl))) (by decide) (backOf (W := 0) (rm2_0 l Z a0 hw [] b1 (p1 &&& (3 : Int32)) p2 ((p5 &&& (255 : Int32)).toUInt32.toUInt16.toUInt32.toInt32) (0 : Int64) li_11 (0 : Int32) dd kd cs T15.heap n0 z36 c26 c27 c28 c29 c30 c31 g_b1 g_li_11 c32 c33 c34 c35 hcs) hZ (hw _ (List.mem_of_getElem? (i := 55) rfl)) (hw _ (List.mem_of_getElem? (i := 54) rfl)) (by decide) (by decide)) (g := (mkF m 42 #[.val (.int p0), .val (.int p1), .val (.int p2), .val (.int p3), .val (.int p4), .val (.int p5), .val (.int kk), .val (.ref b1), .val (.int (if (0 : Int64) = (0 : Int64) then (1 : Int32) else 0)), .unset] [(.int ((p5 &&& (255 : Int32)).toUInt32.toUInt16.toUInt32.toInt32)), (.int p2), (.int (p1 &&& (3 : Int32))), (.ref b1)])) rfl (by rw [hml]; rfl) (argsL := [(.ref b1), (.int (p1 &&& (3 : Int32))), (.int p2), (.int ((p5 &&& (255 : Int32)).toUInt32.toUInt16.toUInt32.toInt32))]) (rest := []) (lenOf pd_19 rfl) rfl (by show 2 * 0 + _ ≤ _; exact Nat.le_of_eq rfl) (hb hby at_42) (fun _ _ => ⟨rfl, rfl, (by decide : 4 + 4 ≤ _), (by decide : 14 + 18 ≤ _)⟩)
    dsimp only [Pt.U, Pt.locs, Pt.cells, Pt.slots] at X37 l37 y37 z37' st37 hQ37
    subst l37 y37 z37'
    obtain ⟨na_37, nk_37, y0_37, m0_37, d0_37, rfl, N37q, K37, r0_37, r1_37, r2_37, r3_37, r4_37, r5_37, r6_37, r7_37, r8_37, r9_37, r10_37⟩ := hQ37
    have N37 := Fr.app N15 N37q
    have J37 : Keep h0 T37.heap [] := J15.trans K37 (allS (Or.inr sz_b1) (allS (Or.inr sz_li_11) all0))
    have g_na_37 : n0 ≤ na_37 := Nat.le_trans z36 r0_37
    have sz_na_37 : h0.size ≤ na_37 := Nat.le_trans J15.1 r0_37
    have ne38 : dd ≠ na_37 := Nat.ne_of_lt (Nat.lt_of_lt_of_le c33.lt r0_37)
    have ne39 : b1 ≠ na_37 := Nat.ne_of_lt (Nat.lt_of_lt_of_le c26.lt r0_37)
    have ne40 : li_11 ≠ na_37 := Nat.ne_of_lt (Nat.lt_of_lt_of_le c29.lt r0_37)
    have pre41 : ∀ t, Steps p.tables e below (T37.setTop (mkF m 48 #[.val (.int p0), .val (.int p1), .val (.int p2), .val (.int p3), .val (.int p4), .val (.int p5), .val (.int kk), .val (.ref b1), .val (.int (if (0 : Int64) = (0 : Int64) then (1 : Int32) else 0)), .unset] [(.int (2 : Int32)), (.int kk)])) t → Steps p.tables e below (s₁.setTop (entryFrame m #[(.int p0), (.int p1), (.int p2), (.int p3), (.int p4), (.int p5)] maxLocals)) t := by
      intro t kt
      refine pre17 _ ?_
      show Steps p.tables e below (T15.setTop (mkF m 26 #[.val (.int p0), .val (.int p1), .val (.int p2), .val (.int p3), .val (.int p4), .val (.int p5), .val (.int kk), .val (.ref b1), .val (.int (if (0 : Int64) = (0 : Int64) then (1 : Int32) else 0)), .unset] [(.int (1 : Int32)), (.int kk)])) _
      refine XS.icmpNo X15.here hx rfl (hb hby at_26) rfl (flt hc26_18).1 ?_
      show Steps p.tables e below (T15.setTop (mkF m 29 #[.val (.int p0), .val (.int p1), .val (.int p2), .val (.int p3), .val (.int p4), .val (.int p5), .val (.int kk), .val (.ref b1), .val (.int (if (0 : Int64) = (0 : Int64) then (1 : Int32) else 0)), .unset] [])) _
      refine XS.aload X15.here hx rfl (hb hby at_29) rfl rfl ?_
      show Steps p.tables e below (T15.setTop (mkF m 31 #[.val (.int p0), .val (.int p1), .val (.int p2), .val (.int p3), .val (.int p4), .val (.int p5), .val (.int kk), .val (.ref b1), .val (.int (if (0 : Int64) = (0 : Int64) then (1 : Int32) else 0)), .unset] [(.ref b1)])) _
      refine XS.iloadN X15.here hx rfl (hb hby at_31) rfl ?_
      show Steps p.tables e below (T15.setTop (mkF m 32 #[.val (.int p0), .val (.int p1), .val (.int p2), .val (.int p3), .val (.int p4), .val (.int p5), .val (.int kk), .val (.ref b1), .val (.int (if (0 : Int64) = (0 : Int64) then (1 : Int32) else 0)), .unset] [(.int p1), (.ref b1)])) _
      refine XS.iconst X15.here hx rfl (hb hby at_32) ?_
      show Steps p.tables e below (T15.setTop (mkF m 33 #[.val (.int p0), .val (.int p1), .val (.int p2), .val (.int p3), .val (.int p4), .val (.int p5), .val (.int kk), .val (.ref b1), .val (.int (if (0 : Int64) = (0 : Int64) then (1 : Int32) else 0)), .unset] [(.int (3 : Int32)), (.int p1), (.ref b1)])) _
      refine XS.iand X15.here hx rfl (hb hby at_33) rfl ?_
      show Steps p.tables e below (T15.setTop (mkF m 34 #[.val (.int p0), .val (.int p1), .val (.int p2), .val (.int p3), .val (.int p4), .val (.int p5), .val (.int kk), .val (.ref b1), .val (.int (if (0 : Int64) = (0 : Int64) then (1 : Int32) else 0)), .unset] [(.int (p1 &&& (3 : Int32))), (.ref b1)])) _
      refine XS.iloadN X15.here hx rfl (hb hby at_34) rfl ?_
      show Steps p.tables e below (T15.setTop (mkF m 35 #[.val (.int p0), .val (.int p1), .val (.int p2), .val (.int p3), .val (.int p4), .val (.int p5), .val (.int kk), .val (.ref b1), .val (.int (if (0 : Int64) = (0 : Int64) then (1 : Int32) else 0)), .unset] [(.int p2), (.int (p1 &&& (3 : Int32))), (.ref b1)])) _
      refine XS.iload X15.here hx rfl (hb hby at_35) rfl ?_
      show Steps p.tables e below (T15.setTop (mkF m 37 #[.val (.int p0), .val (.int p1), .val (.int p2), .val (.int p3), .val (.int p4), .val (.int p5), .val (.int kk), .val (.ref b1), .val (.int (if (0 : Int64) = (0 : Int64) then (1 : Int32) else 0)), .unset] [(.int p5), (.int p2), (.int (p1 &&& (3 : Int32))), (.ref b1)])) _
      refine XS.sipush X15.here hx rfl (hb hby at_37) ?_
      show Steps p.tables e below (T15.setTop (mkF m 40 #[.val (.int p0), .val (.int p1), .val (.int p2), .val (.int p3), .val (.int p4), .val (.int p5), .val (.int kk), .val (.ref b1), .val (.int (if (0 : Int64) = (0 : Int64) then (1 : Int32) else 0)), .unset] [(.int (255 : Int32)), (.int p5), (.int p2), (.int (p1 &&& (3 : Int32))), (.ref b1)])) _
      refine XS.iand X15.here hx rfl (hb hby at_40) rfl ?_
      show Steps p.tables e below (T15.setTop (mkF m 41 #[.val (.int p0), .val (.int p1), .val (.int p2), .val (.int p3), .val (.int p4), .val (.int p5), .val (.int kk), .val (.ref b1), .val (.int (if (0 : Int64) = (0 : Int64) then (1 : Int32) else 0)), .unset] [(.int (p5 &&& (255 : Int32))), (.int p2), (.int (p1 &&& (3 : Int32))), (.ref b1)])) _
      refine XS.i2c X15.here hx rfl (hb hby at_41) rfl ?_
      show Steps p.tables e below (T15.setTop (mkF m 42 #[.val (.int p0), .val (.int p1), .val (.int p2), .val (.int p3), .val (.int p4), .val (.int p5), .val (.int kk), .val (.ref b1), .val (.int (if (0 : Int64) = (0 : Int64) then (1 : Int32) else 0)), .unset] [(.int ((p5 &&& (255 : Int32)).toUInt32.toUInt16.toUInt32.toInt32)), (.int p2), (.int (p1 &&& (3 : Int32))), (.ref b1)])) _
      refine st37 _ ?_
      show Steps p.tables e below (T37.setTop (mkF m 45 #[.val (.int p0), .val (.int p1), .val (.int p2), .val (.int p3), .val (.int p4), .val (.int p5), .val (.int kk), .val (.ref b1), .val (.int (if (0 : Int64) = (0 : Int64) then (1 : Int32) else 0)), .unset] [])) _
      refine XS.iload X37.here hx rfl (hb hby at_45) rfl ?_
      show Steps p.tables e below (T37.setTop (mkF m 47 #[.val (.int p0), .val (.int p1), .val (.int p2), .val (.int p3), .val (.int p4), .val (.int p5), .val (.int kk), .val (.ref b1), .val (.int (if (0 : Int64) = (0 : Int64) then (1 : Int32) else 0)), .unset] [(.int kk)])) _
      refine XS.iconst X37.here hx rfl (hb hby at_47) ?_
      exact kt
    by_cases hc48_42 : kk < (2 : Int32)
    · skip
      have hc75_43 : kk < (3 : Int32) := own_23 hc48_42
      have z44 : n0 ≤ T37.heap.size := (Nat.le_trans z36 K37.1)
      have c46 : Exa Z T37.heap b1 "com/example/tierline/tierline/csv/LineProblems" := (c26.keep K37)
      obtain ⟨cq45, kq45, q45a, q45b, q45c⟩ := isOf hZ rfl c46
      -- pc 102: LineProblems.isEmpty by rm7
      obtain ⟨_, _, ⟨T45, L45, k45, n45⟩, -, X45, ⟨Lc45, hQ45, l45, y45, z45'⟩, st45⟩ := X37.virtualBack hx (y := (⟨"com/example/tierline/tierline/csv/LineProblems", "isEmpty", "()Z"⟩ : MethodName)) (z := (⟨"com/example/tierline/tierline/csv/LineProblems", "isEmpty", "()Z"⟩ : MethodName)) hown (mvT hZ (hw _ (List.mem_of_getElem? (i := 45) rfl))) (mvT hZ (hw _ (List.mem_of_getElem? (i := 46) rfl))) (notFace_of_selects (args := #[]) (mvT hZ (hw _ (List.mem_of_getElem? (i := 48) rfl)))) (mvT hZ (hw _ (List.mem_of_getElem? (i := 48) rfl))) (mvT hZ (hw _ (List.mem_of_getElem? (i := 47) rfl))) (by decide) (backOf (W := 0) (rm7 l Z a0 hw [] b1 ((0 : Int64) + (1 : Int64)) T37.heap n0 z44 r1_37) hZ (hw _ (List.mem_of_getElem? (i := 49) rfl)) (hw _ (List.mem_of_getElem? (i := 2) rfl)) (by decide) (by decide)) q45a q45c (g := (mkF m 102 #[.val (.int p0), .val (.int p1), .val (.int p2), .val (.int p3), .val (.int p4), .val (.int p5), .val (.int kk), .val (.ref b1), .val (.int (if (0 : Int64) = (0 : Int64) then (1 : Int32) else 0)), .unset] [(.ref b1)])) rfl (by rw [hml]; rfl) (Steps.refl _) (argsL := []) (rest := []) (lenOf pd_18 rfl) rfl (by show 2 * 0 + _ ≤ _; exact Nat.le_of_eq rfl) (hb hby at_102) (fun _ _ => ⟨rfl, rfl, (by decide : 8 + 0 ≤ _), (by decide : 32 + 0 ≤ _)⟩)
      dsimp only [Pt.U, Pt.locs, Pt.cells, Pt.slots] at X45 l45 y45 z45' st45 hQ45
      subst l45 y45 z45'
      obtain ⟨rfl, N45q, K45⟩ := hQ45
      have N45 := Fr.app N37 N45q
      have J45 : Keep h0 T45.heap [] := J37.trans K45 all0
      have hc124_47 : (if ((0 : Int64) + (1 : Int64)) = (0 : Int64) then (1 : Int32) else 0) = (if kk = (0 : Int32) then (1 : Int32) else 0) := own_last1 hkr hc26_18 hc48_42
      obtain ⟨fs, hr, hrun, hended, hE1, hE2, hE3, hE4⟩ := X45.leaveW hSi (by exact (Nat.le_trans (Nat.le_trans (Nat.le_trans (Nat.le_trans hk1 K11.1) K15.1) K37.1) K45.1)) (v := some (.int (1 : Int32))) (fun h => by rw [Bd.returns] at h; cases h)
      refine ⟨_, _, pre41 _ ?_, hrun, hended, _, _, rfl, ?_, hE1, hE2, hE3, hE4.mono (by decide) (by decide)⟩
      · show Steps p.tables e below (T37.setTop (mkF m 48 #[.val (.int p0), .val (.int p1), .val (.int p2), .val (.int p3), .val (.int p4), .val (.int p5), .val (.int kk), .val (.ref b1), .val (.int (if (0 : Int64) = (0 : Int64) then (1 : Int32) else 0)), .unset] [(.int (2 : Int32)), (.int kk)])) _
        refine XS.icmpYes X37.here hx rfl (pc0 := 48) (pc' := 72) rfl (hb hby at_48) rfl (tlt hc48_42).1 (by decide) (by decide) ?_
        show Steps p.tables e below (T37.setTop (mkF m 72 #[.val (.int p0), .val (.int p1), .val (.int p2), .val (.int p3), .val (.int p4), .val (.int p5), .val (.int kk), .val (.ref b1), .val (.int (if (0 : Int64) = (0 : Int64) then (1 : Int32) else 0)), .unset] [])) _
        refine XS.iload X37.here hx rfl (hb hby at_72) rfl ?_
        show Steps p.tables e below (T37.setTop (mkF m 74 #[.val (.int p0), .val (.int p1), .val (.int p2), .val (.int p3), .val (.int p4), .val (.int p5), .val (.int kk), .val (.ref b1), .val (.int (if (0 : Int64) = (0 : Int64) then (1 : Int32) else 0)), .unset] [(.int kk)])) _
        refine XS.iconst X37.here hx rfl (hb hby at_74) ?_
        show Steps p.tables e below (T37.setTop (mkF m 75 #[.val (.int p0), .val (.int p1), .val (.int p2), .val (.int p3), .val (.int p4), .val (.int p5), .val (.int kk), .val (.ref b1), .val (.int (if (0 : Int64) = (0 : Int64) then (1 : Int32) else 0)), .unset] [(.int (3 : Int32)), (.int kk)])) _
        refine XS.icmpYes X37.here hx rfl (pc0 := 75) (pc' := 100) rfl (hb hby at_75) rfl (tlt hc75_43).1 (by decide) (by decide) ?_
        show Steps p.tables e below (T37.setTop (mkF m 100 #[.val (.int p0), .val (.int p1), .val (.int p2), .val (.int p3), .val (.int p4), .val (.int p5), .val (.int kk), .val (.ref b1), .val (.int (if (0 : Int64) = (0 : Int64) then (1 : Int32) else 0)), .unset] [])) _
        refine XS.aload X37.here hx rfl (hb hby at_100) rfl rfl ?_
        show Steps p.tables e below (T37.setTop (mkF m 102 #[.val (.int p0), .val (.int p1), .val (.int p2), .val (.int p3), .val (.int p4), .val (.int p5), .val (.int kk), .val (.ref b1), .val (.int (if (0 : Int64) = (0 : Int64) then (1 : Int32) else 0)), .unset] [(.ref b1)])) _
        refine st45.trans ?_
        show Steps p.tables e below (T45.setTop (mkF m 105 #[.val (.int p0), .val (.int p1), .val (.int p2), .val (.int p3), .val (.int p4), .val (.int p5), .val (.int kk), .val (.ref b1), .val (.int (if (0 : Int64) = (0 : Int64) then (1 : Int32) else 0)), .unset] [(.int (if ((0 : Int64) + (1 : Int64)) = (0 : Int64) then (1 : Int32) else 0))])) _
        refine XS.istore X45.here hx rfl (hb hby at_105) rfl (l' := #[.val (.int p0), .val (.int p1), .val (.int p2), .val (.int p3), .val (.int p4), .val (.int p5), .val (.int kk), .val (.ref b1), .val (.int (if (0 : Int64) = (0 : Int64) then (1 : Int32) else 0)), .val (.int (if ((0 : Int64) + (1 : Int64)) = (0 : Int64) then (1 : Int32) else 0))]) rfl ?_
        show Steps p.tables e below (T45.setTop (mkF m 107 #[.val (.int p0), .val (.int p1), .val (.int p2), .val (.int p3), .val (.int p4), .val (.int p5), .val (.int kk), .val (.ref b1), .val (.int (if (0 : Int64) = (0 : Int64) then (1 : Int32) else 0)), .val (.int (if ((0 : Int64) + (1 : Int64)) = (0 : Int64) then (1 : Int32) else 0))] [])) _
        refine XS.iload X45.here hx rfl (hb hby at_107) rfl ?_
        show Steps p.tables e below (T45.setTop (mkF m 109 #[.val (.int p0), .val (.int p1), .val (.int p2), .val (.int p3), .val (.int p4), .val (.int p5), .val (.int kk), .val (.ref b1), .val (.int (if (0 : Int64) = (0 : Int64) then (1 : Int32) else 0)), .val (.int (if ((0 : Int64) + (1 : Int64)) = (0 : Int64) then (1 : Int32) else 0))] [(.int (if (0 : Int64) = (0 : Int64) then (1 : Int32) else 0))])) _
        refine XS.ifNo X45.here hx rfl (hb hby at_109) rfl ((if0 _ _).trans (feq (own_b10n (by decide))).1) ?_
        show Steps p.tables e below (T45.setTop (mkF m 112 #[.val (.int p0), .val (.int p1), .val (.int p2), .val (.int p3), .val (.int p4), .val (.int p5), .val (.int kk), .val (.ref b1), .val (.int (if (0 : Int64) = (0 : Int64) then (1 : Int32) else 0)), .val (.int (if ((0 : Int64) + (1 : Int64)) = (0 : Int64) then (1 : Int32) else 0))] [])) _
        refine XS.iload X45.here hx rfl (hb hby at_112) rfl ?_
        show Steps p.tables e below (T45.setTop (mkF m 114 #[.val (.int p0), .val (.int p1), .val (.int p2), .val (.int p3), .val (.int p4), .val (.int p5), .val (.int kk), .val (.ref b1), .val (.int (if (0 : Int64) = (0 : Int64) then (1 : Int32) else 0)), .val (.int (if ((0 : Int64) + (1 : Int64)) = (0 : Int64) then (1 : Int32) else 0))] [(.int (if ((0 : Int64) + (1 : Int64)) = (0 : Int64) then (1 : Int32) else 0))])) _
        refine XS.iload X45.here hx rfl (hb hby at_114) rfl ?_
        show Steps p.tables e below (T45.setTop (mkF m 116 #[.val (.int p0), .val (.int p1), .val (.int p2), .val (.int p3), .val (.int p4), .val (.int p5), .val (.int kk), .val (.ref b1), .val (.int (if (0 : Int64) = (0 : Int64) then (1 : Int32) else 0)), .val (.int (if ((0 : Int64) + (1 : Int64)) = (0 : Int64) then (1 : Int32) else 0))] [(.int kk), (.int (if ((0 : Int64) + (1 : Int64)) = (0 : Int64) then (1 : Int32) else 0))])) _
        refine own_diaF X45.here hx rfl (pc0 := 116) rfl (hb hby at_116) (hb hby at_119) (hb hby at_120) (hb hby at_123) rfl (fun hq => ((if0 _ _).trans (teq hq).2)) (fun hq => ((if0 _ _).trans (feq hq).2)) ?_
        show Steps p.tables e below (T45.setTop (mkF m 124 #[.val (.int p0), .val (.int p1), .val (.int p2), .val (.int p3), .val (.int p4), .val (.int p5), .val (.int kk), .val (.ref b1), .val (.int (if (0 : Int64) = (0 : Int64) then (1 : Int32) else 0)), .val (.int (if ((0 : Int64) + (1 : Int64)) = (0 : Int64) then (1 : Int32) else 0))] [(.int (if kk = (0 : Int32) then (1 : Int32) else 0)), (.int (if ((0 : Int64) + (1 : Int64)) = (0 : Int64) then (1 : Int32) else 0))])) _
        refine XS.icmpNo X45.here hx rfl (hb hby at_124) rfl (teq hc124_47).2 ?_
        show Steps p.tables e below (T45.setTop (mkF m 127 #[.val (.int p0), .val (.int p1), .val (.int p2), .val (.int p3), .val (.int p4), .val (.int p5), .val (.int kk), .val (.ref b1), .val (.int (if (0 : Int64) = (0 : Int64) then (1 : Int32) else 0)), .val (.int (if ((0 : Int64) + (1 : Int64)) = (0 : Int64) then (1 : Int32) else 0))] [])) _
        refine XS.iconst X45.here hx rfl (hb hby at_127) ?_
        show Steps p.tables e below (T45.setTop (mkF m 128 #[.val (.int p0), .val (.int p1), .val (.int p2), .val (.int p3), .val (.int p4), .val (.int p5), .val (.int kk), .val (.ref b1), .val (.int (if (0 : Int64) = (0 : Int64) then (1 : Int32) else 0)), .val (.int (if ((0 : Int64) + (1 : Int64)) = (0 : Int64) then (1 : Int32) else 0))] [(.int (1 : Int32))])) _
        refine XS.goto X45.here hx rfl (pc0 := 128) (pc' := 132) rfl (hb hby at_128) (by decide) (by decide) ?_
        show Steps p.tables e below (T45.setTop (mkF m 132 #[.val (.int p0), .val (.int p1), .val (.int p2), .val (.int p3), .val (.int p4), .val (.int p5), .val (.int kk), .val (.ref b1), .val (.int (if (0 : Int64) = (0 : Int64) then (1 : Int32) else 0)), .val (.int (if ((0 : Int64) + (1 : Int64)) = (0 : Int64) then (1 : Int32) else 0))] [(.int (1 : Int32))])) _
        exact retN X45 hx (t := .boolean) Bd.returns (by simp) (hb hby at_132) hr
      · show Q0 Z p0 p1 p2 p3 p4 p5 dd kd cs h0 n0 _ T45.heap _
        exact ⟨rfl, N45⟩
    · skip
      have c48 : Exa Z T37.heap b1 "com/example/tierline/tierline/csv/LineProblems" := (c26.keep K37)
      have c49 : Exa Z T37.heap li_11 "java/util/ArrayList" := (c29.keep K37)
      have c50 : Sta Z T37.heap "java/lang/String" "COMPACT_STRINGS" "Z" (.int cs) := (own_Sta_keep c35 K37 (allS c26.nostat (allS c29.nostat all0)))
      have ne51 : y0_37 ≠ b1 := (ne_exa r6_37 c48 (by decide))
      have ne52 : y0_37 ≠ li_11 := (ne_exa r6_37 c49 (by decide))
      have ne53 : y0_37 ≠ na_37 := (Exa.neArv r6_37 r10_37 (hw _ (List.mem_of_getElem? (i := 81) rfl)))
      have z54 : n0 ≤ T37.heap.size := (Nat.le_trans z36 K37.1)
      -- pc 69: LineProblemsIsEmptyPinLaw.addOne by rm2_1
      obtain ⟨_, _, ⟨T55, L55, k55, n55⟩, -, X55, ⟨Lc55, hQ55, l55, y55, z55'⟩, st55⟩ := Jvm.LawKit.callS X37 hx (y := (⟨"com/example/tierline/tierline/csv/LineProblemsIsEmptyPinLaw", "addOne", "(Lcom/example/tierline/tierline/csv/LineProblems;IIC)V"⟩ : MethodName)) hown (mvT hZ (hw _ (List.mem_of_getElem? (i := 52) rfl))) (mvT hZ (hw _ (List.mem_of_getElem? (i := 53) rfl))) (mvT hZ (hw _ (List.mem_of_getElem? (i := 54) rfl))) (mvT hZ (hw _ (List.mem_of_getElem? (i := 55) rfl))) (by decide) (backOf (W := 0) (rm2_1 l Z a0 hw [] b1 ((p1 >>> ((2 : Int32) &&& 31)) &&& (3 : Int32)) p3 (((p5 >>> ((8 : Int32) &&& 31)) &&& (255 : Int32)).toUInt32.toUInt16.toUInt32.toInt32) ((0 : Int64) + (1 : Int64)) li_11 ((0 : Int32) + (1 : Int32)) na_37 nk_37 y0_37 m0_37 d0_37 cs T37.heap n0 z54 c48 r1_37 r2_37 c49 r3_37 r4_37 g_b1 g_li_11 r9_37 r10_37 r5_37 g_na_37 r6_37 r7_37 r8_37 c50 hcs) hZ (hw _ (List.mem_of_getElem? (i := 55) rfl)) (hw _ (List.mem_of_getElem? (i := 54) rfl)) (by decide) (by decide)) (g := (mkF m 69 #[.val (.int p0), .val (.int p1), .val (.int p2), .val (.int p3), .val (.int p4), .val (.int p5), .val (.int kk), .val (.ref b1), .val (.int (if (0 : Int64) = (0 : Int64) then (1 : Int32) else 0)), .unset] [(.int (((p5 >>> ((8 : Int32) &&& 31)) &&& (255 : Int32)).toUInt32.toUInt16.toUInt32.toInt32)), (.int p3), (.int ((p1 >>> ((2 : Int32) &&& 31)) &&& (3 : Int32))), (.ref b1)])) rfl (by rw [hml]; rfl) (argsL := [(.ref b1), (.int ((p1 >>> ((2 : Int32) &&& 31)) &&& (3 : Int32))), (.int p3), (.int (((p5 >>> ((8 : Int32) &&& 31)) &&& (255 : Int32)).toUInt32.toUInt16.toUInt32.toInt32))]) (rest := []) (lenOf pd_19 rfl) rfl (by show 2 * 0 + _ ≤ _; exact Nat.le_of_eq rfl) (hb hby at_69) (fun _ _ => ⟨rfl, rfl, (by decide : 8 + 3 ≤ _), (by decide : 32 + 8 ≤ _)⟩)
      dsimp only [Pt.U, Pt.locs, Pt.cells, Pt.slots] at X55 l55 y55 z55' st55 hQ55
      subst l55 y55 z55'
      obtain ⟨y0_55, m0_55, d0_55, y1_55, m1_55, d1_55, rfl, N55q, K55, r0_55, r1_55, r2_55, r3_55, r4_55, r5_55, r6_55, r7_55, r8_55, r9_55, r10_55, r11_55⟩ := hQ55
      have N55 := Fr.app N37 N55q
      have J55 : Keep h0 T55.heap [] := J37.trans K55 (allS (Or.inr sz_b1) (allS (Or.inr sz_li_11) (allS (Or.inr sz_na_37) all0)))
      have pre56 : ∀ t, Steps p.tables e below (T55.setTop (mkF m 75 #[.val (.int p0), .val (.int p1), .val (.int p2), .val (.int p3), .val (.int p4), .val (.int p5), .val (.int kk), .val (.ref b1), .val (.int (if (0 : Int64) = (0 : Int64) then (1 : Int32) else 0)), .unset] [(.int (3 : Int32)), (.int kk)])) t → Steps p.tables e below (s₁.setTop (entryFrame m #[(.int p0), (.int p1), (.int p2), (.int p3), (.int p4), (.int p5)] maxLocals)) t := by
        intro t kt
        refine pre41 _ ?_
        show Steps p.tables e below (T37.setTop (mkF m 48 #[.val (.int p0), .val (.int p1), .val (.int p2), .val (.int p3), .val (.int p4), .val (.int p5), .val (.int kk), .val (.ref b1), .val (.int (if (0 : Int64) = (0 : Int64) then (1 : Int32) else 0)), .unset] [(.int (2 : Int32)), (.int kk)])) _
        refine XS.icmpNo X37.here hx rfl (hb hby at_48) rfl (flt hc48_42).1 ?_
        show Steps p.tables e below (T37.setTop (mkF m 51 #[.val (.int p0), .val (.int p1), .val (.int p2), .val (.int p3), .val (.int p4), .val (.int p5), .val (.int kk), .val (.ref b1), .val (.int (if (0 : Int64) = (0 : Int64) then (1 : Int32) else 0)), .unset] [])) _
        refine XS.aload X37.here hx rfl (hb hby at_51) rfl rfl ?_
        show Steps p.tables e below (T37.setTop (mkF m 53 #[.val (.int p0), .val (.int p1), .val (.int p2), .val (.int p3), .val (.int p4), .val (.int p5), .val (.int kk), .val (.ref b1), .val (.int (if (0 : Int64) = (0 : Int64) then (1 : Int32) else 0)), .unset] [(.ref b1)])) _
        refine XS.iloadN X37.here hx rfl (hb hby at_53) rfl ?_
        show Steps p.tables e below (T37.setTop (mkF m 54 #[.val (.int p0), .val (.int p1), .val (.int p2), .val (.int p3), .val (.int p4), .val (.int p5), .val (.int kk), .val (.ref b1), .val (.int (if (0 : Int64) = (0 : Int64) then (1 : Int32) else 0)), .unset] [(.int p1), (.ref b1)])) _
        refine XS.iconst X37.here hx rfl (hb hby at_54) ?_
        show Steps p.tables e below (T37.setTop (mkF m 55 #[.val (.int p0), .val (.int p1), .val (.int p2), .val (.int p3), .val (.int p4), .val (.int p5), .val (.int kk), .val (.ref b1), .val (.int (if (0 : Int64) = (0 : Int64) then (1 : Int32) else 0)), .unset] [(.int (2 : Int32)), (.int p1), (.ref b1)])) _
        refine XS.ishr X37.here hx rfl (hb hby at_55) rfl ?_
        show Steps p.tables e below (T37.setTop (mkF m 56 #[.val (.int p0), .val (.int p1), .val (.int p2), .val (.int p3), .val (.int p4), .val (.int p5), .val (.int kk), .val (.ref b1), .val (.int (if (0 : Int64) = (0 : Int64) then (1 : Int32) else 0)), .unset] [(.int (p1 >>> ((2 : Int32) &&& 31))), (.ref b1)])) _
        refine XS.iconst X37.here hx rfl (hb hby at_56) ?_
        show Steps p.tables e below (T37.setTop (mkF m 57 #[.val (.int p0), .val (.int p1), .val (.int p2), .val (.int p3), .val (.int p4), .val (.int p5), .val (.int kk), .val (.ref b1), .val (.int (if (0 : Int64) = (0 : Int64) then (1 : Int32) else 0)), .unset] [(.int (3 : Int32)), (.int (p1 >>> ((2 : Int32) &&& 31))), (.ref b1)])) _
        refine XS.iand X37.here hx rfl (hb hby at_57) rfl ?_
        show Steps p.tables e below (T37.setTop (mkF m 58 #[.val (.int p0), .val (.int p1), .val (.int p2), .val (.int p3), .val (.int p4), .val (.int p5), .val (.int kk), .val (.ref b1), .val (.int (if (0 : Int64) = (0 : Int64) then (1 : Int32) else 0)), .unset] [(.int ((p1 >>> ((2 : Int32) &&& 31)) &&& (3 : Int32))), (.ref b1)])) _
        refine XS.iloadN X37.here hx rfl (hb hby at_58) rfl ?_
        show Steps p.tables e below (T37.setTop (mkF m 59 #[.val (.int p0), .val (.int p1), .val (.int p2), .val (.int p3), .val (.int p4), .val (.int p5), .val (.int kk), .val (.ref b1), .val (.int (if (0 : Int64) = (0 : Int64) then (1 : Int32) else 0)), .unset] [(.int p3), (.int ((p1 >>> ((2 : Int32) &&& 31)) &&& (3 : Int32))), (.ref b1)])) _
        refine XS.iload X37.here hx rfl (hb hby at_59) rfl ?_
        show Steps p.tables e below (T37.setTop (mkF m 61 #[.val (.int p0), .val (.int p1), .val (.int p2), .val (.int p3), .val (.int p4), .val (.int p5), .val (.int kk), .val (.ref b1), .val (.int (if (0 : Int64) = (0 : Int64) then (1 : Int32) else 0)), .unset] [(.int p5), (.int p3), (.int ((p1 >>> ((2 : Int32) &&& 31)) &&& (3 : Int32))), (.ref b1)])) _
        refine XS.bipush X37.here hx rfl (hb hby at_61) ?_
        show Steps p.tables e below (T37.setTop (mkF m 63 #[.val (.int p0), .val (.int p1), .val (.int p2), .val (.int p3), .val (.int p4), .val (.int p5), .val (.int kk), .val (.ref b1), .val (.int (if (0 : Int64) = (0 : Int64) then (1 : Int32) else 0)), .unset] [(.int (8 : Int32)), (.int p5), (.int p3), (.int ((p1 >>> ((2 : Int32) &&& 31)) &&& (3 : Int32))), (.ref b1)])) _
        refine XS.ishr X37.here hx rfl (hb hby at_63) rfl ?_
        show Steps p.tables e below (T37.setTop (mkF m 64 #[.val (.int p0), .val (.int p1), .val (.int p2), .val (.int p3), .val (.int p4), .val (.int p5), .val (.int kk), .val (.ref b1), .val (.int (if (0 : Int64) = (0 : Int64) then (1 : Int32) else 0)), .unset] [(.int (p5 >>> ((8 : Int32) &&& 31))), (.int p3), (.int ((p1 >>> ((2 : Int32) &&& 31)) &&& (3 : Int32))), (.ref b1)])) _
        refine XS.sipush X37.here hx rfl (hb hby at_64) ?_
        show Steps p.tables e below (T37.setTop (mkF m 67 #[.val (.int p0), .val (.int p1), .val (.int p2), .val (.int p3), .val (.int p4), .val (.int p5), .val (.int kk), .val (.ref b1), .val (.int (if (0 : Int64) = (0 : Int64) then (1 : Int32) else 0)), .unset] [(.int (255 : Int32)), (.int (p5 >>> ((8 : Int32) &&& 31))), (.int p3), (.int ((p1 >>> ((2 : Int32) &&& 31)) &&& (3 : Int32))), (.ref b1)])) _
        refine XS.iand X37.here hx rfl (hb hby at_67) rfl ?_
        show Steps p.tables e below (T37.setTop (mkF m 68 #[.val (.int p0), .val (.int p1), .val (.int p2), .val (.int p3), .val (.int p4), .val (.int p5), .val (.int kk), .val (.ref b1), .val (.int (if (0 : Int64) = (0 : Int64) then (1 : Int32) else 0)), .unset] [(.int ((p5 >>> ((8 : Int32) &&& 31)) &&& (255 : Int32))), (.int p3), (.int ((p1 >>> ((2 : Int32) &&& 31)) &&& (3 : Int32))), (.ref b1)])) _
        refine XS.i2c X37.here hx rfl (hb hby at_68) rfl ?_
        show Steps p.tables e below (T37.setTop (mkF m 69 #[.val (.int p0), .val (.int p1), .val (.int p2), .val (.int p3), .val (.int p4), .val (.int p5), .val (.int kk), .val (.ref b1), .val (.int (if (0 : Int64) = (0 : Int64) then (1 : Int32) else 0)), .unset] [(.int (((p5 >>> ((8 : Int32) &&& 31)) &&& (255 : Int32)).toUInt32.toUInt16.toUInt32.toInt32)), (.int p3), (.int ((p1 >>> ((2 : Int32) &&& 31)) &&& (3 : Int32))), (.ref b1)])) _
        refine st55 _ ?_
        show Steps p.tables e below (T55.setTop (mkF m 72 #[.val (.int p0), .val (.int p1), .val (.int p2), .val (.int p3), .val (.int p4), .val (.int p5), .val (.int kk), .val (.ref b1), .val (.int (if (0 : Int64) = (0 : Int64) then (1 : Int32) else 0)), .unset] [])) _
        refine XS.iload X55.here hx rfl (hb hby at_72) rfl ?_
        show Steps p.tables e below (T55.setTop (mkF m 74 #[.val (.int p0), .val (.int p1), .val (.int p2), .val (.int p3), .val (.int p4), .val (.int p5), .val (.int kk), .val (.ref b1), .val (.int (if (0 : Int64) = (0 : Int64) then (1 : Int32) else 0)), .unset] [(.int kk)])) _
        refine XS.iconst X55.here hx rfl (hb hby at_74) ?_
        exact kt
      by_cases hc75_57 : kk < (3 : Int32)
      · skip
        have z58 : n0 ≤ T55.heap.size := (Nat.le_trans z54 K55.1)
        have c60 : Exa Z T55.heap b1 "com/example/tierline/tierline/csv/LineProblems" := (c48.keep K55)
        obtain ⟨cq59, kq59, q59a, q59b, q59c⟩ := isOf hZ rfl c60
        -- pc 102: LineProblems.isEmpty by rm7
        obtain ⟨_, _, ⟨T59, L59, k59, n59⟩, -, X59, ⟨Lc59, hQ59, l59, y59, z59'⟩, st59⟩ := X55.virtualBack hx (y := (⟨"com/example/tierline/tierline/csv/LineProblems", "isEmpty", "()Z"⟩ : MethodName)) (z := (⟨"com/example/tierline/tierline/csv/LineProblems", "isEmpty", "()Z"⟩ : MethodName)) hown (mvT hZ (hw _ (List.mem_of_getElem? (i := 45) rfl))) (mvT hZ (hw _ (List.mem_of_getElem? (i := 46) rfl))) (notFace_of_selects (args := #[]) (mvT hZ (hw _ (List.mem_of_getElem? (i := 48) rfl)))) (mvT hZ (hw _ (List.mem_of_getElem? (i := 48) rfl))) (mvT hZ (hw _ (List.mem_of_getElem? (i := 47) rfl))) (by decide) (backOf (W := 0) (rm7 l Z a0 hw [] b1 (((0 : Int64) + (1 : Int64)) + (1 : Int64)) T55.heap n0 z58 r0_55) hZ (hw _ (List.mem_of_getElem? (i := 49) rfl)) (hw _ (List.mem_of_getElem? (i := 2) rfl)) (by decide) (by decide)) q59a q59c (g := (mkF m 102 #[.val (.int p0), .val (.int p1), .val (.int p2), .val (.int p3), .val (.int p4), .val (.int p5), .val (.int kk), .val (.ref b1), .val (.int (if (0 : Int64) = (0 : Int64) then (1 : Int32) else 0)), .unset] [(.ref b1)])) rfl (by rw [hml]; rfl) (Steps.refl _) (argsL := []) (rest := []) (lenOf pd_18 rfl) rfl (by show 2 * 0 + _ ≤ _; exact Nat.le_of_eq rfl) (hb hby at_102) (fun _ _ => ⟨rfl, rfl, (by decide : 11 + 0 ≤ _), (by decide : 40 + 0 ≤ _)⟩)
        dsimp only [Pt.U, Pt.locs, Pt.cells, Pt.slots] at X59 l59 y59 z59' st59 hQ59
        subst l59 y59 z59'
        obtain ⟨rfl, N59q, K59⟩ := hQ59
        have N59 := Fr.app N55 N59q
        have J59 : Keep h0 T59.heap [] := J55.trans K59 all0
        have hc124_61 : (if (((0 : Int64) + (1 : Int64)) + (1 : Int64)) = (0 : Int64) then (1 : Int32) else 0) = (if kk = (0 : Int32) then (1 : Int32) else 0) := own_last2 hkr hc26_18 hc48_42 hc75_57
        obtain ⟨fs, hr, hrun, hended, hE1, hE2, hE3, hE4⟩ := X59.leaveW hSi (by exact (Nat.le_trans (Nat.le_trans (Nat.le_trans (Nat.le_trans (Nat.le_trans hk1 K11.1) K15.1) K37.1) K55.1) K59.1)) (v := some (.int (1 : Int32))) (fun h => by rw [Bd.returns] at h; cases h)
        refine ⟨_, _, pre56 _ ?_, hrun, hended, _, _, rfl, ?_, hE1, hE2, hE3, hE4.mono (by decide) (by decide)⟩
        · show Steps p.tables e below (T55.setTop (mkF m 75 #[.val (.int p0), .val (.int p1), .val (.int p2), .val (.int p3), .val (.int p4), .val (.int p5), .val (.int kk), .val (.ref b1), .val (.int (if (0 : Int64) = (0 : Int64) then (1 : Int32) else 0)), .unset] [(.int (3 : Int32)), (.int kk)])) _
          refine XS.icmpYes X55.here hx rfl (pc0 := 75) (pc' := 100) rfl (hb hby at_75) rfl (tlt hc75_57).1 (by decide) (by decide) ?_
          show Steps p.tables e below (T55.setTop (mkF m 100 #[.val (.int p0), .val (.int p1), .val (.int p2), .val (.int p3), .val (.int p4), .val (.int p5), .val (.int kk), .val (.ref b1), .val (.int (if (0 : Int64) = (0 : Int64) then (1 : Int32) else 0)), .unset] [])) _
          refine XS.aload X55.here hx rfl (hb hby at_100) rfl rfl ?_
          show Steps p.tables e below (T55.setTop (mkF m 102 #[.val (.int p0), .val (.int p1), .val (.int p2), .val (.int p3), .val (.int p4), .val (.int p5), .val (.int kk), .val (.ref b1), .val (.int (if (0 : Int64) = (0 : Int64) then (1 : Int32) else 0)), .unset] [(.ref b1)])) _
          refine st59.trans ?_
          show Steps p.tables e below (T59.setTop (mkF m 105 #[.val (.int p0), .val (.int p1), .val (.int p2), .val (.int p3), .val (.int p4), .val (.int p5), .val (.int kk), .val (.ref b1), .val (.int (if (0 : Int64) = (0 : Int64) then (1 : Int32) else 0)), .unset] [(.int (if (((0 : Int64) + (1 : Int64)) + (1 : Int64)) = (0 : Int64) then (1 : Int32) else 0))])) _
          refine XS.istore X59.here hx rfl (hb hby at_105) rfl (l' := #[.val (.int p0), .val (.int p1), .val (.int p2), .val (.int p3), .val (.int p4), .val (.int p5), .val (.int kk), .val (.ref b1), .val (.int (if (0 : Int64) = (0 : Int64) then (1 : Int32) else 0)), .val (.int (if (((0 : Int64) + (1 : Int64)) + (1 : Int64)) = (0 : Int64) then (1 : Int32) else 0))]) rfl ?_
          show Steps p.tables e below (T59.setTop (mkF m 107 #[.val (.int p0), .val (.int p1), .val (.int p2), .val (.int p3), .val (.int p4), .val (.int p5), .val (.int kk), .val (.ref b1), .val (.int (if (0 : Int64) = (0 : Int64) then (1 : Int32) else 0)), .val (.int (if (((0 : Int64) + (1 : Int64)) + (1 : Int64)) = (0 : Int64) then (1 : Int32) else 0))] [])) _
          refine XS.iload X59.here hx rfl (hb hby at_107) rfl ?_
          show Steps p.tables e below (T59.setTop (mkF m 109 #[.val (.int p0), .val (.int p1), .val (.int p2), .val (.int p3), .val (.int p4), .val (.int p5), .val (.int kk), .val (.ref b1), .val (.int (if (0 : Int64) = (0 : Int64) then (1 : Int32) else 0)), .val (.int (if (((0 : Int64) + (1 : Int64)) + (1 : Int64)) = (0 : Int64) then (1 : Int32) else 0))] [(.int (if (0 : Int64) = (0 : Int64) then (1 : Int32) else 0))])) _
          refine XS.ifNo X59.here hx rfl (hb hby at_109) rfl ((if0 _ _).trans (feq (own_b10n (by decide))).1) ?_
          show Steps p.tables e below (T59.setTop (mkF m 112 #[.val (.int p0), .val (.int p1), .val (.int p2), .val (.int p3), .val (.int p4), .val (.int p5), .val (.int kk), .val (.ref b1), .val (.int (if (0 : Int64) = (0 : Int64) then (1 : Int32) else 0)), .val (.int (if (((0 : Int64) + (1 : Int64)) + (1 : Int64)) = (0 : Int64) then (1 : Int32) else 0))] [])) _
          refine XS.iload X59.here hx rfl (hb hby at_112) rfl ?_
          show Steps p.tables e below (T59.setTop (mkF m 114 #[.val (.int p0), .val (.int p1), .val (.int p2), .val (.int p3), .val (.int p4), .val (.int p5), .val (.int kk), .val (.ref b1), .val (.int (if (0 : Int64) = (0 : Int64) then (1 : Int32) else 0)), .val (.int (if (((0 : Int64) + (1 : Int64)) + (1 : Int64)) = (0 : Int64) then (1 : Int32) else 0))] [(.int (if (((0 : Int64) + (1 : Int64)) + (1 : Int64)) = (0 : Int64) then (1 : Int32) else 0))])) _
          refine XS.iload X59.here hx rfl (hb hby at_114) rfl ?_
          show Steps p.tables e below (T59.setTop (mkF m 116 #[.val (.int p0), .val (.int p1), .val (.int p2), .val (.int p3), .val (.int p4), .val (.int p5), .val (.int kk), .val (.ref b1), .val (.int (if (0 : Int64) = (0 : Int64) then (1 : Int32) else 0)), .val (.int (if (((0 : Int64) + (1 : Int64)) + (1 : Int64)) = (0 : Int64) then (1 : Int32) else 0))] [(.int kk), (.int (if (((0 : Int64) + (1 : Int64)) + (1 : Int64)) = (0 : Int64) then (1 : Int32) else 0))])) _
          refine own_diaF X59.here hx rfl (pc0 := 116) rfl (hb hby at_116) (hb hby at_119) (hb hby at_120) (hb hby at_123) rfl (fun hq => ((if0 _ _).trans (teq hq).2)) (fun hq => ((if0 _ _).trans (feq hq).2)) ?_
          show Steps p.tables e below (T59.setTop (mkF m 124 #[.val (.int p0), .val (.int p1), .val (.int p2), .val (.int p3), .val (.int p4), .val (.int p5), .val (.int kk), .val (.ref b1), .val (.int (if (0 : Int64) = (0 : Int64) then (1 : Int32) else 0)), .val (.int (if (((0 : Int64) + (1 : Int64)) + (1 : Int64)) = (0 : Int64) then (1 : Int32) else 0))] [(.int (if kk = (0 : Int32) then (1 : Int32) else 0)), (.int (if (((0 : Int64) + (1 : Int64)) + (1 : Int64)) = (0 : Int64) then (1 : Int32) else 0))])) _
          refine XS.icmpNo X59.here hx rfl (hb hby at_124) rfl (teq hc124_61).2 ?_
          show Steps p.tables e below (T59.setTop (mkF m 127 #[.val (.int p0), .val (.int p1), .val (.int p2), .val (.int p3), .val (.int p4), .val (.int p5), .val (.int kk), .val (.ref b1), .val (.int (if (0 : Int64) = (0 : Int64) then (1 : Int32) else 0)), .val (.int (if (((0 : Int64) + (1 : Int64)) + (1 : Int64)) = (0 : Int64) then (1 : Int32) else 0))] [])) _
          refine XS.iconst X59.here hx rfl (hb hby at_127) ?_
          show Steps p.tables e below (T59.setTop (mkF m 128 #[.val (.int p0), .val (.int p1), .val (.int p2), .val (.int p3), .val (.int p4), .val (.int p5), .val (.int kk), .val (.ref b1), .val (.int (if (0 : Int64) = (0 : Int64) then (1 : Int32) else 0)), .val (.int (if (((0 : Int64) + (1 : Int64)) + (1 : Int64)) = (0 : Int64) then (1 : Int32) else 0))] [(.int (1 : Int32))])) _
          refine XS.goto X59.here hx rfl (pc0 := 128) (pc' := 132) rfl (hb hby at_128) (by decide) (by decide) ?_
          show Steps p.tables e below (T59.setTop (mkF m 132 #[.val (.int p0), .val (.int p1), .val (.int p2), .val (.int p3), .val (.int p4), .val (.int p5), .val (.int kk), .val (.ref b1), .val (.int (if (0 : Int64) = (0 : Int64) then (1 : Int32) else 0)), .val (.int (if (((0 : Int64) + (1 : Int64)) + (1 : Int64)) = (0 : Int64) then (1 : Int32) else 0))] [(.int (1 : Int32))])) _
          exact retN X59 hx (t := .boolean) Bd.returns (by simp) (hb hby at_132) hr
        · show Q0 Z p0 p1 p2 p3 p4 p5 dd kd cs h0 n0 _ T59.heap _
          exact ⟨rfl, N59⟩
      · skip
        have c62 : Exa Z T55.heap b1 "com/example/tierline/tierline/csv/LineProblems" := (c48.keep K55)
        have c63 : Exa Z T55.heap li_11 "java/util/ArrayList" := (c49.keep K55)
        have c64 : Sta Z T55.heap "java/lang/String" "COMPACT_STRINGS" "Z" (.int cs) := (own_Sta_keep c50 K55 (allS c48.nostat (allS c49.nostat (allS r10_37.nostat all0))))
        have ne65 : y0_55 ≠ b1 := (ne_exa r4_55 c62 (by decide))
        have ne66 : y1_55 ≠ b1 := (ne_exa r7_55 c62 (by decide))
        have ne67 : y0_55 ≠ li_11 := (ne_exa r4_55 c63 (by decide))
        have ne68 : y1_55 ≠ li_11 := (ne_exa r7_55 c63 (by decide))
        have ne69 : y0_55 ≠ na_37 := (Exa.neArv r4_55 r11_55 (hw _ (List.mem_of_getElem? (i := 81) rfl)))
        have ne70 : y1_55 ≠ na_37 := (Exa.neArv r7_55 r11_55 (hw _ (List.mem_of_getElem? (i := 81) rfl)))
        have z71 : n0 ≤ T55.heap.size := (Nat.le_trans z54 K55.1)
        -- pc 97: LineProblemsIsEmptyPinLaw.addOne by rm2_2
        obtain ⟨_, _, ⟨T72, L72, k72, n72⟩, -, X72, ⟨Lc72, hQ72, l72, y72, z72'⟩, st72⟩ := Jvm.LawKit.callS X55 hx (y := (⟨"com/example/tierline/tierline/csv/LineProblemsIsEmptyPinLaw", "addOne", "(Lcom/example/tierline/tierline/csv/LineProblems;IIC)V"⟩ : MethodName)) hown (mvT hZ (hw _ (List.mem_of_getElem? (i := 52) rfl))) (mvT hZ (hw _ (List.mem_of_getElem? (i := 53) rfl))) (mvT hZ (hw _ (List.mem_of_getElem? (i := 54) rfl))) (mvT hZ (hw _ (List.mem_of_getElem? (i := 55) rfl))) (by decide) (backOf (W := 0) (rm2_2 l Z a0 hw [] b1 ((p1 >>> ((4 : Int32) &&& 31)) &&& (3 : Int32)) p4 (((p5 >>> ((16 : Int32) &&& 31)) &&& (255 : Int32)).toUInt32.toUInt16.toUInt32.toInt32) (((0 : Int64) + (1 : Int64)) + (1 : Int64)) li_11 (((0 : Int32) + (1 : Int32)) + (1 : Int32)) na_37 nk_37 y0_55 m0_55 d0_55 y1_55 m1_55 d1_55 cs T55.heap n0 z71 c62 r0_55 r1_55 c63 r2_55 r3_55 g_b1 g_li_11 r10_55 r11_55 r5_37 g_na_37 r4_55 r5_55 r6_55 r7_55 r8_55 r9_55 c64 hcs) hZ (hw _ (List.mem_of_getElem? (i := 55) rfl)) (hw _ (List.mem_of_getElem? (i := 54) rfl)) (by decide) (by decide)) (g := (mkF m 97 #[.val (.int p0), .val (.int p1), .val (.int p2), .val (.int p3), .val (.int p4), .val (.int p5), .val (.int kk), .val (.ref b1), .val (.int (if (0 : Int64) = (0 : Int64) then (1 : Int32) else 0)), .unset] [(.int (((p5 >>> ((16 : Int32) &&& 31)) &&& (255 : Int32)).toUInt32.toUInt16.toUInt32.toInt32)), (.int p4), (.int ((p1 >>> ((4 : Int32) &&& 31)) &&& (3 : Int32))), (.ref b1)])) rfl (by rw [hml]; rfl) (argsL := [(.ref b1), (.int ((p1 >>> ((4 : Int32) &&& 31)) &&& (3 : Int32))), (.int p4), (.int (((p5 >>> ((16 : Int32) &&& 31)) &&& (255 : Int32)).toUInt32.toUInt16.toUInt32.toInt32))]) (rest := []) (lenOf pd_19 rfl) rfl (by show 2 * 0 + _ ≤ _; exact Nat.le_of_eq rfl) (hb hby at_97) (fun _ _ => ⟨rfl, rfl, (by decide : 11 + 3 ≤ _), (by decide : 40 + 8 ≤ _)⟩)
        dsimp only [Pt.U, Pt.locs, Pt.cells, Pt.slots] at X72 l72 y72 z72' st72 hQ72
        subst l72 y72 z72'
        obtain ⟨rfl, N72q, K72, r0_72, r1_72⟩ := hQ72
        have N72 := Fr.app N55 N72q
        have J72 : Keep h0 T72.heap [] := J55.trans K72 (allS (Or.inr sz_b1) (allS (Or.inr sz_li_11) (allS (Or.inr sz_na_37) all0)))
        have z73 : n0 ≤ T72.heap.size := (Nat.le_trans z71 K72.1)
        have c75 : Exa Z T72.heap b1 "com/example/tierline/tierline/csv/LineProblems" := (c62.keep K72)
        obtain ⟨cq74, kq74, q74a, q74b, q74c⟩ := isOf hZ rfl c75
        -- pc 102: LineProblems.isEmpty by rm7
        obtain ⟨_, _, ⟨T74, L74, k74, n74⟩, -, X74, ⟨Lc74, hQ74, l74, y74, z74'⟩, st74⟩ := X72.virtualBack hx (y := (⟨"com/example/tierline/tierline/csv/LineProblems", "isEmpty", "()Z"⟩ : MethodName)) (z := (⟨"com/example/tierline/tierline/csv/LineProblems", "isEmpty", "()Z"⟩ : MethodName)) hown (mvT hZ (hw _ (List.mem_of_getElem? (i := 45) rfl))) (mvT hZ (hw _ (List.mem_of_getElem? (i := 46) rfl))) (notFace_of_selects (args := #[]) (mvT hZ (hw _ (List.mem_of_getElem? (i := 48) rfl)))) (mvT hZ (hw _ (List.mem_of_getElem? (i := 48) rfl))) (mvT hZ (hw _ (List.mem_of_getElem? (i := 47) rfl))) (by decide) (backOf (W := 0) (rm7 l Z a0 hw [] b1 ((((0 : Int64) + (1 : Int64)) + (1 : Int64)) + (1 : Int64)) T72.heap n0 z73 r0_72) hZ (hw _ (List.mem_of_getElem? (i := 49) rfl)) (hw _ (List.mem_of_getElem? (i := 2) rfl)) (by decide) (by decide)) q74a q74c (g := (mkF m 102 #[.val (.int p0), .val (.int p1), .val (.int p2), .val (.int p3), .val (.int p4), .val (.int p5), .val (.int kk), .val (.ref b1), .val (.int (if (0 : Int64) = (0 : Int64) then (1 : Int32) else 0)), .unset] [(.ref b1)])) rfl (by rw [hml]; rfl) (Steps.refl _) (argsL := []) (rest := []) (lenOf pd_18 rfl) rfl (by show 2 * 0 + _ ≤ _; exact Nat.le_of_eq rfl) (hb hby at_102) (fun _ _ => ⟨rfl, rfl, (by decide : 14 + 0 ≤ _), (by decide : 48 + 0 ≤ _)⟩)
        dsimp only [Pt.U, Pt.locs, Pt.cells, Pt.slots] at X74 l74 y74 z74' st74 hQ74
        subst l74 y74 z74'
        obtain ⟨rfl, N74q, K74⟩ := hQ74
        have N74 := Fr.app N72 N74q
        have J74 : Keep h0 T74.heap [] := J72.trans K74 all0
        have hc124_76 : (if ((((0 : Int64) + (1 : Int64)) + (1 : Int64)) + (1 : Int64)) = (0 : Int64) then (1 : Int32) else 0) = (if kk = (0 : Int32) then (1 : Int32) else 0) := own_last3 hkr hc26_18 hc48_42 hc75_57
        obtain ⟨fs, hr, hrun, hended, hE1, hE2, hE3, hE4⟩ := X74.leaveW hSi (by exact (Nat.le_trans (Nat.le_trans (Nat.le_trans (Nat.le_trans (Nat.le_trans (Nat.le_trans hk1 K11.1) K15.1) K37.1) K55.1) K72.1) K74.1)) (v := some (.int (1 : Int32))) (fun h => by rw [Bd.returns] at h; cases h)
        refine ⟨_, _, pre56 _ ?_, hrun, hended, _, _, rfl, ?_, hE1, hE2, hE3, hE4.mono (by decide) (by decide)⟩
        · show Steps p.tables e below (T55.setTop (mkF m 75 #[.val (.int p0), .val (.int p1), .val (.int p2), .val (.int p3), .val (.int p4), .val (.int p5), .val (.int kk), .val (.ref b1), .val (.int (if (0 : Int64) = (0 : Int64) then (1 : Int32) else 0)), .unset] [(.int (3 : Int32)), (.int kk)])) _
          refine XS.icmpNo X55.here hx rfl (hb hby at_75) rfl (flt hc75_57).1 ?_
          show Steps p.tables e below (T55.setTop (mkF m 78 #[.val (.int p0), .val (.int p1), .val (.int p2), .val (.int p3), .val (.int p4), .val (.int p5), .val (.int kk), .val (.ref b1), .val (.int (if (0 : Int64) = (0 : Int64) then (1 : Int32) else 0)), .unset] [])) _
          refine XS.aload X55.here hx rfl (hb hby at_78) rfl rfl ?_
          show Steps p.tables e below (T55.setTop (mkF m 80 #[.val (.int p0), .val (.int p1), .val (.int p2), .val (.int p3), .val (.int p4), .val (.int p5), .val (.int kk), .val (.ref b1), .val (.int (if (0 : Int64) = (0 : Int64) then (1 : Int32) else 0)), .unset] [(.ref b1)])) _
          refine XS.iloadN X55.here hx rfl (hb hby at_80) rfl ?_
          show Steps p.tables e below (T55.setTop (mkF m 81 #[.val (.int p0), .val (.int p1), .val (.int p2), .val (.int p3), .val (.int p4), .val (.int p5), .val (.int kk), .val (.ref b1), .val (.int (if (0 : Int64) = (0 : Int64) then (1 : Int32) else 0)), .unset] [(.int p1), (.ref b1)])) _
          refine XS.iconst X55.here hx rfl (hb hby at_81) ?_
          show Steps p.tables e below (T55.setTop (mkF m 82 #[.val (.int p0), .val (.int p1), .val (.int p2), .val (.int p3), .val (.int p4), .val (.int p5), .val (.int kk), .val (.ref b1), .val (.int (if (0 : Int64) = (0 : Int64) then (1 : Int32) else 0)), .unset] [(.int (4 : Int32)), (.int p1), (.ref b1)])) _
          refine XS.ishr X55.here hx rfl (hb hby at_82) rfl ?_
          show Steps p.tables e below (T55.setTop (mkF m 83 #[.val (.int p0), .val (.int p1), .val (.int p2), .val (.int p3), .val (.int p4), .val (.int p5), .val (.int kk), .val (.ref b1), .val (.int (if (0 : Int64) = (0 : Int64) then (1 : Int32) else 0)), .unset] [(.int (p1 >>> ((4 : Int32) &&& 31))), (.ref b1)])) _
          refine XS.iconst X55.here hx rfl (hb hby at_83) ?_
          show Steps p.tables e below (T55.setTop (mkF m 84 #[.val (.int p0), .val (.int p1), .val (.int p2), .val (.int p3), .val (.int p4), .val (.int p5), .val (.int kk), .val (.ref b1), .val (.int (if (0 : Int64) = (0 : Int64) then (1 : Int32) else 0)), .unset] [(.int (3 : Int32)), (.int (p1 >>> ((4 : Int32) &&& 31))), (.ref b1)])) _
          refine XS.iand X55.here hx rfl (hb hby at_84) rfl ?_
          show Steps p.tables e below (T55.setTop (mkF m 85 #[.val (.int p0), .val (.int p1), .val (.int p2), .val (.int p3), .val (.int p4), .val (.int p5), .val (.int kk), .val (.ref b1), .val (.int (if (0 : Int64) = (0 : Int64) then (1 : Int32) else 0)), .unset] [(.int ((p1 >>> ((4 : Int32) &&& 31)) &&& (3 : Int32))), (.ref b1)])) _
          refine XS.iload X55.here hx rfl (hb hby at_85) rfl ?_
          show Steps p.tables e below (T55.setTop (mkF m 87 #[.val (.int p0), .val (.int p1), .val (.int p2), .val (.int p3), .val (.int p4), .val (.int p5), .val (.int kk), .val (.ref b1), .val (.int (if (0 : Int64) = (0 : Int64) then (1 : Int32) else 0)), .unset] [(.int p4), (.int ((p1 >>> ((4 : Int32) &&& 31)) &&& (3 : Int32))), (.ref b1)])) _
          refine XS.iload X55.here hx rfl (hb hby at_87) rfl ?_
          show Steps p.tables e below (T55.setTop (mkF m 89 #[.val (.int p0), .val (.int p1), .val (.int p2), .val (.int p3), .val (.int p4), .val (.int p5), .val (.int kk), .val (.ref b1), .val (.int (if (0 : Int64) = (0 : Int64) then (1 : Int32) else 0)), .unset] [(.int p5), (.int p4), (.int ((p1 >>> ((4 : Int32) &&& 31)) &&& (3 : Int32))), (.ref b1)])) _
          refine XS.bipush X55.here hx rfl (hb hby at_89) ?_
          show Steps p.tables e below (T55.setTop (mkF m 91 #[.val (.int p0), .val (.int p1), .val (.int p2), .val (.int p3), .val (.int p4), .val (.int p5), .val (.int kk), .val (.ref b1), .val (.int (if (0 : Int64) = (0 : Int64) then (1 : Int32) else 0)), .unset] [(.int (16 : Int32)), (.int p5), (.int p4), (.int ((p1 >>> ((4 : Int32) &&& 31)) &&& (3 : Int32))), (.ref b1)])) _
          refine XS.ishr X55.here hx rfl (hb hby at_91) rfl ?_
          show Steps p.tables e below (T55.setTop (mkF m 92 #[.val (.int p0), .val (.int p1), .val (.int p2), .val (.int p3), .val (.int p4), .val (.int p5), .val (.int kk), .val (.ref b1), .val (.int (if (0 : Int64) = (0 : Int64) then (1 : Int32) else 0)), .unset] [(.int (p5 >>> ((16 : Int32) &&& 31))), (.int p4), (.int ((p1 >>> ((4 : Int32) &&& 31)) &&& (3 : Int32))), (.ref b1)])) _
          refine XS.sipush X55.here hx rfl (hb hby at_92) ?_
          show Steps p.tables e below (T55.setTop (mkF m 95 #[.val (.int p0), .val (.int p1), .val (.int p2), .val (.int p3), .val (.int p4), .val (.int p5), .val (.int kk), .val (.ref b1), .val (.int (if (0 : Int64) = (0 : Int64) then (1 : Int32) else 0)), .unset] [(.int (255 : Int32)), (.int (p5 >>> ((16 : Int32) &&& 31))), (.int p4), (.int ((p1 >>> ((4 : Int32) &&& 31)) &&& (3 : Int32))), (.ref b1)])) _
          refine XS.iand X55.here hx rfl (hb hby at_95) rfl ?_
          show Steps p.tables e below (T55.setTop (mkF m 96 #[.val (.int p0), .val (.int p1), .val (.int p2), .val (.int p3), .val (.int p4), .val (.int p5), .val (.int kk), .val (.ref b1), .val (.int (if (0 : Int64) = (0 : Int64) then (1 : Int32) else 0)), .unset] [(.int ((p5 >>> ((16 : Int32) &&& 31)) &&& (255 : Int32))), (.int p4), (.int ((p1 >>> ((4 : Int32) &&& 31)) &&& (3 : Int32))), (.ref b1)])) _
          refine XS.i2c X55.here hx rfl (hb hby at_96) rfl ?_
          show Steps p.tables e below (T55.setTop (mkF m 97 #[.val (.int p0), .val (.int p1), .val (.int p2), .val (.int p3), .val (.int p4), .val (.int p5), .val (.int kk), .val (.ref b1), .val (.int (if (0 : Int64) = (0 : Int64) then (1 : Int32) else 0)), .unset] [(.int (((p5 >>> ((16 : Int32) &&& 31)) &&& (255 : Int32)).toUInt32.toUInt16.toUInt32.toInt32)), (.int p4), (.int ((p1 >>> ((4 : Int32) &&& 31)) &&& (3 : Int32))), (.ref b1)])) _
          refine st72 _ ?_
          show Steps p.tables e below (T72.setTop (mkF m 100 #[.val (.int p0), .val (.int p1), .val (.int p2), .val (.int p3), .val (.int p4), .val (.int p5), .val (.int kk), .val (.ref b1), .val (.int (if (0 : Int64) = (0 : Int64) then (1 : Int32) else 0)), .unset] [])) _
          refine XS.aload X72.here hx rfl (hb hby at_100) rfl rfl ?_
          show Steps p.tables e below (T72.setTop (mkF m 102 #[.val (.int p0), .val (.int p1), .val (.int p2), .val (.int p3), .val (.int p4), .val (.int p5), .val (.int kk), .val (.ref b1), .val (.int (if (0 : Int64) = (0 : Int64) then (1 : Int32) else 0)), .unset] [(.ref b1)])) _
          refine st74.trans ?_
          show Steps p.tables e below (T74.setTop (mkF m 105 #[.val (.int p0), .val (.int p1), .val (.int p2), .val (.int p3), .val (.int p4), .val (.int p5), .val (.int kk), .val (.ref b1), .val (.int (if (0 : Int64) = (0 : Int64) then (1 : Int32) else 0)), .unset] [(.int (if ((((0 : Int64) + (1 : Int64)) + (1 : Int64)) + (1 : Int64)) = (0 : Int64) then (1 : Int32) else 0))])) _
          refine XS.istore X74.here hx rfl (hb hby at_105) rfl (l' := #[.val (.int p0), .val (.int p1), .val (.int p2), .val (.int p3), .val (.int p4), .val (.int p5), .val (.int kk), .val (.ref b1), .val (.int (if (0 : Int64) = (0 : Int64) then (1 : Int32) else 0)), .val (.int (if ((((0 : Int64) + (1 : Int64)) + (1 : Int64)) + (1 : Int64)) = (0 : Int64) then (1 : Int32) else 0))]) rfl ?_
          show Steps p.tables e below (T74.setTop (mkF m 107 #[.val (.int p0), .val (.int p1), .val (.int p2), .val (.int p3), .val (.int p4), .val (.int p5), .val (.int kk), .val (.ref b1), .val (.int (if (0 : Int64) = (0 : Int64) then (1 : Int32) else 0)), .val (.int (if ((((0 : Int64) + (1 : Int64)) + (1 : Int64)) + (1 : Int64)) = (0 : Int64) then (1 : Int32) else 0))] [])) _
          refine XS.iload X74.here hx rfl (hb hby at_107) rfl ?_
          show Steps p.tables e below (T74.setTop (mkF m 109 #[.val (.int p0), .val (.int p1), .val (.int p2), .val (.int p3), .val (.int p4), .val (.int p5), .val (.int kk), .val (.ref b1), .val (.int (if (0 : Int64) = (0 : Int64) then (1 : Int32) else 0)), .val (.int (if ((((0 : Int64) + (1 : Int64)) + (1 : Int64)) + (1 : Int64)) = (0 : Int64) then (1 : Int32) else 0))] [(.int (if (0 : Int64) = (0 : Int64) then (1 : Int32) else 0))])) _
          refine XS.ifNo X74.here hx rfl (hb hby at_109) rfl ((if0 _ _).trans (feq (own_b10n (by decide))).1) ?_
          show Steps p.tables e below (T74.setTop (mkF m 112 #[.val (.int p0), .val (.int p1), .val (.int p2), .val (.int p3), .val (.int p4), .val (.int p5), .val (.int kk), .val (.ref b1), .val (.int (if (0 : Int64) = (0 : Int64) then (1 : Int32) else 0)), .val (.int (if ((((0 : Int64) + (1 : Int64)) + (1 : Int64)) + (1 : Int64)) = (0 : Int64) then (1 : Int32) else 0))] [])) _
          refine XS.iload X74.here hx rfl (hb hby at_112) rfl ?_
          show Steps p.tables e below (T74.setTop (mkF m 114 #[.val (.int p0), .val (.int p1), .val (.int p2), .val (.int p3), .val (.int p4), .val (.int p5), .val (.int kk), .val (.ref b1), .val (.int (if (0 : Int64) = (0 : Int64) then (1 : Int32) else 0)), .val (.int (if ((((0 : Int64) + (1 : Int64)) + (1 : Int64)) + (1 : Int64)) = (0 : Int64) then (1 : Int32) else 0))] [(.int (if ((((0 : Int64) + (1 : Int64)) + (1 : Int64)) + (1 : Int64)) = (0 : Int64) then (1 : Int32) else 0))])) _
          refine XS.iload X74.here hx rfl (hb hby at_114) rfl ?_
          show Steps p.tables e below (T74.setTop (mkF m 116 #[.val (.int p0), .val (.int p1), .val (.int p2), .val (.int p3), .val (.int p4), .val (.int p5), .val (.int kk), .val (.ref b1), .val (.int (if (0 : Int64) = (0 : Int64) then (1 : Int32) else 0)), .val (.int (if ((((0 : Int64) + (1 : Int64)) + (1 : Int64)) + (1 : Int64)) = (0 : Int64) then (1 : Int32) else 0))] [(.int kk), (.int (if ((((0 : Int64) + (1 : Int64)) + (1 : Int64)) + (1 : Int64)) = (0 : Int64) then (1 : Int32) else 0))])) _
          refine own_diaF X74.here hx rfl (pc0 := 116) rfl (hb hby at_116) (hb hby at_119) (hb hby at_120) (hb hby at_123) rfl (fun hq => ((if0 _ _).trans (teq hq).2)) (fun hq => ((if0 _ _).trans (feq hq).2)) ?_
          show Steps p.tables e below (T74.setTop (mkF m 124 #[.val (.int p0), .val (.int p1), .val (.int p2), .val (.int p3), .val (.int p4), .val (.int p5), .val (.int kk), .val (.ref b1), .val (.int (if (0 : Int64) = (0 : Int64) then (1 : Int32) else 0)), .val (.int (if ((((0 : Int64) + (1 : Int64)) + (1 : Int64)) + (1 : Int64)) = (0 : Int64) then (1 : Int32) else 0))] [(.int (if kk = (0 : Int32) then (1 : Int32) else 0)), (.int (if ((((0 : Int64) + (1 : Int64)) + (1 : Int64)) + (1 : Int64)) = (0 : Int64) then (1 : Int32) else 0))])) _
          refine XS.icmpNo X74.here hx rfl (hb hby at_124) rfl (teq hc124_76).2 ?_
          show Steps p.tables e below (T74.setTop (mkF m 127 #[.val (.int p0), .val (.int p1), .val (.int p2), .val (.int p3), .val (.int p4), .val (.int p5), .val (.int kk), .val (.ref b1), .val (.int (if (0 : Int64) = (0 : Int64) then (1 : Int32) else 0)), .val (.int (if ((((0 : Int64) + (1 : Int64)) + (1 : Int64)) + (1 : Int64)) = (0 : Int64) then (1 : Int32) else 0))] [])) _
          refine XS.iconst X74.here hx rfl (hb hby at_127) ?_
          show Steps p.tables e below (T74.setTop (mkF m 128 #[.val (.int p0), .val (.int p1), .val (.int p2), .val (.int p3), .val (.int p4), .val (.int p5), .val (.int kk), .val (.ref b1), .val (.int (if (0 : Int64) = (0 : Int64) then (1 : Int32) else 0)), .val (.int (if ((((0 : Int64) + (1 : Int64)) + (1 : Int64)) + (1 : Int64)) = (0 : Int64) then (1 : Int32) else 0))] [(.int (1 : Int32))])) _
          refine XS.goto X74.here hx rfl (pc0 := 128) (pc' := 132) rfl (hb hby at_128) (by decide) (by decide) ?_
          show Steps p.tables e below (T74.setTop (mkF m 132 #[.val (.int p0), .val (.int p1), .val (.int p2), .val (.int p3), .val (.int p4), .val (.int p5), .val (.int kk), .val (.ref b1), .val (.int (if (0 : Int64) = (0 : Int64) then (1 : Int32) else 0)), .val (.int (if ((((0 : Int64) + (1 : Int64)) + (1 : Int64)) + (1 : Int64)) = (0 : Int64) then (1 : Int32) else 0))] [(.int (1 : Int32))])) _
          exact retN X74 hx (t := .boolean) Bd.returns (by simp) (hb hby at_132) hr
        · show Q0 Z p0 p1 p2 p3 p4 p5 dd kd cs h0 n0 _ T74.heap _
          exact ⟨rfl, N74⟩
set_option maxRecDepth 65536 in
set_option maxHeartbeats 40000000 in
theorem comes_1 {Post : Tables → Env → Array Value → State → Outcome → State → Prop} (hpost : ∀ tb e args s v u, (limb_1_1.after args s (.returned v) u = true ∧ limb_1_2.after args s (.returned v) u = true ∧ True) → ReturnedEndW s (.returned v) u (Jvm.fieldLocs frame_1_writes args s ++ Jvm.arrayLocs frame_1_arrays args s ++ Jvm.staticLocs frame_1_statics s) 40 1216 → Post tb e args s (.returned v) u) :
    ArmFor flags0 classFile x code maxLocals ret World_1 tables_1 room_1 Calls_1 rest_1 Pre_1 Post := by
  intro l hfl _ _ p e ha hc hk s m args below hf hA hF happ hP
  obtain ⟨hcalls, hrest, hpre⟩ := hP
  obtain ⟨-, -, -, hnamed, -, -, -, hat⟩ := (Spec.applies_iff hf).mp happ
  obtain ⟨hg, hn⟩ := and_e (Cond.before_iff.mp (show (Jvm.Cond.and given_1 narrow_1).before args s = true from hpre))
  obtain ⟨g1, g2⟩ := and_e hg
  obtain ⟨g3, g4⟩ := and_e g2
  obtain ⟨g5, g6⟩ := and_e g4
  obtain ⟨g7, g8⟩ := and_e g6
  obtain ⟨g9, g10⟩ := and_e g8
  obtain ⟨g11, g12⟩ := and_e g10
  obtain ⟨w0, w1, w2, w3, w4, w5, rfl⟩ : ∃ w0 w1 w2 w3 w4 w5 : Value, args = #[w0, w1, w2, w3, w4, w5] := by
    have hs : args.size = 6 := by simpa [Cond.value, given_1] using g1
    obtain ⟨L⟩ := args
    match L, hs with
    | [w0, w1, w2, w3, w4, w5], _ => exact ⟨w0, w1, w2, w3, w4, w5, rfl⟩
  have hw := fun d (hd : d ∈ tables_1) => atoms_spec (ws := Jvm.Cond.code x code maxLocals ret :: tables_1) hat d (List.mem_cons_of_mem _ hd)
  have hfit : Fit s := fun {y c} hc i hi => by
    obtain ⟨ha, rfl⟩ := Array.getElem?_eq_some_iff.mp hc
    have q := List.all_eq_true.mp ((Array.all_eq_true_iff_forall_mem.mp hF) _ (Array.getElem_mem ha)) i (List.mem_range.mpr hi)
    simpa [Array.getElem?_eq_getElem hi] using q
  obtain ⟨hsets, hown0⟩ := atoms_of _ (rest_1_c_eq ▸ (show rest_1_c.before _ s = true from hrest))
  have hr0 := Cond.before_iff.mp hown0
  obtain ⟨i0, ei0⟩ := is_v g3
  obtain rfl : w0 = (.int i0) := Option.some.inj ei0
  obtain ⟨i1, ei1⟩ := is_v g5
  obtain rfl : w1 = (.int i1) := Option.some.inj ei1
  obtain ⟨i2, ei2⟩ := is_v g7
  obtain rfl : w2 = (.int i2) := Option.some.inj ei2
  obtain ⟨i3, ei3⟩ := is_v g9
  obtain rfl : w3 = (.int i3) := Option.some.inj ei3
  obtain ⟨i4, ei4⟩ := is_v g11
  obtain rfl : w4 = (.int i4) := Option.some.inj ei4
  obtain ⟨i5, ei5⟩ := is_v g12
  obtain rfl : w5 = (.int i5) := Option.some.inj ei5
  have hs6 := Cond.before_iff.mp (hsets _ (List.mem_of_getElem? (i := 6) rfl))
  obtain ⟨dd, hdd⟩ := arr_v hs6
  have SDD : Sta s s.heap "java/util/ArrayList" "DEFAULTCAPACITY_EMPTY_ELEMENTDATA" "[Ljava/lang/Object;" (.ref dd) := Sta.start hdd (Or.inr ⟨hw _ (List.mem_of_getElem? (i := 19) rfl), hsets _ (List.mem_of_getElem? (i := 2) rfl)⟩)
  obtain ⟨cd, Acd⟩ := Arr.start hdd hs6
  have VDD : Arv s s.heap dd cd.cls (.object "java/lang/Object") (0 : Int32) [] .null := own_empty hfit hdd Acd (Cond.before_iff.mp (hsets _ (List.mem_of_getElem? (i := 8) rfl)))
  obtain ⟨cs, hcs⟩ := is_v (Cond.before_iff.mp (hsets _ (List.mem_of_getElem? (i := 10) rfl)))
  have SCS : Sta s s.heap "java/lang/String" "COMPACT_STRINGS" "Z" (.int cs) := Sta.start hcs (Or.inl (hsets _ (List.mem_of_getElem? (i := 9) rfl)))
  have hcs0 : ¬ cs = (0 : Int32) := own_nez hcs (Cond.before_iff.mp (hsets _ (List.mem_of_getElem? (i := 11) rfl)))
  obtain ⟨n, o, h1, h2, h3, _, L, rfl, ⟨rfl, N⟩, hq⟩ := rm0 l s _ hw tables_1 i0 i1 i2 i3 i4 i5 dd cd.cls cs s.heap s.heap.size (Nat.le_refl _) SDD VDD SCS hcs0 p e ha hc hk s m _ below hf ((Spec.applies_iff_loose hf).mp happ).1 ⟨rfl, State.Warmed39.refl s, rfl⟩ trivial
  refine ⟨n, _, h1, h2, h3, hpost _ _ _ _ _ _ ⟨Cond.after_iff.mpr rfl, Cond.after_iff.mpr (eq_i res_at (Term.int_eval (1)) rfl), trivial⟩ ⟨hq.1, hq.2.1, hq.2.2.1, (hq.2.2.2.sift fun y hy => Or.inr (N y hy)).mono (by decide) (by decide)⟩⟩
theorem main_1_1 : Claimed_1_1 := comes_1 fun _ _ _ _ _ _ h hF => ⟨h.1, hF⟩
theorem main_1_2 : Claimed_1_2 := comes_1 fun _ _ _ _ _ _ h hF => ⟨h.2.1, hF⟩
end Jvm.Pilot.@@N@@
namespace Jvm.Pilot.@@N@@
open Jvm Jvm.ClassFile Sem Op Lib Jvm.Free Jvm.Stand Jvm.Pilot.@@N@@.Jvm.D
/-! MADE BY PROGRAM (witnessworld.py) out of the Statement's table words and the real class files: 30 classes; the members and pool entries that the words name. The judged class is class 1, her method 2. -/
namespace start1
open Jvm.ClassFile
def u (s : String) : CpInfo := .utf8 (stringToUtf16 s)
/-- a pool by its gaps: so many unusable entries, then the entry; so many at the end -/
def gap : Nat → List CpInfo → List CpInfo
  | 0, r => r
  | n + 1, r => .unusable :: gap n r
def poolList (es : List (Nat × CpInfo)) (last : Nat) : List CpInfo := es.foldr (fun e r => gap e.1 (e.2 :: r)) (gap last [])
def pool (es : List (Nat × CpInfo)) (last : Nat) : Array CpInfo := ⟨poolList es last⟩
def fileOf (pool : Array CpInfo) (this : Nat) (attrs : Array Attribute := #[]) (ms : Array MethodInfo := #[]) (fl : Nat := 33) (sup : Nat := 0) (ifs : Array Nat := #[]) (fds : Array FieldInfo := #[]) : ClassFile where
  minorVersion := 0
  majorVersion := 65
  constantPool := pool
  accessFlags := fl
  thisClass := this
  superClass := sup
  interfaces := ifs
  fields := fds
  methods := ms
  attributes := attrs
def plain (name : String) (sup : Option ClassId) : Class where
  name := name
  kind := .ordinary
  loader := none
  accessFlags := 33
  super := sup
  interfaces := #[]
  cf := none
  fields := #[]
  methods := #[]
  instanceTypes := #[]
  staticTypes := #[]
  resolved := #[]
  callSites := []
  init := .initialized
  statics := none
  mirror := none

def pool0 : Array CpInfo := pool [(5, u "<init>"), (0, u "()V"), (1, .class_ 10), (1, u "java/lang/Object")] 113

def k0c0 : Code := { maxStack := 0, maxLocals := 1, code := object_method_1_code, exceptionTable := #[], attributes := #[] }
def k0m0 : Method := { name := "<init>", desc := "()V", sig := { parameters := [], returnType := none }, accessFlags := 1, code := some k0c0 }
/-- java/lang/Object -/
def k0 : Class := { plain "java/lang/Object" none with
  accessFlags := 33
  interfaces := #[]
  cf := some (fileOf pool0 8 #[] #[{ accessFlags := 1, nameIndex := 5, descriptorIndex := 6, attributes := #[] }] 33 0 #[] #[])
  fields := #[]
  methods := #[k0m0]
  instanceTypes := #[]
  staticTypes := #[]
  resolved := Array.replicate 124 none
  statics := none }

def pool1 : Array CpInfo := pool [(2, .class_ 4), (1, u "java/lang/Object"), (0, u "<init>"), (0, u "()V"), (0, .methodref 8 9), (0, .class_ 10), (0, .nameAndType 11 12), (0, u "java/lang/String"), (0, u "valueOf"), (0, u "(C)Ljava/lang/String;"), (0, .methodref 14 15), (0, .class_ 16), (0, .nameAndType 17 18), (0, u "com/example/tierline/tierline/csv/LineProblems"), (0, u "addAheadOnLine"), (0, u "(ILjava/lang/String;)V"), (0, .methodref 14 20), (0, .nameAndType 21 18), (0, u "addConflict"), (0, .methodref 14 23), (0, .nameAndType 24 18), (0, u "add"), (0, .string 26), (0, u "f"), (0, .methodref 14 28), (0, .nameAndType 5 29), (0, u "(Ljava/lang/String;)V"), (0, .methodref 14 31), (0, .nameAndType 32 33), (0, u "isEmpty"), (0, u "()Z"), (0, .methodref 35 36), (0, .class_ 37), (0, .nameAndType 38 39), (0, u "com/example/tierline/tierline/csv/LineProblemsIsEmptyPinLaw"), (0, u "addOne"), (0, u "(Lcom/example/tierline/tierline/csv/LineProblems;IIC)V"), (3, u "law"), (0, u "(IIIIII)Z")] 2

def k1m0 : Method := { name := "<init>", desc := "()V", sig := { parameters := [], returnType := none }, accessFlags := 1, code := none }
def k1c1 : Code := { maxStack := 3, maxLocals := 5, code := method_2_code, exceptionTable := #[], attributes := #[] }
def k1m1 : Method := { name := "addOne", desc := "(Lcom/example/tierline/tierline/csv/LineProblems;IIC)V", sig := { parameters := [(.object "com/example/tierline/tierline/csv/LineProblems"), .int, .int, .char], returnType := none }, accessFlags := 10, code := some k1c1 }
def k1c2 : Code := { maxStack := 5, maxLocals := 10, code := code, exceptionTable := #[], attributes := #[] }
def k1m2 : Method := { name := "law", desc := "(IIIIII)Z", sig := { parameters := [.int, .int, .int, .int, .int, .int], returnType := some .boolean }, accessFlags := 9, code := some k1c2 }
/-- com/example/tierline/tierline/csv/LineProblemsIsEmptyPinLaw -/
def k1 : Class := { plain "com/example/tierline/tierline/csv/LineProblemsIsEmptyPinLaw" (some 0) with
  accessFlags := 49
  interfaces := #[]
  cf := some (fileOf pool1 35 #[] #[{ accessFlags := 1, nameIndex := 5, descriptorIndex := 6, attributes := #[] }, { accessFlags := 10, nameIndex := 38, descriptorIndex := 39, attributes := #[] }, { accessFlags := 9, nameIndex := 43, descriptorIndex := 44, attributes := #[] }] 49 2 #[] #[])
  fields := #[]
  methods := #[k1m0, k1m1, k1m2]
  instanceTypes := #[]
  staticTypes := #[]
  resolved := Array.replicate 47 none
  statics := none }

def pool2 : Array CpInfo := pool [(1, .methodref 2 3), (0, .class_ 4), (0, .nameAndType 5 6), (0, u "java/lang/Object"), (0, u "<init>"), (0, u "()V"), (0, .class_ 8), (0, u "java/util/ArrayList"), (0, .methodref 7 3), (0, .fieldref 11 12), (0, .class_ 13), (0, .nameAndType 14 15), (0, u "com/example/tierline/tierline/csv/LineProblems"), (0, u "listed"), (0, u "Ljava/util/List;"), (0, .fieldref 11 17), (0, .nameAndType 18 19), (0, u "file"), (0, u "Ljava/lang/String;"), (0, .class_ 21), (0, u "com/example/tierline/tierline/csv/LineProblems$Problem"), (0, .methodref 20 23), (0, .nameAndType 5 24), (0, u "(ILjava/lang/String;Z)V"), (0, .methodref 11 26), (0, .nameAndType 27 28), (0, u "add"), (0, u "(Lcom/example/tierline/tierline/csv/LineProblems$Problem;Z)V"), (0, .fieldref 11 30), (0, .nameAndType 31 32), (0, u "count"), (0, u "J"), (0, .interfaceMethodref 34 35), (0, .class_ 36), (0, .nameAndType 37 38), (0, u "java/util/List"), (0, u "size"), (0, u "()I"), (0, .interfaceMethodref 34 40), (0, .nameAndType 41 42), (0, u "get"), (0, u "(I)Ljava/lang/Object;"), (0, .methodref 11 44), (0, .nameAndType 45 46), (0, u "listsAfter"), (0, u "(Lcom/example/tierline/tierline/csv/LineProblems$Problem;Lcom/example/tierline/tierline/csv/LineProblems$Problem;Z)Z"), (0, .interfaceMethodref 34 48), (0, .nameAndType 27 49), (0, u "(ILjava/lang/Object;)V"), (3, .fieldref 20 54), (0, .nameAndType 55 56), (0, u "conflict"), (0, u "Z"), (0, .fieldref 20 58), (0, .nameAndType 59 60), (0, u "line"), (0, u "I"), (56, u "LISTED"), (4, u "(Ljava/lang/String;)V"), (2, u "(ILjava/lang/String;)V"), (0, u "addAheadOnLine"), (0, u "addConflict"), (1, u "isEmpty"), (0, u "()Z")] 48

def k2c0 : Code := { maxStack := 3, maxLocals := 2, code := prog_48_method_1_code, exceptionTable := #[], attributes := #[] }
def k2m0 : Method := { name := "<init>", desc := "(Ljava/lang/String;)V", sig := { parameters := [(.object "java/lang/String")], returnType := none }, accessFlags := 1, code := some k2c0 }
def k2c1 : Code := { maxStack := 6, maxLocals := 3, code := prog_48_method_2_code, exceptionTable := #[], attributes := #[] }
def k2m1 : Method := { name := "add", desc := "(ILjava/lang/String;)V", sig := { parameters := [.int, (.object "java/lang/String")], returnType := none }, accessFlags := 1, code := some k2c1 }
def k2c2 : Code := { maxStack := 6, maxLocals := 3, code := prog_48_method_3_code, exceptionTable := #[], attributes := #[] }
def k2m2 : Method := { name := "addAheadOnLine", desc := "(ILjava/lang/String;)V", sig := { parameters := [.int, (.object "java/lang/String")], returnType := none }, accessFlags := 1, code := some k2c2 }
def k2c3 : Code := { maxStack := 6, maxLocals := 3, code := prog_48_method_4_code, exceptionTable := #[], attributes := #[] }
def k2m3 : Method := { name := "addConflict", desc := "(ILjava/lang/String;)V", sig := { parameters := [.int, (.object "java/lang/String")], returnType := none }, accessFlags := 1, code := some k2c3 }
def k2c4 : Code := { maxStack := 5, maxLocals := 4, code := prog_48_method_5_code, exceptionTable := #[], attributes := #[] }
def k2m4 : Method := { name := "add", desc := "(Lcom/example/tierline/tierline/csv/LineProblems$Problem;Z)V", sig := { parameters := [(.object "com/example/tierline/tierline/csv/LineProblems$Problem"), .boolean], returnType := none }, accessFlags := 2, code := some k2c4 }
def k2c5 : Code := { maxStack := 2, maxLocals := 3, code := prog_48_method_6_code, exceptionTable := #[], attributes := #[] }
def k2m5 : Method := { name := "listsAfter", desc := "(Lcom/example/tierline/tierline/csv/LineProblems$Problem;Lcom/example/tierline/tierline/csv/LineProblems$Problem;Z)Z", sig := { parameters := [(.object "com/example/tierline/tierline/csv/LineProblems$Problem"), (.object "com/example/tierline/tierline/csv/LineProblems$Problem"), .boolean], returnType := some .boolean }, accessFlags := 10, code := some k2c5 }
def k2c6 : Code := { maxStack := 4, maxLocals := 1, code := prog_48_method_7_code, exceptionTable := #[], attributes := #[] }
def k2m6 : Method := { name := "isEmpty", desc := "()Z", sig := { parameters := [], returnType := some .boolean }, accessFlags := 1, code := some k2c6 }
/-- com/example/tierline/tierline/csv/LineProblems -/
def k2 : Class := { plain "com/example/tierline/tierline/csv/LineProblems" (some 0) with
  accessFlags := 49
  interfaces := #[]
  cf := some (fileOf pool2 11 #[.nestMembers #[20]] #[{ accessFlags := 1, nameIndex := 5, descriptorIndex := 122, attributes := #[] }, { accessFlags := 1, nameIndex := 27, descriptorIndex := 125, attributes := #[] }, { accessFlags := 1, nameIndex := 126, descriptorIndex := 125, attributes := #[] }, { accessFlags := 1, nameIndex := 127, descriptorIndex := 125, attributes := #[] }, { accessFlags := 2, nameIndex := 27, descriptorIndex := 28, attributes := #[] }, { accessFlags := 10, nameIndex := 45, descriptorIndex := 46, attributes := #[] }, { accessFlags := 1, nameIndex := 129, descriptorIndex := 130, attributes := #[] }] 49 2 #[] #[{ accessFlags := 25, nameIndex := 117, descriptorIndex := 60, attributes := #[] }, { accessFlags := 18, nameIndex := 18, descriptorIndex := 19, attributes := #[] }, { accessFlags := 18, nameIndex := 14, descriptorIndex := 15, attributes := #[] }, { accessFlags := 2, nameIndex := 31, descriptorIndex := 32, attributes := #[] }])
  fields := #[{ name := "LISTED", type := .int, accessFlags := 25, slot := 0, constantValue := 0 }, { name := "file", type := (.object "java/lang/String"), accessFlags := 18, slot := 0, constantValue := 0 }, { name := "listed", type := (.object "java/util/List"), accessFlags := 18, slot := 1, constantValue := 0 }, { name := "count", type := .long, accessFlags := 2, slot := 2, constantValue := 0 }]
  methods := #[k2m0, k2m1, k2m2, k2m3, k2m4, k2m5, k2m6]
  instanceTypes := #[(.object "java/lang/String"), (.object "java/util/List"), .long]
  staticTypes := #[.int]
  resolved := (((((Array.replicate 179 none).setIfInBounds 20 (some (.cls 19))).setIfInBounds 22 (some (.method ⟨19, 0⟩))).setIfInBounds 53 (some (.field 19 2))).setIfInBounds 57 (some (.field 19 0)))
  statics := none }

def pool3 : Array CpInfo := pool [(1, .class_ 2), (0, u "java/io/Serializable"), (0, .class_ 4), (0, u "java/lang/Object")] 2

/-- java/io/Serializable -/
def k3 : Class := { plain "java/io/Serializable" (some 0) with
  accessFlags := 1537
  interfaces := #[]
  cf := some (fileOf pool3 1 #[] #[] 1537 3 #[] #[])
  fields := #[]
  methods := #[]
  instanceTypes := #[]
  staticTypes := #[]
  resolved := Array.replicate 7 none
  statics := none }

def pool4 : Array CpInfo := pool [(1, .class_ 2), (0, u "java/lang/Comparable"), (0, .class_ 4), (0, u "java/lang/Object")] 7

/-- java/lang/Comparable -/
def k4 : Class := { plain "java/lang/Comparable" (some 0) with
  accessFlags := 1537
  interfaces := #[]
  cf := some (fileOf pool4 1 #[] #[] 1537 3 #[] #[])
  fields := #[]
  methods := #[]
  instanceTypes := #[]
  staticTypes := #[]
  resolved := Array.replicate 12 none
  statics := none }

def pool5 : Array CpInfo := pool [(2, .class_ 4), (1, u "java/lang/CharSequence"), (42, .class_ 48), (0, u "java/lang/CharSequence$1CodePointIterator"), (10, .class_ 60), (0, u "java/lang/CharSequence$1CharIterator"), (5, .class_ 67), (0, u "java/lang/Object")] 63

/-- java/lang/CharSequence -/
def k5 : Class := { plain "java/lang/CharSequence" (some 0) with
  accessFlags := 1537
  interfaces := #[]
  cf := some (fileOf pool5 2 #[.nestMembers #[47, 59]] #[] 1537 66 #[] #[])
  fields := #[]
  methods := #[]
  instanceTypes := #[]
  staticTypes := #[]
  resolved := Array.replicate 131 none
  statics := none }

def pool6 : Array CpInfo := pool [(1, .class_ 2), (0, u "java/lang/constant/Constable"), (0, .class_ 4), (0, u "java/lang/Object")] 6

/-- java/lang/constant/Constable -/
def k6 : Class := { plain "java/lang/constant/Constable" (some 0) with
  accessFlags := 1537
  interfaces := #[]
  cf := some (fileOf pool6 1 #[] #[] 1537 3 #[] #[])
  fields := #[]
  methods := #[]
  instanceTypes := #[]
  staticTypes := #[]
  resolved := Array.replicate 11 none
  statics := none }

def pool7 : Array CpInfo := pool [(1, .class_ 2), (0, u "java/lang/constant/ConstantDesc"), (0, .class_ 4), (0, u "java/lang/Object")] 32

/-- java/lang/constant/ConstantDesc -/
def k7 : Class := { plain "java/lang/constant/ConstantDesc" (some 0) with
  accessFlags := 1537
  interfaces := #[]
  cf := some (fileOf pool7 1 #[] #[] 1537 3 #[] #[])
  fields := #[]
  methods := #[]
  instanceTypes := #[]
  staticTypes := #[]
  resolved := Array.replicate 37 none
  statics := none }

def pool8 : Array CpInfo := pool [(1, .methodref 2 3), (0, .class_ 4), (0, .nameAndType 5 6), (0, u "java/lang/Object"), (0, u "<init>"), (0, u "()V"), (2, .fieldref 10 11), (0, .class_ 12), (0, .nameAndType 13 14), (0, u "java/lang/String"), (0, u "value"), (0, u "[B"), (0, .fieldref 10 16), (0, .nameAndType 17 18), (0, u "coder"), (0, u "B"), (2, u "hash"), (0, u "I"), (2, u "hashIsZero"), (0, u "Z"), (11, .fieldref 10 39), (0, .nameAndType 40 26), (0, u "COMPACT_STRINGS"), (12, u "toBytes"), (53, .class_ 109), (1, u "java/lang/StringLatin1"), (99, .methodref 10 210), (0, .nameAndType 5 211), (0, u "([BB)V"), (157, u "(C)Z"), (205, .class_ 576), (0, u "java/lang/CharSequence"), (22, u "CASE_INSENSITIVE_ORDER"), (0, u "Ljava/util/Comparator;"), (181, u "valueOf"), (0, u "(C)Ljava/lang/String;"), (231, .methodref 107 1016), (0, .nameAndType 1017 369), (0, u "canEncode"), (0, .methodref 107 1019), (0, .nameAndType 53 1020), (0, u "(C)[B"), (80, u "serialPersistentFields"), (0, u "[Ljava/io/ObjectStreamField;"), (0, .class_ 1104), (0, u "java/lang/String$CaseInsensitiveComparator"), (1, .class_ 1107), (0, u "java/io/Serializable"), (0, .class_ 1109), (0, u "java/lang/Comparable"), (0, .class_ 1111), (0, u "java/lang/constant/Constable"), (0, .class_ 1113), (0, u "java/lang/constant/ConstantDesc"), (2, u "serialVersionUID"), (0, u "J"), (3, u "REPL"), (0, u "C"), (2, u "LATIN1"), (1, u "UTF16")] 323

def k8m0 : Method := { name := "<init>", desc := "()V", sig := { parameters := [], returnType := none }, accessFlags := 1, code := none }
def k8c1 : Code := { maxStack := 4, maxLocals := 1, code := jdk_42_method_139_code, exceptionTable := #[], attributes := #[] }
def k8m1 : Method := { name := "valueOf", desc := "(C)Ljava/lang/String;", sig := { parameters := [.char], returnType := some (.object "java/lang/String") }, accessFlags := 9, code := some k8c1 }
def k8c2 : Code := { maxStack := 2, maxLocals := 3, code := jdk_42_method_151_code, exceptionTable := #[], attributes := #[] }
def k8m2 : Method := { name := "<init>", desc := "([BB)V", sig := { parameters := [(.array .byte), .byte], returnType := none }, accessFlags := 0, code := some k8c2 }
/-- java/lang/String -/
def k8 : Class := { plain "java/lang/String" (some 0) with
  accessFlags := 49
  interfaces := #[3, 4, 5, 6, 7]
  cf := some (fileOf pool8 10 #[.nestMembers #[1103]] #[{ accessFlags := 1, nameIndex := 5, descriptorIndex := 6, attributes := #[] }, { accessFlags := 9, nameIndex := 782, descriptorIndex := 783, attributes := #[] }, { accessFlags := 0, nameIndex := 5, descriptorIndex := 211, attributes := #[] }] 49 2 #[1106, 1108, 575, 1110, 1112] #[{ accessFlags := 18, nameIndex := 13, descriptorIndex := 14, attributes := #[] }, { accessFlags := 18, nameIndex := 17, descriptorIndex := 18, attributes := #[] }, { accessFlags := 2, nameIndex := 21, descriptorIndex := 22, attributes := #[] }, { accessFlags := 2, nameIndex := 25, descriptorIndex := 26, attributes := #[] }, { accessFlags := 26, nameIndex := 1116, descriptorIndex := 1117, attributes := #[] }, { accessFlags := 24, nameIndex := 40, descriptorIndex := 26, attributes := #[] }, { accessFlags := 26, nameIndex := 1101, descriptorIndex := 1102, attributes := #[] }, { accessFlags := 26, nameIndex := 1121, descriptorIndex := 1122, attributes := #[] }, { accessFlags := 25, nameIndex := 599, descriptorIndex := 600, attributes := #[] }, { accessFlags := 24, nameIndex := 1125, descriptorIndex := 18, attributes := #[] }, { accessFlags := 24, nameIndex := 1127, descriptorIndex := 18, attributes := #[] }])
  fields := #[{ name := "value", type := (.array .byte), accessFlags := 18, slot := 0, constantValue := 0 }, { name := "coder", type := .byte, accessFlags := 18, slot := 1, constantValue := 0 }, { name := "hash", type := .int, accessFlags := 2, slot := 2, constantValue := 0 }, { name := "hashIsZero", type := .boolean, accessFlags := 2, slot := 3, constantValue := 0 }, { name := "serialVersionUID", type := .long, accessFlags := 26, slot := 0, constantValue := 0 }, { name := "COMPACT_STRINGS", type := .boolean, accessFlags := 24, slot := 1, constantValue := 0 }, { name := "serialPersistentFields", type := (.array (.object "java/io/ObjectStreamField")), accessFlags := 26, slot := 2, constantValue := 0 }, { name := "REPL", type := .char, accessFlags := 26, slot := 3, constantValue := 0 }, { name := "CASE_INSENSITIVE_ORDER", type := (.object "java/util/Comparator"), accessFlags := 25, slot := 4, constantValue := 0 }, { name := "LATIN1", type := .byte, accessFlags := 24, slot := 5, constantValue := 0 }, { name := "UTF16", type := .byte, accessFlags := 24, slot := 6, constantValue := 0 }]
  methods := #[k8m0, k8m1, k8m2]
  instanceTypes := #[(.array .byte), .byte, .int, .boolean]
  staticTypes := #[.long, .boolean, (.array (.object "java/io/ObjectStreamField")), .char, (.object "java/util/Comparator"), .byte, .byte]
  resolved := Array.replicate 1451 none
  statics := some 0 }

def pool9 : Array CpInfo := pool [(8, .class_ 10), (1, u "java/lang/Iterable"), (24, .class_ 36), (0, u "java/lang/Object")] 25

/-- java/lang/Iterable -/
def k9 : Class := { plain "java/lang/Iterable" (some 0) with
  accessFlags := 1537
  interfaces := #[]
  cf := some (fileOf pool9 8 #[] #[] 1537 35 #[] #[])
  fields := #[]
  methods := #[]
  instanceTypes := #[]
  staticTypes := #[]
  resolved := Array.replicate 62 none
  statics := none }

def pool10 : Array CpInfo := pool [(10, .class_ 12), (1, u "java/util/Collection"), (47, .class_ 61), (0, u "java/lang/Object"), (0, .class_ 63), (0, u "java/lang/Iterable")] 51

/-- java/util/Collection -/
def k10 : Class := { plain "java/util/Collection" (some 0) with
  accessFlags := 1537
  interfaces := #[9]
  cf := some (fileOf pool10 10 #[] #[] 1537 60 #[62] #[])
  fields := #[]
  methods := #[]
  instanceTypes := #[]
  staticTypes := #[]
  resolved := Array.replicate 115 none
  statics := none }

def pool11 : Array CpInfo := pool [(1, .methodref 2 3), (0, .class_ 4), (0, .nameAndType 5 6), (0, u "java/lang/Object"), (0, u "<init>"), (0, u "()V"), (1, .class_ 10), (1, u "java/util/AbstractCollection"), (66, .class_ 78), (0, u "java/util/Collection")] 81

def k11c0 : Code := { maxStack := 1, maxLocals := 1, code := jdk_22_method_1_code, exceptionTable := #[], attributes := #[] }
def k11m0 : Method := { name := "<init>", desc := "()V", sig := { parameters := [], returnType := none }, accessFlags := 4, code := some k11c0 }
/-- java/util/AbstractCollection -/
def k11 : Class := { plain "java/util/AbstractCollection" (some 0) with
  accessFlags := 1057
  interfaces := #[10]
  cf := some (fileOf pool11 8 #[] #[{ accessFlags := 4, nameIndex := 5, descriptorIndex := 6, attributes := #[] }] 1057 2 #[77] #[])
  fields := #[]
  methods := #[k11m0]
  instanceTypes := #[]
  staticTypes := #[]
  resolved := Array.replicate 160 none
  statics := none }

def pool12 : Array CpInfo := pool [(8, .class_ 10), (1, u "java/util/SequencedCollection"), (15, .class_ 27), (0, u "java/lang/Object"), (0, .class_ 29), (0, u "java/util/Collection")] 27

/-- java/util/SequencedCollection -/
def k12 : Class := { plain "java/util/SequencedCollection" (some 0) with
  accessFlags := 1537
  interfaces := #[10]
  cf := some (fileOf pool12 8 #[] #[] 1537 26 #[28] #[])
  fields := #[]
  methods := #[]
  instanceTypes := #[]
  staticTypes := #[]
  resolved := Array.replicate 57 none
  statics := none }

def pool13 : Array CpInfo := pool [(8, .class_ 10), (1, u "java/util/List"), (49, u "add"), (0, u "(ILjava/lang/Object;)V"), (13, u "get"), (0, u "(I)Ljava/lang/Object;"), (2, u "size"), (0, u "()I"), (22, .class_ 104), (0, u "java/lang/Object"), (15, .class_ 121), (0, u "java/util/SequencedCollection")] 129

def k13m0 : Method := { name := "size", desc := "()I", sig := { parameters := [], returnType := some .int }, accessFlags := 1025, code := none }
def k13m1 : Method := { name := "get", desc := "(I)Ljava/lang/Object;", sig := { parameters := [.int], returnType := some (.object "java/lang/Object") }, accessFlags := 1025, code := none }
def k13m2 : Method := { name := "add", desc := "(ILjava/lang/Object;)V", sig := { parameters := [.int, (.object "java/lang/Object")], returnType := none }, accessFlags := 1025, code := none }
/-- java/util/List -/
def k13 : Class := { plain "java/util/List" (some 0) with
  accessFlags := 1537
  interfaces := #[12]
  cf := some (fileOf pool13 8 #[] #[{ accessFlags := 1025, nameIndex := 79, descriptorIndex := 80, attributes := #[] }, { accessFlags := 1025, nameIndex := 75, descriptorIndex := 76, attributes := #[] }, { accessFlags := 1025, nameIndex := 60, descriptorIndex := 61, attributes := #[] }] 1537 103 #[120] #[])
  fields := #[]
  methods := #[k13m0, k13m1, k13m2]
  instanceTypes := #[]
  staticTypes := #[]
  resolved := Array.replicate 251 none
  statics := none }

def pool14 : Array CpInfo := pool [(1, .methodref 2 3), (0, .class_ 4), (0, .nameAndType 5 6), (0, u "java/util/AbstractCollection"), (0, u "<init>"), (0, u "()V"), (0, .fieldref 8 9), (0, .class_ 10), (0, .nameAndType 11 12), (0, u "java/util/AbstractList"), (0, u "modCount"), (0, u "I"), (64, .class_ 78), (0, u "java/util/AbstractList$Itr"), (3, .class_ 83), (0, u "java/util/AbstractList$ListItr"), (9, .class_ 94), (0, u "java/util/AbstractList$RandomAccessSubList"), (3, .class_ 99), (0, u "java/util/AbstractList$SubList"), (33, .class_ 134), (0, u "java/util/List"), (73, .class_ 209), (0, u "java/util/AbstractList$SubList$1"), (0, .class_ 211), (0, u "java/util/AbstractList$RandomAccessSpliterator")] 6

def k14c0 : Code := { maxStack := 2, maxLocals := 1, code := jdk_39_method_1_code, exceptionTable := #[], attributes := #[] }
def k14m0 : Method := { name := "<init>", desc := "()V", sig := { parameters := [], returnType := none }, accessFlags := 4, code := some k14c0 }
/-- java/util/AbstractList -/
def k14 : Class := { plain "java/util/AbstractList" (some 11) with
  accessFlags := 1057
  interfaces := #[13]
  cf := some (fileOf pool14 8 #[.nestMembers #[93, 98, 208, 210, 82, 77]] #[{ accessFlags := 4, nameIndex := 5, descriptorIndex := 6, attributes := #[] }] 1057 2 #[133] #[{ accessFlags := 132, nameIndex := 11, descriptorIndex := 12, attributes := #[] }])
  fields := #[{ name := "modCount", type := .int, accessFlags := 132, slot := 0, constantValue := 0 }]
  methods := #[k14m0]
  instanceTypes := #[.int]
  staticTypes := #[]
  resolved := Array.replicate 218 none
  statics := none }

def pool15 : Array CpInfo := pool [(1, .class_ 2), (0, u "java/util/RandomAccess"), (0, .class_ 4), (0, u "java/lang/Object")] 2

/-- java/util/RandomAccess -/
def k15 : Class := { plain "java/util/RandomAccess" (some 0) with
  accessFlags := 1537
  interfaces := #[]
  cf := some (fileOf pool15 1 #[] #[] 1537 3 #[] #[])
  fields := #[]
  methods := #[]
  instanceTypes := #[]
  staticTypes := #[]
  resolved := Array.replicate 7 none
  statics := none }

def pool16 : Array CpInfo := pool [(1, .class_ 2), (0, u "java/lang/Cloneable"), (0, .class_ 4), (0, u "java/lang/Object")] 2

/-- java/lang/Cloneable -/
def k16 : Class := { plain "java/lang/Cloneable" (some 0) with
  accessFlags := 1537
  interfaces := #[]
  cf := some (fileOf pool16 1 #[] #[] 1537 3 #[] #[])
  fields := #[]
  methods := #[]
  instanceTypes := #[]
  staticTypes := #[]
  resolved := Array.replicate 7 none
  statics := none }

def pool17 : Array CpInfo := pool [(1, .methodref 2 3), (0, .class_ 4), (0, .nameAndType 5 6), (0, u "java/util/AbstractList"), (0, u "<init>"), (0, u "()V"), (0, .class_ 8), (0, u "java/lang/Object"), (0, .fieldref 10 11), (0, .class_ 12), (0, .nameAndType 13 14), (0, u "java/util/ArrayList"), (0, u "elementData"), (0, u "[Ljava/lang/Object;"), (2, u "EMPTY_ELEMENTDATA"), (21, .fieldref 10 40), (0, .nameAndType 41 14), (0, u "DEFAULTCAPACITY_EMPTY_ELEMENTDATA"), (5, u "()[Ljava/lang/Object;"), (0, .fieldref 10 49), (0, .nameAndType 50 51), (0, u "size"), (0, u "I"), (11, .fieldref 10 64), (0, .nameAndType 65 51), (0, u "modCount"), (3, .methodref 10 70), (0, .nameAndType 71 72), (0, u "grow"), (0, u "(I)[Ljava/lang/Object;"), (6, .methodref 80 81), (0, .class_ 82), (0, .nameAndType 83 84), (0, u "java/lang/Math"), (0, u "max"), (0, u "(II)I"), (27, .methodref 113 114), (0, .class_ 115), (0, .nameAndType 116 117), (0, u "java/lang/System"), (0, u "arraycopy"), (0, u "(Ljava/lang/Object;ILjava/lang/Object;II)V"), (0, .methodref 119 120), (0, .class_ 121), (0, .nameAndType 122 84), (0, u "java/util/Objects"), (0, u "checkIndex"), (0, .methodref 10 124), (0, .nameAndType 13 125), (0, u "(I)Ljava/lang/Object;"), (3, .methodref 10 130), (0, .nameAndType 71 47), (2, u "add"), (1, .methodref 10 136), (0, .nameAndType 137 138), (0, u "rangeCheckForAdd"), (0, u "(I)V"), (2, u "(ILjava/lang/Object;)V"), (6, .class_ 149), (0, u "java/util/List"), (36, u "()I"), (75, .class_ 263), (0, u "java/util/ArrayList$ListItr"), (3, .class_ 268), (0, u "java/util/ArrayList$Itr"), (7, .class_ 277), (0, u "java/util/ArrayList$SubList"), (12, .class_ 291), (0, u "java/util/ArrayList$ArrayListSpliterator"), (37, .class_ 330), (0, u "java/util/RandomAccess"), (0, .class_ 332), (0, u "java/lang/Cloneable"), (0, .class_ 334), (0, u "java/io/Serializable"), (0, u "serialVersionUID"), (0, u "J"), (3, u "DEFAULT_CAPACITY"), (40, u "get"), (118, .class_ 501), (0, u "java/util/ArrayList$SubList$2"), (0, .class_ 503), (0, u "java/util/ArrayList$SubList$1")] 5

def k17c0 : Code := { maxStack := 2, maxLocals := 1, code := jdk_38_method_2_code, exceptionTable := #[], attributes := #[] }
def k17m0 : Method := { name := "<init>", desc := "()V", sig := { parameters := [], returnType := none }, accessFlags := 1, code := some k17c0 }
def k17c1 : Code := { maxStack := 4, maxLocals := 4, code := jdk_38_method_6_code, exceptionTable := #[], attributes := #[] }
def k17m1 : Method := { name := "grow", desc := "(I)[Ljava/lang/Object;", sig := { parameters := [.int], returnType := some (.array (.object "java/lang/Object")) }, accessFlags := 2, code := some k17c1 }
def k17c2 : Code := { maxStack := 3, maxLocals := 1, code := jdk_38_method_7_code, exceptionTable := #[], attributes := #[] }
def k17m2 : Method := { name := "grow", desc := "()[Ljava/lang/Object;", sig := { parameters := [], returnType := some (.array (.object "java/lang/Object")) }, accessFlags := 2, code := some k17c2 }
def k17c3 : Code := { maxStack := 1, maxLocals := 1, code := jdk_38_method_8_code, exceptionTable := #[], attributes := #[] }
def k17m3 : Method := { name := "size", desc := "()I", sig := { parameters := [], returnType := some .int }, accessFlags := 1, code := some k17c3 }
def k17c4 : Code := { maxStack := 2, maxLocals := 2, code := jdk_38_method_18_code, exceptionTable := #[], attributes := #[] }
def k17m4 : Method := { name := "elementData", desc := "(I)Ljava/lang/Object;", sig := { parameters := [.int], returnType := some (.object "java/lang/Object") }, accessFlags := 0, code := some k17c4 }
def k17c5 : Code := { maxStack := 2, maxLocals := 2, code := jdk_38_method_20_code, exceptionTable := #[], attributes := #[] }
def k17m5 : Method := { name := "get", desc := "(I)Ljava/lang/Object;", sig := { parameters := [.int], returnType := some (.object "java/lang/Object") }, accessFlags := 1, code := some k17c5 }
def k17c6 : Code := { maxStack := 6, maxLocals := 5, code := jdk_38_method_26_code, exceptionTable := #[], attributes := #[] }
def k17m6 : Method := { name := "add", desc := "(ILjava/lang/Object;)V", sig := { parameters := [.int, (.object "java/lang/Object")], returnType := none }, accessFlags := 1, code := some k17c6 }
def k17c7 : Code := { maxStack := 4, maxLocals := 2, code := jdk_38_method_45_code, exceptionTable := #[], attributes := #[] }
def k17m7 : Method := { name := "rangeCheckForAdd", desc := "(I)V", sig := { parameters := [.int], returnType := none }, accessFlags := 2, code := some k17c7 }
/-- java/util/ArrayList -/
def k17 : Class := { plain "java/util/ArrayList" (some 14) with
  accessFlags := 33
  interfaces := #[13, 15, 16, 3]
  cf := some (fileOf pool17 10 #[.nestMembers #[290, 276, 500, 502, 262, 267]] #[{ accessFlags := 1, nameIndex := 5, descriptorIndex := 6, attributes := #[] }, { accessFlags := 2, nameIndex := 71, descriptorIndex := 72, attributes := #[] }, { accessFlags := 2, nameIndex := 71, descriptorIndex := 47, attributes := #[] }, { accessFlags := 1, nameIndex := 50, descriptorIndex := 186, attributes := #[] }, { accessFlags := 0, nameIndex := 13, descriptorIndex := 125, attributes := #[] }, { accessFlags := 1, nameIndex := 381, descriptorIndex := 125, attributes := #[] }, { accessFlags := 1, nameIndex := 133, descriptorIndex := 141, attributes := #[] }, { accessFlags := 2, nameIndex := 137, descriptorIndex := 138, attributes := #[] }] 33 2 #[148, 329, 331, 333] #[{ accessFlags := 26, nameIndex := 335, descriptorIndex := 336, attributes := #[] }, { accessFlags := 26, nameIndex := 340, descriptorIndex := 51, attributes := #[] }, { accessFlags := 26, nameIndex := 17, descriptorIndex := 14, attributes := #[] }, { accessFlags := 26, nameIndex := 41, descriptorIndex := 14, attributes := #[] }, { accessFlags := 128, nameIndex := 13, descriptorIndex := 14, attributes := #[] }, { accessFlags := 2, nameIndex := 50, descriptorIndex := 51, attributes := #[] }])
  fields := #[{ name := "serialVersionUID", type := .long, accessFlags := 26, slot := 0, constantValue := 0 }, { name := "DEFAULT_CAPACITY", type := .int, accessFlags := 26, slot := 1, constantValue := 0 }, { name := "EMPTY_ELEMENTDATA", type := (.array (.object "java/lang/Object")), accessFlags := 26, slot := 2, constantValue := 0 }, { name := "DEFAULTCAPACITY_EMPTY_ELEMENTDATA", type := (.array (.object "java/lang/Object")), accessFlags := 26, slot := 3, constantValue := 0 }, { name := "elementData", type := (.array (.object "java/lang/Object")), accessFlags := 128, slot := 1, constantValue := 0 }, { name := "size", type := .int, accessFlags := 2, slot := 2, constantValue := 0 }]
  methods := #[k17m0, k17m1, k17m2, k17m3, k17m4, k17m5, k17m6, k17m7]
  instanceTypes := #[.int, (.array (.object "java/lang/Object")), .int]
  staticTypes := #[.long, .int, (.array (.object "java/lang/Object")), (.array (.object "java/lang/Object"))]
  resolved := Array.replicate 509 none
  statics := some 1 }

def pool18 : Array CpInfo := pool [(4, .class_ 6), (1, u "java/lang/Object"), (0, u "<init>"), (0, u "()V"), (5, .class_ 16), (1, u "java/lang/StringLatin1"), (73, u "canEncode"), (14, u "(C)Z"), (15, u "$assertionsDisabled"), (0, u "Z"), (98, .class_ 223), (1, u "java/lang/StringLatin1$LinesSpliterator"), (156, u "toBytes"), (1, u "(C)[B"), (7, .class_ 391), (0, u "java/lang/StringLatin1$CharsSpliterator")] 3

def k18m0 : Method := { name := "<init>", desc := "()V", sig := { parameters := [], returnType := none }, accessFlags := 0, code := none }
def k18c1 : Code := { maxStack := 2, maxLocals := 1, code := jdk_43_method_3_code, exceptionTable := #[], attributes := #[] }
def k18m1 : Method := { name := "canEncode", desc := "(C)Z", sig := { parameters := [.char], returnType := some .boolean }, accessFlags := 9, code := some k18c1 }
def k18c2 : Code := { maxStack := 4, maxLocals := 1, code := jdk_43_method_46_code, exceptionTable := #[], attributes := #[] }
def k18m2 : Method := { name := "toBytes", desc := "(C)[B", sig := { parameters := [.char], returnType := some (.array .byte) }, accessFlags := 9, code := some k18c2 }
/-- java/lang/StringLatin1 -/
def k18 : Class := { plain "java/lang/StringLatin1" (some 0) with
  accessFlags := 48
  interfaces := #[]
  cf := some (fileOf pool18 14 #[.nestMembers #[390, 221]] #[{ accessFlags := 0, nameIndex := 7, descriptorIndex := 8, attributes := #[] }, { accessFlags := 9, nameIndex := 90, descriptorIndex := 105, attributes := #[] }, { accessFlags := 9, nameIndex := 380, descriptorIndex := 382, attributes := #[] }] 48 4 #[] #[{ accessFlags := 4120, nameIndex := 121, descriptorIndex := 122, attributes := #[] }])
  fields := #[{ name := "$assertionsDisabled", type := .boolean, accessFlags := 4120, slot := 0, constantValue := 0 }]
  methods := #[k18m0, k18m1, k18m2]
  instanceTypes := #[]
  staticTypes := #[.boolean]
  resolved := Array.replicate 395 none
  statics := none }

def pool19 : Array CpInfo := pool [(1, .methodref 2 3), (0, .class_ 4), (0, .nameAndType 5 6), (0, u "java/lang/Object"), (0, u "<init>"), (0, u "()V"), (0, .fieldref 8 9), (0, .class_ 10), (0, .nameAndType 11 12), (0, u "com/example/tierline/tierline/csv/LineProblems$Problem"), (0, u "line"), (0, u "I"), (0, .fieldref 8 14), (0, .nameAndType 15 16), (0, u "reason"), (0, u "Ljava/lang/String;"), (0, .fieldref 8 18), (0, .nameAndType 19 20), (0, u "conflict"), (0, u "Z"), (0, u "(ILjava/lang/String;Z)V"), (9, .class_ 32), (0, u "com/example/tierline/tierline/csv/LineProblems")] 2

def k19c0 : Code := { maxStack := 2, maxLocals := 4, code := prog_49_method_1_code, exceptionTable := #[], attributes := #[] }
def k19m0 : Method := { name := "<init>", desc := "(ILjava/lang/String;Z)V", sig := { parameters := [.int, (.object "java/lang/String"), .boolean], returnType := none }, accessFlags := 2, code := some k19c0 }
/-- com/example/tierline/tierline/csv/LineProblems$Problem -/
def k19 : Class := { plain "com/example/tierline/tierline/csv/LineProblems$Problem" (some 0) with
  accessFlags := 49
  interfaces := #[]
  cf := some (fileOf pool19 8 #[.nestHost 31] #[{ accessFlags := 2, nameIndex := 5, descriptorIndex := 21, attributes := #[] }] 49 2 #[] #[{ accessFlags := 18, nameIndex := 11, descriptorIndex := 12, attributes := #[] }, { accessFlags := 18, nameIndex := 15, descriptorIndex := 16, attributes := #[] }, { accessFlags := 18, nameIndex := 19, descriptorIndex := 20, attributes := #[] }])
  fields := #[{ name := "line", type := .int, accessFlags := 18, slot := 0, constantValue := 0 }, { name := "reason", type := (.object "java/lang/String"), accessFlags := 18, slot := 1, constantValue := 0 }, { name := "conflict", type := .boolean, accessFlags := 18, slot := 2, constantValue := 0 }]
  methods := #[k19m0]
  instanceTypes := #[.int, (.object "java/lang/String"), .boolean]
  staticTypes := #[]
  resolved := Array.replicate 35 none
  statics := none }

def pool20 : Array CpInfo := pool [(1, .class_ 2), (0, u "java/lang/Math"), (1, .class_ 6), (1, u "java/lang/Object"), (0, u "<init>"), (0, u "()V"), (89, .class_ 100), (1, u "java/lang/Math$RandomNumberGeneratorHolder"), (71, u "negativeZeroFloatBits"), (0, u "J"), (2, u "negativeZeroDoubleBits"), (21, u "max"), (46, u "$assertionsDisabled"), (0, u "Z"), (88, u "(II)I"), (2, u "twoToTheDoubleScaleDown"), (0, u "D"), (4, u "twoToTheDoubleScaleUp"), (9, u "E"), (3, u "PI"), (2, u "TAU"), (2, u "DEGREES_TO_RADIANS"), (0, u "RADIANS_TO_DEGREES")] 94

def k20m0 : Method := { name := "<init>", desc := "()V", sig := { parameters := [], returnType := none }, accessFlags := 2, code := none }
def k20c1 : Code := { maxStack := 2, maxLocals := 2, code := jdk_29_method_65_code, exceptionTable := #[], attributes := #[] }
def k20m1 : Method := { name := "max", desc := "(II)I", sig := { parameters := [.int, .int], returnType := some .int }, accessFlags := 9, code := some k20c1 }
/-- java/lang/Math -/
def k20 : Class := { plain "java/lang/Math" (some 0) with
  accessFlags := 49
  interfaces := #[]
  cf := some (fileOf pool20 1 #[.nestMembers #[98]] #[{ accessFlags := 2, nameIndex := 7, descriptorIndex := 8, attributes := #[] }, { accessFlags := 9, nameIndex := 198, descriptorIndex := 335, attributes := #[] }] 49 4 #[] #[{ accessFlags := 25, nameIndex := 354, descriptorIndex := 339, attributes := #[] }, { accessFlags := 25, nameIndex := 358, descriptorIndex := 339, attributes := #[] }, { accessFlags := 25, nameIndex := 361, descriptorIndex := 339, attributes := #[] }, { accessFlags := 26, nameIndex := 364, descriptorIndex := 339, attributes := #[] }, { accessFlags := 26, nameIndex := 365, descriptorIndex := 339, attributes := #[] }, { accessFlags := 26, nameIndex := 172, descriptorIndex := 173, attributes := #[] }, { accessFlags := 26, nameIndex := 176, descriptorIndex := 173, attributes := #[] }, { accessFlags := 8, nameIndex := 344, descriptorIndex := 339, attributes := #[] }, { accessFlags := 8, nameIndex := 338, descriptorIndex := 339, attributes := #[] }, { accessFlags := 4120, nameIndex := 245, descriptorIndex := 246, attributes := #[] }])
  fields := #[{ name := "E", type := .double, accessFlags := 25, slot := 0, constantValue := 0 }, { name := "PI", type := .double, accessFlags := 25, slot := 1, constantValue := 0 }, { name := "TAU", type := .double, accessFlags := 25, slot := 2, constantValue := 0 }, { name := "DEGREES_TO_RADIANS", type := .double, accessFlags := 26, slot := 3, constantValue := 0 }, { name := "RADIANS_TO_DEGREES", type := .double, accessFlags := 26, slot := 4, constantValue := 0 }, { name := "negativeZeroFloatBits", type := .long, accessFlags := 26, slot := 5, constantValue := 0 }, { name := "negativeZeroDoubleBits", type := .long, accessFlags := 26, slot := 6, constantValue := 0 }, { name := "twoToTheDoubleScaleUp", type := .double, accessFlags := 8, slot := 7, constantValue := 0 }, { name := "twoToTheDoubleScaleDown", type := .double, accessFlags := 8, slot := 8, constantValue := 0 }, { name := "$assertionsDisabled", type := .boolean, accessFlags := 4120, slot := 9, constantValue := 0 }]
  methods := #[k20m0, k20m1]
  instanceTypes := #[]
  staticTypes := #[.double, .double, .double, .double, .double, .long, .long, .double, .double, .boolean]
  resolved := Array.replicate 460 none
  statics := none }

def pool21 : Array CpInfo := pool [(2, .class_ 4), (1, u "java/lang/Object"), (0, u "<init>"), (0, u "()V"), (1, .class_ 10), (1, u "java/lang/System"), (0, u "allowSecurityManager"), (0, u "I"), (16, u "cons"), (0, u "Ljava/io/Console;"), (77, .class_ 110), (1, u "java/lang/System$CallersHolder"), (43, u "initialErrStream"), (0, u "Ljava/io/PrintStream;"), (19, u "security"), (0, u "Ljava/lang/SecurityManager;"), (31, .class_ 209), (0, u "java/lang/System$1"), (7, u "props"), (0, u "Ljava/util/Properties;"), (2, u "lineSeparator"), (0, u "Ljava/lang/String;"), (96, .class_ 321), (1, u "java/lang/System$LoggerFinder"), (5, .class_ 328), (0, u "java/lang/System$Logger"), (67, u "err"), (2, u "out"), (91, u "notSupportedJnuEncoding"), (15, u "in"), (17, u "initialIn"), (0, u "Ljava/io/InputStream;"), (35, u "bootLayer"), (0, u "Ljava/lang/ModuleLayer;"), (99, .class_ 664), (0, u "java/lang/System$2"), (9, u "NEVER"), (2, u "MAYBE"), (49, u "arraycopy"), (0, u "(Ljava/lang/Object;ILjava/lang/Object;II)V"), (72, .class_ 802), (0, u "java/lang/System$Logger$Level")] 31

def k21m0 : Method := { name := "<init>", desc := "()V", sig := { parameters := [], returnType := none }, accessFlags := 2, code := none }
def k21m1 : Method := { name := "arraycopy", desc := "(Ljava/lang/Object;ILjava/lang/Object;II)V", sig := { parameters := [(.object "java/lang/Object"), .int, (.object "java/lang/Object"), .int, .int], returnType := none }, accessFlags := 265, code := none }
/-- java/lang/System -/
def k21 : Class := { plain "java/lang/System" (some 0) with
  accessFlags := 49
  interfaces := #[]
  cf := some (fileOf pool21 8 #[.nestMembers #[319, 327, 801, 108, 663, 208]] #[{ accessFlags := 2, nameIndex := 5, descriptorIndex := 6, attributes := #[] }, { accessFlags := 265, nameIndex := 727, descriptorIndex := 728, attributes := #[] }] 49 2 #[] #[{ accessFlags := 25, nameIndex := 507, descriptorIndex := 526, attributes := #[] }, { accessFlags := 25, nameIndex := 399, descriptorIndex := 155, attributes := #[] }, { accessFlags := 25, nameIndex := 396, descriptorIndex := 155, attributes := #[] }, { accessFlags := 10, nameIndex := 525, descriptorIndex := 526, attributes := #[] }, { accessFlags := 26, nameIndex := 674, descriptorIndex := 12, attributes := #[] }, { accessFlags := 26, nameIndex := 677, descriptorIndex := 12, attributes := #[] }, { accessFlags := 10, nameIndex := 11, descriptorIndex := 12, attributes := #[] }, { accessFlags := 74, nameIndex := 175, descriptorIndex := 176, attributes := #[] }, { accessFlags := 10, nameIndex := 491, descriptorIndex := 222, attributes := #[] }, { accessFlags := 74, nameIndex := 29, descriptorIndex := 30, attributes := #[] }, { accessFlags := 74, nameIndex := 154, descriptorIndex := 155, attributes := #[] }, { accessFlags := 10, nameIndex := 217, descriptorIndex := 218, attributes := #[] }, { accessFlags := 10, nameIndex := 221, descriptorIndex := 222, attributes := #[] }, { accessFlags := 8, nameIndex := 562, descriptorIndex := 563, attributes := #[] }])
  fields := #[{ name := "in", type := (.object "java/io/InputStream"), accessFlags := 25, slot := 0, constantValue := 0 }, { name := "out", type := (.object "java/io/PrintStream"), accessFlags := 25, slot := 1, constantValue := 0 }, { name := "err", type := (.object "java/io/PrintStream"), accessFlags := 25, slot := 2, constantValue := 0 }, { name := "initialIn", type := (.object "java/io/InputStream"), accessFlags := 10, slot := 3, constantValue := 0 }, { name := "NEVER", type := .int, accessFlags := 26, slot := 4, constantValue := 0 }, { name := "MAYBE", type := .int, accessFlags := 26, slot := 5, constantValue := 0 }, { name := "allowSecurityManager", type := .int, accessFlags := 10, slot := 6, constantValue := 0 }, { name := "security", type := (.object "java/lang/SecurityManager"), accessFlags := 74, slot := 7, constantValue := 0 }, { name := "notSupportedJnuEncoding", type := (.object "java/lang/String"), accessFlags := 10, slot := 8, constantValue := 0 }, { name := "cons", type := (.object "java/io/Console"), accessFlags := 74, slot := 9, constantValue := 0 }, { name := "initialErrStream", type := (.object "java/io/PrintStream"), accessFlags := 74, slot := 10, constantValue := 0 }, { name := "props", type := (.object "java/util/Properties"), accessFlags := 10, slot := 11, constantValue := 0 }, { name := "lineSeparator", type := (.object "java/lang/String"), accessFlags := 10, slot := 12, constantValue := 0 }, { name := "bootLayer", type := (.object "java/lang/ModuleLayer"), accessFlags := 8, slot := 13, constantValue := 0 }]
  methods := #[k21m0, k21m1]
  instanceTypes := #[]
  staticTypes := #[(.object "java/io/InputStream"), (.object "java/io/PrintStream"), (.object "java/io/PrintStream"), (.object "java/io/InputStream"), .int, .int, .int, (.object "java/lang/SecurityManager"), (.object "java/lang/String"), (.object "java/io/Console"), (.object "java/io/PrintStream"), (.object "java/util/Properties"), (.object "java/lang/String"), (.object "java/lang/ModuleLayer")]
  resolved := Array.replicate 834 none
  statics := none }

def pool22 : Array CpInfo := pool [(2, .class_ 4), (1, u "java/lang/Object"), (0, u "<init>"), (0, u "()V"), (35, .class_ 44), (1, u "java/util/Objects"), (60, .methodref 106 107), (0, .class_ 108), (0, .nameAndType 109 110), (0, u "jdk/internal/util/Preconditions"), (0, u "checkIndex"), (0, u "(IILjava/util/function/BiFunction;)I"), (60, u "(II)I")] 12

def k22m0 : Method := { name := "<init>", desc := "()V", sig := { parameters := [], returnType := none }, accessFlags := 2, code := none }
def k22c1 : Code := { maxStack := 3, maxLocals := 2, code := jdk_31_method_17_code, exceptionTable := #[], attributes := #[] }
def k22m1 : Method := { name := "checkIndex", desc := "(II)I", sig := { parameters := [.int, .int], returnType := some .int }, accessFlags := 9, code := some k22c1 }
/-- java/util/Objects -/
def k22 : Class := { plain "java/util/Objects" (some 0) with
  accessFlags := 49
  interfaces := #[]
  cf := some (fileOf pool22 42 #[] #[{ accessFlags := 2, nameIndex := 5, descriptorIndex := 6, attributes := #[] }, { accessFlags := 9, nameIndex := 109, descriptorIndex := 171, attributes := #[] }] 49 2 #[] #[])
  fields := #[]
  methods := #[k22m0, k22m1]
  instanceTypes := #[]
  staticTypes := #[]
  resolved := Array.replicate 184 none
  statics := none }

def pool23 : Array CpInfo := pool [(2, .class_ 4), (1, u "java/lang/Object"), (0, u "<init>"), (0, u "()V"), (17, .class_ 26), (1, u "jdk/internal/util/Preconditions"), (6, u "checkIndex"), (21, .class_ 56), (0, u "jdk/internal/util/Preconditions$4"), (57, .class_ 115), (0, u "jdk/internal/util/Preconditions$1"), (7, u "SIOOBE_FORMATTER"), (0, u "Ljava/util/function/BiFunction;"), (0, .class_ 126), (0, u "jdk/internal/util/Preconditions$2"), (3, u "AIOOBE_FORMATTER"), (0, .class_ 132), (0, u "jdk/internal/util/Preconditions$3"), (3, u "IOOBE_FORMATTER"), (41, u "(IILjava/util/function/BiFunction;)I")] 15

def k23m0 : Method := { name := "<init>", desc := "()V", sig := { parameters := [], returnType := none }, accessFlags := 1, code := none }
def k23c1 : Code := { maxStack := 3, maxLocals := 3, code := jdk_41_method_11_code, exceptionTable := #[], attributes := #[] }
def k23m1 : Method := { name := "checkIndex", desc := "(IILjava/util/function/BiFunction;)I", sig := { parameters := [.int, .int, (.object "java/util/function/BiFunction")], returnType := some .int }, accessFlags := 9, code := some k23c1 }
/-- jdk/internal/util/Preconditions -/
def k23 : Class := { plain "jdk/internal/util/Preconditions" (some 0) with
  accessFlags := 33
  interfaces := #[]
  cf := some (fileOf pool23 24 #[.nestMembers #[55, 131, 125, 114]] #[{ accessFlags := 1, nameIndex := 5, descriptorIndex := 6, attributes := #[] }, { accessFlags := 9, nameIndex := 33, descriptorIndex := 178, attributes := #[] }] 33 2 #[] #[{ accessFlags := 25, nameIndex := 123, descriptorIndex := 124, attributes := #[] }, { accessFlags := 25, nameIndex := 130, descriptorIndex := 124, attributes := #[] }, { accessFlags := 25, nameIndex := 136, descriptorIndex := 124, attributes := #[] }])
  fields := #[{ name := "SIOOBE_FORMATTER", type := (.object "java/util/function/BiFunction"), accessFlags := 25, slot := 0, constantValue := 0 }, { name := "AIOOBE_FORMATTER", type := (.object "java/util/function/BiFunction"), accessFlags := 25, slot := 1, constantValue := 0 }, { name := "IOOBE_FORMATTER", type := (.object "java/util/function/BiFunction"), accessFlags := 25, slot := 2, constantValue := 0 }]
  methods := #[k23m0, k23m1]
  instanceTypes := #[]
  staticTypes := #[(.object "java/util/function/BiFunction"), (.object "java/util/function/BiFunction"), (.object "java/util/function/BiFunction")]
  resolved := Array.replicate 194 none
  statics := some 2 }

def pool24 : Array CpInfo := pool [(9, u "<init>"), (6, .class_ 18), (1, u "java/lang/Object"), (0, u "()V"), (1, .class_ 23), (1, u "jdk/internal/util/ArraysSupport"), (0, u "LOG2_ARRAY_LONG_INDEX_SCALE"), (0, u "I"), (2, u "U"), (0, u "Ljdk/internal/misc/Unsafe;"), (8, u "BIG_ENDIAN"), (0, u "Z"), (8, u "LOG2_BYTE_BIT_SIZE"), (4, u "LOG2_ARRAY_INT_INDEX_SCALE"), (54, u "JLA"), (0, u "Ljdk/internal/access/JavaLangAccess;"), (11, u "LOG2_ARRAY_BOOLEAN_INDEX_SCALE"), (9, u "LOG2_ARRAY_BYTE_INDEX_SCALE"), (5, u "LOG2_ARRAY_CHAR_INDEX_SCALE"), (5, u "LOG2_ARRAY_SHORT_INDEX_SCALE"), (18, u "LOG2_ARRAY_FLOAT_INDEX_SCALE"), (24, u "LOG2_ARRAY_DOUBLE_INDEX_SCALE"), (89, u "T_BOOLEAN"), (2, u "T_CHAR"), (1, u "T_FLOAT"), (1, u "T_DOUBLE"), (1, u "T_BYTE"), (1, u "T_SHORT"), (1, u "T_INT"), (1, u "T_LONG"), (1, u "SOFT_MAX_ARRAY_LENGTH")] 83

def k24m0 : Method := { name := "<init>", desc := "()V", sig := { parameters := [], returnType := none }, accessFlags := 2, code := none }
/-- jdk/internal/util/ArraysSupport -/
def k24 : Class := { plain "jdk/internal/util/ArraysSupport" (some 0) with
  accessFlags := 33
  interfaces := #[]
  cf := some (fileOf pool24 21 #[] #[{ accessFlags := 2, nameIndex := 9, descriptorIndex := 19, attributes := #[] }] 33 16 #[] #[{ accessFlags := 24, nameIndex := 28, descriptorIndex := 29, attributes := #[] }, { accessFlags := 26, nameIndex := 38, descriptorIndex := 39, attributes := #[] }, { accessFlags := 25, nameIndex := 121, descriptorIndex := 25, attributes := #[] }, { accessFlags := 25, nameIndex := 131, descriptorIndex := 25, attributes := #[] }, { accessFlags := 25, nameIndex := 137, descriptorIndex := 25, attributes := #[] }, { accessFlags := 25, nameIndex := 143, descriptorIndex := 25, attributes := #[] }, { accessFlags := 25, nameIndex := 53, descriptorIndex := 25, attributes := #[] }, { accessFlags := 25, nameIndex := 24, descriptorIndex := 25, attributes := #[] }, { accessFlags := 25, nameIndex := 162, descriptorIndex := 25, attributes := #[] }, { accessFlags := 25, nameIndex := 187, descriptorIndex := 25, attributes := #[] }, { accessFlags := 26, nameIndex := 48, descriptorIndex := 25, attributes := #[] }, { accessFlags := 25, nameIndex := 277, descriptorIndex := 25, attributes := #[] }, { accessFlags := 25, nameIndex := 280, descriptorIndex := 25, attributes := #[] }, { accessFlags := 25, nameIndex := 282, descriptorIndex := 25, attributes := #[] }, { accessFlags := 25, nameIndex := 284, descriptorIndex := 25, attributes := #[] }, { accessFlags := 25, nameIndex := 286, descriptorIndex := 25, attributes := #[] }, { accessFlags := 25, nameIndex := 288, descriptorIndex := 25, attributes := #[] }, { accessFlags := 25, nameIndex := 290, descriptorIndex := 25, attributes := #[] }, { accessFlags := 25, nameIndex := 292, descriptorIndex := 25, attributes := #[] }, { accessFlags := 26, nameIndex := 108, descriptorIndex := 109, attributes := #[] }, { accessFlags := 25, nameIndex := 294, descriptorIndex := 25, attributes := #[] }])
  fields := #[{ name := "U", type := (.object "jdk/internal/misc/Unsafe"), accessFlags := 24, slot := 0, constantValue := 0 }, { name := "BIG_ENDIAN", type := .boolean, accessFlags := 26, slot := 1, constantValue := 0 }, { name := "LOG2_ARRAY_BOOLEAN_INDEX_SCALE", type := .int, accessFlags := 25, slot := 2, constantValue := 0 }, { name := "LOG2_ARRAY_BYTE_INDEX_SCALE", type := .int, accessFlags := 25, slot := 3, constantValue := 0 }, { name := "LOG2_ARRAY_CHAR_INDEX_SCALE", type := .int, accessFlags := 25, slot := 4, constantValue := 0 }, { name := "LOG2_ARRAY_SHORT_INDEX_SCALE", type := .int, accessFlags := 25, slot := 5, constantValue := 0 }, { name := "LOG2_ARRAY_INT_INDEX_SCALE", type := .int, accessFlags := 25, slot := 6, constantValue := 0 }, { name := "LOG2_ARRAY_LONG_INDEX_SCALE", type := .int, accessFlags := 25, slot := 7, constantValue := 0 }, { name := "LOG2_ARRAY_FLOAT_INDEX_SCALE", type := .int, accessFlags := 25, slot := 8, constantValue := 0 }, { name := "LOG2_ARRAY_DOUBLE_INDEX_SCALE", type := .int, accessFlags := 25, slot := 9, constantValue := 0 }, { name := "LOG2_BYTE_BIT_SIZE", type := .int, accessFlags := 26, slot := 10, constantValue := 0 }, { name := "T_BOOLEAN", type := .int, accessFlags := 25, slot := 11, constantValue := 0 }, { name := "T_CHAR", type := .int, accessFlags := 25, slot := 12, constantValue := 0 }, { name := "T_FLOAT", type := .int, accessFlags := 25, slot := 13, constantValue := 0 }, { name := "T_DOUBLE", type := .int, accessFlags := 25, slot := 14, constantValue := 0 }, { name := "T_BYTE", type := .int, accessFlags := 25, slot := 15, constantValue := 0 }, { name := "T_SHORT", type := .int, accessFlags := 25, slot := 16, constantValue := 0 }, { name := "T_INT", type := .int, accessFlags := 25, slot := 17, constantValue := 0 }, { name := "T_LONG", type := .int, accessFlags := 25, slot := 18, constantValue := 0 }, { name := "JLA", type := (.object "jdk/internal/access/JavaLangAccess"), accessFlags := 26, slot := 19, constantValue := 0 }, { name := "SOFT_MAX_ARRAY_LENGTH", type := .int, accessFlags := 25, slot := 20, constantValue := 0 }]
  methods := #[k24m0]
  instanceTypes := #[]
  staticTypes := #[(.object "jdk/internal/misc/Unsafe"), .boolean, .int, .int, .int, .int, .int, .int, .int, .int, .int, .int, .int, .int, .int, .int, .int, .int, .int, (.object "jdk/internal/access/JavaLangAccess"), .int]
  resolved := Array.replicate 378 none
  statics := none }

/-- the primitive byte -/
def k25 : Class := { plain "byte" none with kind := .primitive 'B', accessFlags := 0x411 }
/-- [B -/
def k26 : Class := { plain "[B" (some 0) with kind := .array 25 .byte, interfaces := #[16, 3], accessFlags := 1041 }

/-- the primitive int -/
def k27 : Class := { plain "int" none with kind := .primitive 'I', accessFlags := 0x411 }
/-- [I -/
def k28 : Class := { plain "[I" (some 0) with kind := .array 27 .int, interfaces := #[16, 3], accessFlags := 1041 }

/-- [Ljava/lang/Object; -/
def k29 : Class := { plain "[Ljava/lang/Object;" (some 0) with kind := .array 0 (.object "java/lang/Object"), interfaces := #[16, 3], accessFlags := 1041 }

def heap : Heap := #[{ cls := 8, slots := #[.long 0, .int 1, .null, .int 0, .null, .int 0, .int 0], vm := .statics 8 },
  { cls := 17, slots := #[.long 0, .int 0, .ref 3, .ref 4], vm := .statics 17 },
  { cls := 23, slots := #[.null, .null, .null], vm := .statics 23 },
  { cls := 29, slots := #[], vm := .none },
  { cls := 29, slots := #[], vm := .none }]
def classes : Array Class := #[k0, k1, k2, k3, k4, k5, k6, k7, k8, k9, k10, k11, k12, k13, k14, k15, k16, k17, k18, k19, k20, k21, k22, k23, k24, k25, k26, k27, k28, k29]
def interned : List (Array UInt16 × Addr) := []
def slotsUsed : Nat := 14
def theMethod : MethodId := ⟨1, 2⟩
def args0 : Array Value := #[.int 2, .int 1, .int 3, .int 4, .int 5, .int 6]
def aboutOver (below : List Frame) : State where
  vm := { classes := classes, interned := interned.toArray }
  heap := heap
  slotsUsed := slotsUsed
  threads := #[{ frames := .invoking theMethod args0 :: below }]
def below0 : List Frame := [.native { method := ⟨0, 0⟩, args := #[] }]
def about1 : State := aboutOver below0
def p0 : Program := .bare "" "" ""
def e0 : Env := launch0.env 0 0 0
theorem w_frames : about1.frames = Frame.invoking theMethod args0 :: below0 := rfl
set_option maxRecDepth 65536 in
theorem w_args : argsFit about1.vm theMethod args0 = true := by decide +kernel
set_option maxRecDepth 65536 in
theorem w_heap : heapFits about1 = true := by decide +kernel
set_option maxRecDepth 65536 in
theorem w_runnable : about1.curStatus? = some .runnable := by decide +kernel
set_option maxRecDepth 65536 in
theorem w_alone : about1.alone = true := by decide +kernel
set_option maxRecDepth 65536 in
theorem w_named : about1.methodNamed? x = some theMethod := by decide +kernel
set_option maxRecDepth 65536 in
theorem w_hears : about1.hears theMethod below0 = true := by decide +kernel
set_option maxRecDepth 65536 in
theorem w_ripe : about1.ripe theMethod args0 below0 = true := by decide +kernel
theorem w_running : about1.status = .running := rfl
set_option maxRecDepth 65536 in
theorem w_room : about1.hasRoom e0.platform room_1 = true :=
  launch0.hasRoom_least _ room_1 (by decide +kernel) (by decide +kernel) (by decide +kernel) (by decide +kernel) (by decide +kernel) (by decide +kernel)
theorem allAtoms_all (ts : List Jvm.Cond) (a : Array Jvm.Value) (st : Jvm.State) : (allAtoms ts).before a st = ts.all (fun c => c.before a st) := by
  induction ts with
  | nil => rfl
  | cons c t ih =>
    show (Jvm.Cond.and c (allAtoms t)).before a st = _
    rw [Jvm.Cond.before_and, ih, List.all_cons]
def words1 : List Jvm.Cond := Jvm.Cond.code x code maxLocals ret :: tables_1
/-- a 'code' word, met by the world's own term for the bytes: nothing is compared byte by byte -/
theorem code_word {y : MethodName} {bytes : ByteArray} {mx : Nat} {rt : Option FieldType} {a : Array Value} {s : State} {m : MethodId} {meth : Method} {c : Code} (h1 : s.methodNamed? y = some m) (h2 : s.vm.method? m = some meth) (h3 : meth.code = some c) (h4 : c.code = bytes)
    (h5 : (c.maxLocals == mx && c.exceptionTable.isEmpty && decide (c.maxStack ≤ mostOperands) && decide (meth.sig.returnType = rt) && !meth.locks && decide (parseMethodDescriptor y.desc = some meth.sig)) = true) : (Jvm.Cond.code y bytes mx rt).before a s = true := by
  simp only [Bool.and_eq_true, beq_iff_eq, Bool.not_eq_true', decide_eq_true_eq] at h5
  obtain ⟨⟨⟨⟨⟨g1, g2⟩, g3⟩, g4⟩, g5⟩, g6⟩ := h5
  simp [Cond.before, Cond.holds, Cond.value, h1, h2, h3, h4, g1, g2, g3, g4, g5, g6]
def isCode : Jvm.Cond → Bool
  | .code _ _ _ _ => true
  | _ => false
theorem all_split {L : List Jvm.Cond} {P : Jvm.Cond → Bool} (h1 : L.all (fun c => isCode c || P c) = true) (h2 : ∀ c ∈ L.filter isCode, P c = true) : L.all P = true := by
  refine List.all_eq_true.mpr fun c hc => ?_
  have h := List.all_eq_true.mp h1 c hc
  rcases Bool.eq_false_or_eq_true (isCode c) with hi | hi
  · exact h2 c (List.mem_filter.mpr ⟨hc, hi⟩)
  · simpa [hi] using h
set_option maxRecDepth 65536 in
theorem w_c0 : (Jvm.Cond.code x code maxLocals ret).before args0 about1 = true := code_word (m := ⟨1, 2⟩) (meth := k1m2) (c := k1c2) (by decide +kernel) rfl rfl rfl (by decide +kernel)
set_option maxRecDepth 65536 in
theorem w_c1 : (Jvm.Cond.code ({ cls := "com/example/tierline/tierline/csv/LineProblems", name := "<init>", desc := "(Ljava/lang/String;)V" } : Jvm.MethodName) prog_48_method_1_code (2 : Nat) (Option.none : Option Jvm.ClassFile.FieldType)).before args0 about1 = true := code_word (m := ⟨2, 0⟩) (meth := k2m0) (c := k2c0) (by decide +kernel) rfl rfl rfl (by decide +kernel)
set_option maxRecDepth 65536 in
theorem w_c2 : (Jvm.Cond.code ({ cls := "java/lang/Object", name := "<init>", desc := "()V" } : Jvm.MethodName) object_method_1_code (1 : Nat) (Option.none : Option Jvm.ClassFile.FieldType)).before args0 about1 = true := code_word (m := ⟨0, 0⟩) (meth := k0m0) (c := k0c0) (by decide +kernel) rfl rfl rfl (by decide +kernel)
set_option maxRecDepth 65536 in
theorem w_c3 : (Jvm.Cond.code ({ cls := "java/util/ArrayList", name := "<init>", desc := "()V" } : Jvm.MethodName) jdk_38_method_2_code (1 : Nat) (Option.none : Option Jvm.ClassFile.FieldType)).before args0 about1 = true := code_word (m := ⟨17, 0⟩) (meth := k17m0) (c := k17c0) (by decide +kernel) rfl rfl rfl (by decide +kernel)
set_option maxRecDepth 65536 in
theorem w_c4 : (Jvm.Cond.code ({ cls := "java/util/AbstractList", name := "<init>", desc := "()V" } : Jvm.MethodName) jdk_39_method_1_code (1 : Nat) (Option.none : Option Jvm.ClassFile.FieldType)).before args0 about1 = true := code_word (m := ⟨14, 0⟩) (meth := k14m0) (c := k14c0) (by decide +kernel) rfl rfl rfl (by decide +kernel)
set_option maxRecDepth 65536 in
theorem w_c5 : (Jvm.Cond.code ({ cls := "java/util/AbstractCollection", name := "<init>", desc := "()V" } : Jvm.MethodName) jdk_22_method_1_code (1 : Nat) (Option.none : Option Jvm.ClassFile.FieldType)).before args0 about1 = true := code_word (m := ⟨11, 0⟩) (meth := k11m0) (c := k11c0) (by decide +kernel) rfl rfl rfl (by decide +kernel)
set_option maxRecDepth 65536 in
theorem w_c6 : (Jvm.Cond.code ({ cls := "com/example/tierline/tierline/csv/LineProblems", name := "isEmpty", desc := "()Z" } : Jvm.MethodName) prog_48_method_7_code (1 : Nat) (Option.some Jvm.ClassFile.FieldType.boolean)).before args0 about1 = true := code_word (m := ⟨2, 6⟩) (meth := k2m6) (c := k2c6) (by decide +kernel) rfl rfl rfl (by decide +kernel)
set_option maxRecDepth 65536 in
theorem w_c7 : (Jvm.Cond.code ({ cls := "com/example/tierline/tierline/csv/LineProblemsIsEmptyPinLaw", name := "addOne", desc := "(Lcom/example/tierline/tierline/csv/LineProblems;IIC)V" } : Jvm.MethodName) method_2_code (5 : Nat) (Option.none : Option Jvm.ClassFile.FieldType)).before args0 about1 = true := code_word (m := ⟨1, 1⟩) (meth := k1m1) (c := k1c1) (by decide +kernel) rfl rfl rfl (by decide +kernel)
set_option maxRecDepth 65536 in
theorem w_c8 : (Jvm.Cond.code ({ cls := "java/lang/String", name := "valueOf", desc := "(C)Ljava/lang/String;" } : Jvm.MethodName) jdk_42_method_139_code (1 : Nat) (Option.some (Jvm.ClassFile.FieldType.object "java/lang/String"))).before args0 about1 = true := code_word (m := ⟨8, 1⟩) (meth := k8m1) (c := k8c1) (by decide +kernel) rfl rfl rfl (by decide +kernel)
set_option maxRecDepth 65536 in
theorem w_c9 : (Jvm.Cond.code ({ cls := "java/lang/StringLatin1", name := "canEncode", desc := "(C)Z" } : Jvm.MethodName) jdk_43_method_3_code (1 : Nat) (Option.some Jvm.ClassFile.FieldType.boolean)).before args0 about1 = true := code_word (m := ⟨18, 1⟩) (meth := k18m1) (c := k18c1) (by decide +kernel) rfl rfl rfl (by decide +kernel)
set_option maxRecDepth 65536 in
theorem w_c10 : (Jvm.Cond.code ({ cls := "java/lang/StringLatin1", name := "toBytes", desc := "(C)[B" } : Jvm.MethodName) jdk_43_method_46_code (1 : Nat) (Option.some (Jvm.ClassFile.FieldType.array Jvm.ClassFile.FieldType.byte))).before args0 about1 = true := code_word (m := ⟨18, 2⟩) (meth := k18m2) (c := k18c2) (by decide +kernel) rfl rfl rfl (by decide +kernel)
set_option maxRecDepth 65536 in
theorem w_c11 : (Jvm.Cond.code ({ cls := "java/lang/String", name := "<init>", desc := "([BB)V" } : Jvm.MethodName) jdk_42_method_151_code (3 : Nat) (Option.none : Option Jvm.ClassFile.FieldType)).before args0 about1 = true := code_word (m := ⟨8, 2⟩) (meth := k8m2) (c := k8c2) (by decide +kernel) rfl rfl rfl (by decide +kernel)
set_option maxRecDepth 65536 in
theorem w_c12 : (Jvm.Cond.code ({ cls := "com/example/tierline/tierline/csv/LineProblems", name := "add", desc := "(ILjava/lang/String;)V" } : Jvm.MethodName) prog_48_method_2_code (3 : Nat) (Option.none : Option Jvm.ClassFile.FieldType)).before args0 about1 = true := code_word (m := ⟨2, 1⟩) (meth := k2m1) (c := k2c1) (by decide +kernel) rfl rfl rfl (by decide +kernel)
set_option maxRecDepth 65536 in
theorem w_c13 : (Jvm.Cond.code ({ cls := "com/example/tierline/tierline/csv/LineProblems$Problem", name := "<init>", desc := "(ILjava/lang/String;Z)V" } : Jvm.MethodName) prog_49_method_1_code (4 : Nat) (Option.none : Option Jvm.ClassFile.FieldType)).before args0 about1 = true := code_word (m := ⟨19, 0⟩) (meth := k19m0) (c := k19c0) (by decide +kernel) rfl rfl rfl (by decide +kernel)
set_option maxRecDepth 65536 in
theorem w_c14 : (Jvm.Cond.code ({ cls := "com/example/tierline/tierline/csv/LineProblems", name := "add", desc := "(Lcom/example/tierline/tierline/csv/LineProblems$Problem;Z)V" } : Jvm.MethodName) prog_48_method_5_code (4 : Nat) (Option.none : Option Jvm.ClassFile.FieldType)).before args0 about1 = true := code_word (m := ⟨2, 4⟩) (meth := k2m4) (c := k2c4) (by decide +kernel) rfl rfl rfl (by decide +kernel)
set_option maxRecDepth 65536 in
theorem w_c15 : (Jvm.Cond.code ({ cls := "java/util/ArrayList", name := "size", desc := "()I" } : Jvm.MethodName) jdk_38_method_8_code (1 : Nat) (Option.some Jvm.ClassFile.FieldType.int)).before args0 about1 = true := code_word (m := ⟨17, 3⟩) (meth := k17m3) (c := k17c3) (by decide +kernel) rfl rfl rfl (by decide +kernel)
set_option maxRecDepth 65536 in
theorem w_c16 : (Jvm.Cond.code ({ cls := "java/util/ArrayList", name := "add", desc := "(ILjava/lang/Object;)V" } : Jvm.MethodName) jdk_38_method_26_code (5 : Nat) (Option.none : Option Jvm.ClassFile.FieldType)).before args0 about1 = true := code_word (m := ⟨17, 6⟩) (meth := k17m6) (c := k17c6) (by decide +kernel) rfl rfl rfl (by decide +kernel)
set_option maxRecDepth 65536 in
theorem w_c17 : (Jvm.Cond.code ({ cls := "java/util/ArrayList", name := "rangeCheckForAdd", desc := "(I)V" } : Jvm.MethodName) jdk_38_method_45_code (2 : Nat) (Option.none : Option Jvm.ClassFile.FieldType)).before args0 about1 = true := code_word (m := ⟨17, 7⟩) (meth := k17m7) (c := k17c7) (by decide +kernel) rfl rfl rfl (by decide +kernel)
set_option maxRecDepth 65536 in
theorem w_c18 : (Jvm.Cond.code ({ cls := "java/util/ArrayList", name := "grow", desc := "()[Ljava/lang/Object;" } : Jvm.MethodName) jdk_38_method_7_code (1 : Nat) (Option.some (Jvm.ClassFile.FieldType.array (Jvm.ClassFile.FieldType.object "java/lang/Object")))).before args0 about1 = true := code_word (m := ⟨17, 2⟩) (meth := k17m2) (c := k17c2) (by decide +kernel) rfl rfl rfl (by decide +kernel)
set_option maxRecDepth 65536 in
theorem w_c19 : (Jvm.Cond.code ({ cls := "java/util/ArrayList", name := "grow", desc := "(I)[Ljava/lang/Object;" } : Jvm.MethodName) jdk_38_method_6_code (4 : Nat) (Option.some (Jvm.ClassFile.FieldType.array (Jvm.ClassFile.FieldType.object "java/lang/Object")))).before args0 about1 = true := code_word (m := ⟨17, 1⟩) (meth := k17m1) (c := k17c1) (by decide +kernel) rfl rfl rfl (by decide +kernel)
set_option maxRecDepth 65536 in
theorem w_c20 : (Jvm.Cond.code ({ cls := "java/lang/Math", name := "max", desc := "(II)I" } : Jvm.MethodName) jdk_29_method_65_code (2 : Nat) (Option.some Jvm.ClassFile.FieldType.int)).before args0 about1 = true := code_word (m := ⟨20, 1⟩) (meth := k20m1) (c := k20c1) (by decide +kernel) rfl rfl rfl (by decide +kernel)
set_option maxRecDepth 65536 in
theorem w_c21 : (Jvm.Cond.code ({ cls := "com/example/tierline/tierline/csv/LineProblems", name := "addConflict", desc := "(ILjava/lang/String;)V" } : Jvm.MethodName) prog_48_method_4_code (3 : Nat) (Option.none : Option Jvm.ClassFile.FieldType)).before args0 about1 = true := code_word (m := ⟨2, 3⟩) (meth := k2m3) (c := k2c3) (by decide +kernel) rfl rfl rfl (by decide +kernel)
set_option maxRecDepth 65536 in
theorem w_c22 : (Jvm.Cond.code ({ cls := "java/util/ArrayList", name := "get", desc := "(I)Ljava/lang/Object;" } : Jvm.MethodName) jdk_38_method_20_code (2 : Nat) (Option.some (Jvm.ClassFile.FieldType.object "java/lang/Object"))).before args0 about1 = true := code_word (m := ⟨17, 5⟩) (meth := k17m5) (c := k17c5) (by decide +kernel) rfl rfl rfl (by decide +kernel)
set_option maxRecDepth 65536 in
theorem w_c23 : (Jvm.Cond.code ({ cls := "java/util/Objects", name := "checkIndex", desc := "(II)I" } : Jvm.MethodName) jdk_31_method_17_code (2 : Nat) (Option.some Jvm.ClassFile.FieldType.int)).before args0 about1 = true := code_word (m := ⟨22, 1⟩) (meth := k22m1) (c := k22c1) (by decide +kernel) rfl rfl rfl (by decide +kernel)
set_option maxRecDepth 65536 in
theorem w_c24 : (Jvm.Cond.code ({ cls := "jdk/internal/util/Preconditions", name := "checkIndex", desc := "(IILjava/util/function/BiFunction;)I" } : Jvm.MethodName) jdk_41_method_11_code (3 : Nat) (Option.some Jvm.ClassFile.FieldType.int)).before args0 about1 = true := code_word (m := ⟨23, 1⟩) (meth := k23m1) (c := k23c1) (by decide +kernel) rfl rfl rfl (by decide +kernel)
set_option maxRecDepth 65536 in
theorem w_c25 : (Jvm.Cond.code ({ cls := "java/util/ArrayList", name := "elementData", desc := "(I)Ljava/lang/Object;" } : Jvm.MethodName) jdk_38_method_18_code (2 : Nat) (Option.some (Jvm.ClassFile.FieldType.object "java/lang/Object"))).before args0 about1 = true := code_word (m := ⟨17, 4⟩) (meth := k17m4) (c := k17c4) (by decide +kernel) rfl rfl rfl (by decide +kernel)
set_option maxRecDepth 65536 in
theorem w_c26 : (Jvm.Cond.code ({ cls := "com/example/tierline/tierline/csv/LineProblems", name := "listsAfter", desc := "(Lcom/example/tierline/tierline/csv/LineProblems$Problem;Lcom/example/tierline/tierline/csv/LineProblems$Problem;Z)Z" } : Jvm.MethodName) prog_48_method_6_code (3 : Nat) (Option.some Jvm.ClassFile.FieldType.boolean)).before args0 about1 = true := code_word (m := ⟨2, 5⟩) (meth := k2m5) (c := k2c5) (by decide +kernel) rfl rfl rfl (by decide +kernel)
set_option maxRecDepth 65536 in
theorem w_c27 : (Jvm.Cond.code ({ cls := "com/example/tierline/tierline/csv/LineProblems", name := "addAheadOnLine", desc := "(ILjava/lang/String;)V" } : Jvm.MethodName) prog_48_method_3_code (3 : Nat) (Option.none : Option Jvm.ClassFile.FieldType)).before args0 about1 = true := code_word (m := ⟨2, 2⟩) (meth := k2m2) (c := k2c2) (by decide +kernel) rfl rfl rfl (by decide +kernel)
def codes1 : List Jvm.Cond := [Jvm.Cond.code x code maxLocals ret, Jvm.Cond.code ({ cls := "com/example/tierline/tierline/csv/LineProblems", name := "<init>", desc := "(Ljava/lang/String;)V" } : Jvm.MethodName) prog_48_method_1_code (2 : Nat) (Option.none : Option Jvm.ClassFile.FieldType), Jvm.Cond.code ({ cls := "java/lang/Object", name := "<init>", desc := "()V" } : Jvm.MethodName) object_method_1_code (1 : Nat) (Option.none : Option Jvm.ClassFile.FieldType), Jvm.Cond.code ({ cls := "java/util/ArrayList", name := "<init>", desc := "()V" } : Jvm.MethodName) jdk_38_method_2_code (1 : Nat) (Option.none : Option Jvm.ClassFile.FieldType), Jvm.Cond.code ({ cls := "java/util/AbstractList", name := "<init>", desc := "()V" } : Jvm.MethodName) jdk_39_method_1_code (1 : Nat) (Option.none : Option Jvm.ClassFile.FieldType), Jvm.Cond.code ({ cls := "java/util/AbstractCollection", name := "<init>", desc := "()V" } : Jvm.MethodName) jdk_22_method_1_code (1 : Nat) (Option.none : Option Jvm.ClassFile.FieldType), Jvm.Cond.code ({ cls := "com/example/tierline/tierline/csv/LineProblems", name := "isEmpty", desc := "()Z" } : Jvm.MethodName) prog_48_method_7_code (1 : Nat) (Option.some Jvm.ClassFile.FieldType.boolean), Jvm.Cond.code ({ cls := "com/example/tierline/tierline/csv/LineProblemsIsEmptyPinLaw", name := "addOne", desc := "(Lcom/example/tierline/tierline/csv/LineProblems;IIC)V" } : Jvm.MethodName) method_2_code (5 : Nat) (Option.none : Option Jvm.ClassFile.FieldType), Jvm.Cond.code ({ cls := "java/lang/String", name := "valueOf", desc := "(C)Ljava/lang/String;" } : Jvm.MethodName) jdk_42_method_139_code (1 : Nat) (Option.some (Jvm.ClassFile.FieldType.object "java/lang/String")), Jvm.Cond.code ({ cls := "java/lang/StringLatin1", name := "canEncode", desc := "(C)Z" } : Jvm.MethodName) jdk_43_method_3_code (1 : Nat) (Option.some Jvm.ClassFile.FieldType.boolean), Jvm.Cond.code ({ cls := "java/lang/StringLatin1", name := "toBytes", desc := "(C)[B" } : Jvm.MethodName) jdk_43_method_46_code (1 : Nat) (Option.some (Jvm.ClassFile.FieldType.array Jvm.ClassFile.FieldType.byte)), Jvm.Cond.code ({ cls := "java/lang/String", name := "<init>", desc := "([BB)V" } : Jvm.MethodName) jdk_42_method_151_code (3 : Nat) (Option.none : Option Jvm.ClassFile.FieldType), Jvm.Cond.code ({ cls := "com/example/tierline/tierline/csv/LineProblems", name := "add", desc := "(ILjava/lang/String;)V" } : Jvm.MethodName) prog_48_method_2_code (3 : Nat) (Option.none : Option Jvm.ClassFile.FieldType), Jvm.Cond.code ({ cls := "com/example/tierline/tierline/csv/LineProblems$Problem", name := "<init>", desc := "(ILjava/lang/String;Z)V" } : Jvm.MethodName) prog_49_method_1_code (4 : Nat) (Option.none : Option Jvm.ClassFile.FieldType), Jvm.Cond.code ({ cls := "com/example/tierline/tierline/csv/LineProblems", name := "add", desc := "(Lcom/example/tierline/tierline/csv/LineProblems$Problem;Z)V" } : Jvm.MethodName) prog_48_method_5_code (4 : Nat) (Option.none : Option Jvm.ClassFile.FieldType), Jvm.Cond.code ({ cls := "java/util/ArrayList", name := "size", desc := "()I" } : Jvm.MethodName) jdk_38_method_8_code (1 : Nat) (Option.some Jvm.ClassFile.FieldType.int), Jvm.Cond.code ({ cls := "java/util/ArrayList", name := "add", desc := "(ILjava/lang/Object;)V" } : Jvm.MethodName) jdk_38_method_26_code (5 : Nat) (Option.none : Option Jvm.ClassFile.FieldType), Jvm.Cond.code ({ cls := "java/util/ArrayList", name := "rangeCheckForAdd", desc := "(I)V" } : Jvm.MethodName) jdk_38_method_45_code (2 : Nat) (Option.none : Option Jvm.ClassFile.FieldType), Jvm.Cond.code ({ cls := "java/util/ArrayList", name := "grow", desc := "()[Ljava/lang/Object;" } : Jvm.MethodName) jdk_38_method_7_code (1 : Nat) (Option.some (Jvm.ClassFile.FieldType.array (Jvm.ClassFile.FieldType.object "java/lang/Object"))), Jvm.Cond.code ({ cls := "java/util/ArrayList", name := "grow", desc := "(I)[Ljava/lang/Object;" } : Jvm.MethodName) jdk_38_method_6_code (4 : Nat) (Option.some (Jvm.ClassFile.FieldType.array (Jvm.ClassFile.FieldType.object "java/lang/Object"))), Jvm.Cond.code ({ cls := "java/lang/Math", name := "max", desc := "(II)I" } : Jvm.MethodName) jdk_29_method_65_code (2 : Nat) (Option.some Jvm.ClassFile.FieldType.int), Jvm.Cond.code ({ cls := "com/example/tierline/tierline/csv/LineProblems", name := "addConflict", desc := "(ILjava/lang/String;)V" } : Jvm.MethodName) prog_48_method_4_code (3 : Nat) (Option.none : Option Jvm.ClassFile.FieldType), Jvm.Cond.code ({ cls := "java/util/ArrayList", name := "get", desc := "(I)Ljava/lang/Object;" } : Jvm.MethodName) jdk_38_method_20_code (2 : Nat) (Option.some (Jvm.ClassFile.FieldType.object "java/lang/Object")), Jvm.Cond.code ({ cls := "java/util/Objects", name := "checkIndex", desc := "(II)I" } : Jvm.MethodName) jdk_31_method_17_code (2 : Nat) (Option.some Jvm.ClassFile.FieldType.int), Jvm.Cond.code ({ cls := "jdk/internal/util/Preconditions", name := "checkIndex", desc := "(IILjava/util/function/BiFunction;)I" } : Jvm.MethodName) jdk_41_method_11_code (3 : Nat) (Option.some Jvm.ClassFile.FieldType.int), Jvm.Cond.code ({ cls := "java/util/ArrayList", name := "elementData", desc := "(I)Ljava/lang/Object;" } : Jvm.MethodName) jdk_38_method_18_code (2 : Nat) (Option.some (Jvm.ClassFile.FieldType.object "java/lang/Object")), Jvm.Cond.code ({ cls := "com/example/tierline/tierline/csv/LineProblems", name := "listsAfter", desc := "(Lcom/example/tierline/tierline/csv/LineProblems$Problem;Lcom/example/tierline/tierline/csv/LineProblems$Problem;Z)Z" } : Jvm.MethodName) prog_48_method_6_code (3 : Nat) (Option.some Jvm.ClassFile.FieldType.boolean), Jvm.Cond.code ({ cls := "com/example/tierline/tierline/csv/LineProblems", name := "addAheadOnLine", desc := "(ILjava/lang/String;)V" } : Jvm.MethodName) prog_48_method_3_code (3 : Nat) (Option.none : Option Jvm.ClassFile.FieldType)]
set_option maxRecDepth 65536 in
theorem codes_eq : words1.filter isCode = codes1 := rfl
theorem w_codes : ∀ c ∈ words1.filter isCode, c.before args0 about1 = true := by
  rw [codes_eq]
  intro c hc
  simp only [codes1, List.mem_cons, List.not_mem_nil, or_false] at hc
  rcases hc with rfl | rfl | rfl | rfl | rfl | rfl | rfl | rfl | rfl | rfl | rfl | rfl | rfl | rfl | rfl | rfl | rfl | rfl | rfl | rfl | rfl | rfl | rfl | rfl | rfl | rfl | rfl | rfl
  · exact w_c0
  · exact w_c1
  · exact w_c2
  · exact w_c3
  · exact w_c4
  · exact w_c5
  · exact w_c6
  · exact w_c7
  · exact w_c8
  · exact w_c9
  · exact w_c10
  · exact w_c11
  · exact w_c12
  · exact w_c13
  · exact w_c14
  · exact w_c15
  · exact w_c16
  · exact w_c17
  · exact w_c18
  · exact w_c19
  · exact w_c20
  · exact w_c21
  · exact w_c22
  · exact w_c23
  · exact w_c24
  · exact w_c25
  · exact w_c26
  · exact w_c27
set_option maxRecDepth 65536 in
theorem w_t1 : (words1.take 24).all (fun c => isCode c || c.before args0 about1) = true := by decide +kernel
set_option maxRecDepth 65536 in
theorem w_t2 : ((words1.drop 24).take 24).all (fun c => isCode c || c.before args0 about1) = true := by decide +kernel
set_option maxRecDepth 65536 in
theorem w_t3 : (((words1.drop 24).drop 24).take 24).all (fun c => isCode c || c.before args0 about1) = true := by decide +kernel
set_option maxRecDepth 65536 in
theorem w_t4 : ((((words1.drop 24).drop 24).drop 24).take 24).all (fun c => isCode c || c.before args0 about1) = true := by decide +kernel
set_option maxRecDepth 65536 in
theorem w_t5 : (((((words1.drop 24).drop 24).drop 24).drop 24).take 24).all (fun c => isCode c || c.before args0 about1) = true := by decide +kernel
set_option maxRecDepth 65536 in
theorem w_t6 : ((((((words1.drop 24).drop 24).drop 24).drop 24).drop 24).take 24).all (fun c => isCode c || c.before args0 about1) = true := by decide +kernel
set_option maxRecDepth 65536 in
theorem w_t7 : (((((((words1.drop 24).drop 24).drop 24).drop 24).drop 24).drop 24).take 24).all (fun c => isCode c || c.before args0 about1) = true := by decide +kernel
set_option maxRecDepth 65536 in
theorem w_t8 : (((((((words1.drop 24).drop 24).drop 24).drop 24).drop 24).drop 24).drop 24).all (fun c => isCode c || c.before args0 about1) = true := by decide +kernel
theorem w_tables : (allAtoms (Jvm.Cond.code x code maxLocals ret :: tables_1)).before args0 about1 = true := by
  rw [allAtoms_all]
  show words1.all (fun c => c.before args0 about1) = true
  refine all_split ?_ w_codes
  rw [← List.take_append_drop 24 words1, List.all_append, w_t1, ← List.take_append_drop 24 (words1.drop 24), List.all_append, w_t2, ← List.take_append_drop 24 ((words1.drop 24).drop 24), List.all_append, w_t3, ← List.take_append_drop 24 (((words1.drop 24).drop 24).drop 24), List.all_append, w_t4, ← List.take_append_drop 24 ((((words1.drop 24).drop 24).drop 24).drop 24), List.all_append, w_t5, ← List.take_append_drop 24 (((((words1.drop 24).drop 24).drop 24).drop 24).drop 24), List.all_append, w_t6, ← List.take_append_drop 24 ((((((words1.drop 24).drop 24).drop 24).drop 24).drop 24).drop 24), List.all_append, w_t7, w_t8]
  rfl
set_option maxRecDepth 65536 in
theorem w_rest : rest_1_c.before args0 about1 = true := by decide +kernel
set_option maxRecDepth 65536 in
theorem w_case : (Jvm.Cond.and given_1 narrow_1).before args0 about1 = true := by decide +kernel
theorem w_applies : (headSpec (Jvm.Cond.code x code maxLocals ret :: tables_1) room_1).applies x e0.platform about1 = true :=
  (Spec.applies_iff w_frames).mpr ⟨w_running, w_runnable, w_alone, w_named, w_hears, w_ripe, w_room, w_tables⟩
theorem atStart : AtStart classFile x code maxLocals ret World_1 tables_1 room_1 Calls_1 rest_1 Pre_1 launch0 p0 e0 about1 theMethod args0 below0 :=
  ⟨lists_1, trivial, launch0.admits_env _ _ _, launch0.least_env, fairChoices_fair.cas, fairChoices_fair.clock, w_frames, w_args, w_heap, w_applies, trivial, w_rest, w_case⟩
end start1
theorem witness_1 : WitnessClaimed_1 := ⟨start1.p0, start1.e0, start1.about1, start1.theMethod, start1.args0, start1.below0, start1.atStart⟩
end Jvm.Pilot.@@N@@
