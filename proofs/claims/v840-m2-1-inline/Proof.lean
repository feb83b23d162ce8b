import JvmDerived
import JvmDerived.Pilot.@@N@@Statement
import JvmDerived.Pilot.@@N@@Code
set_option linter.unusedVariables false
set_option linter.unusedSimpArgs false
namespace Jvm.Pilot.@@N@@
open Jvm Jvm.ClassFile Sem Op Lib Jvm.Free Jvm.Stand Jvm.LawKit Jvm.RoadKit Bundle Jvm.Pilot.@@N@@.Jvm.D
section Own
variable {p : Program} {l : Launch} {e : Env} {R : Room} {s : State} {m : MethodId} {args : Array Value} {below : List Frame} {meth : Method} {c : Code} {T : State} {locs : List Loc} {cells slots : Nat} {P : Option Value → Heap → List Loc → Prop} {kk nn : Nat}
/-- from U a run comes to an end at which P holds, within kk cells and nn slots -/
def Go (p : Program) (e : Env) (below : List Frame) (s : State) (P : Option Value → Heap → List Loc → Prop) (kk nn : Nat) (U : State) : Prop :=
  ∃ s₂ o, Steps p.tables e below U s₂ ∧ s₂.status = .running ∧ Ended s₂ below o ∧ ∃ v L, o = .returned v ∧ P v s₂.heap L ∧ FrameEnd s o s₂ L kk nn
theorem Go.pull {U V : State} (h : ∀ t, Steps p.tables e below V t → Steps p.tables e below U t) (g : Go p e below s P kk nn V) : Go p e below s P kk nn U := by
  obtain ⟨s2, o, h1, h2⟩ := g
  exact ⟨s2, o, h _ h1, h2⟩
theorem Go.fin (X : Stand p l e R s m args below meth c T locs cells slots) {f : JFrame} {v : Option Value} (hlk : meth.locks = false) (hv : meth.sig.returnType = none → v = none)
    (hs : ∀ fs, (∀ (f : JFrame) (acts : List Action), f.method = m → f.locked = none → f.entered = [] → (doReturn e (T.setTop f) acts v).1 = T.setFrames fs) → Steps p.tables e below (T.setTop f) (T.setFrames fs))
    (hP : P v T.heap locs) (hk : cells ≤ kk) (hn : slots ≤ nn) : Go p e below s P kk nn (T.setTop f) := by
  obtain ⟨fs, hr, hrun, hended, hW, hsame⟩ := X.leave (v := v) hv hlk
  exact ⟨_, _, hs fs hr, hrun, hended, _, _, rfl, hP, ⟨_, rfl⟩, hW, hsame.mono hk hn⟩
theorem Go.retN (X : Stand p l e R s m args below meth c T locs cells slots) (hx : p.tables.exec = Jvm.exec) (hlk : meth.locks = false) {pc : Nat} {Ls : Array Slot} {z : Int32} {t : FieldType} {rest : List Value} (hret : meth.sig.returnType = some t) (ht : t = .boolean ∨ t = .byte ∨ t = .char ∨ t = .short)
    (hd : decode c.code pc = .ok (.ireturn, 1)) (hP : P (some (.int (nar t z))) T.heap locs) (hk : cells ≤ kk) (hn : slots ≤ nn) : Go p e below s P kk nn (T.setTop (mkF m pc Ls (.int z :: rest))) :=
  Go.fin X hlk (fun h => by rw [hret] at h; cases h) (fun fs hr => RoadKit.retN X hx hret ht hd hr) hP hk hn
theorem Go.retI (X : Stand p l e R s m args below meth c T locs cells slots) (hx : p.tables.exec = Jvm.exec) (hlk : meth.locks = false) {pc : Nat} {Ls : Array Slot} {z : Int32} {rest : List Value} (hret : meth.sig.returnType = some .int)
    (hd : decode c.code pc = .ok (.ireturn, 1)) (hP : P (some (.int z)) T.heap locs) (hk : cells ≤ kk) (hn : slots ≤ nn) : Go p e below s P kk nn (T.setTop (mkF m pc Ls (.int z :: rest))) :=
  Go.fin X hlk (fun h => by rw [hret] at h; cases h) (fun fs hr => retOut X hx hret rfl (Or.inl ⟨rfl, Or.inl rfl, z, rfl⟩) hd hr) hP hk hn
theorem Go.retJ (X : Stand p l e R s m args below meth c T locs cells slots) (hx : p.tables.exec = Jvm.exec) (hlk : meth.locks = false) {pc : Nat} {Ls : Array Slot} {z : Int64} {rest : List Value} (hret : meth.sig.returnType = some .long)
    (hd : decode c.code pc = .ok (.lreturn, 1)) (hP : P (some (.long z)) T.heap locs) (hk : cells ≤ kk) (hn : slots ≤ nn) : Go p e below s P kk nn (T.setTop (mkF m pc Ls (.long z :: rest))) :=
  Go.fin X hlk (fun h => by rw [hret] at h; cases h) (fun fs hr => retOut X hx hret rfl (Or.inr (Or.inl ⟨rfl, rfl, z, rfl⟩)) hd hr) hP hk hn
theorem Go.retR (X : Stand p l e R s m args below meth c T locs cells slots) (hx : p.tables.exec = Jvm.exec) (hlk : meth.locks = false) {pc : Nat} {Ls : Array Slot} {w : Value} {t : FieldType} {rest : List Value} (hret : meth.sig.returnType = some t) (hna : narrow t w = w) (ht : t.isReference = true) (hw : w.isRef = true)
    (hd : decode c.code pc = .ok (.areturn, 1)) (hP : P (some w) T.heap locs) (hk : cells ≤ kk) (hn : slots ≤ nn) : Go p e below s P kk nn (T.setTop (mkF m pc Ls (w :: rest))) :=
  Go.fin X hlk (fun h => by rw [hret] at h; cases h) (fun fs hr => retOut X hx hret hna (Or.inr (Or.inr (Or.inr (Or.inr ⟨rfl, ht, hw⟩)))) hd hr) hP hk hn
theorem Go.ret0 (X : Stand p l e R s m args below meth c T locs cells slots) (hx : p.tables.exec = Jvm.exec) (hlk : meth.locks = false) {pc : Nat} {Ls : Array Slot} (hret : meth.sig.returnType = none)
    (hd : decode c.code pc = .ok (.return_, 1)) (hP : P none T.heap locs) (hk : cells ≤ kk) (hn : slots ≤ nn) : Go p e below s P kk nn (T.setTop (mkF m pc Ls [])) :=
  Go.fin X hlk (fun _ => rfl) (fun fs hr => X.returnOut hx hret hd hr) hP hk hn
theorem own_lsw {tb : Tables} [Ours tb] {e : Env} {below : List Frame} {T target : State} {m : MethodId} {c : Code} {g : JFrame} (h : At T m c below) (hx : tb.exec = Jvm.exec) (hg : g.method = m) {dflt : Int} {prs : Array (Int × Int)} {len : Nat} {o : Int} {pc0 pc' : Nat} (hpc : g.pc = pc0)
    (hd : decode c.code g.pc = .ok (.lookupswitch dflt prs, len)) {i : Int32} {rest : List Value} (hs : g.stack = .int i :: rest) (hord : (prs.toList.zip (prs.toList.drop 1)).all (fun (a, next) => a.1 < next.1) = true) (hoff : lookupswitch.offset prs.toList dflt i.toInt = o)
    (ho : 0 ≤ (pc0 : Int) + o) (hp : ((pc0 : Int) + o).toNat = pc') (hr : Steps tb e below (T.setTop { g with pc := pc', stack := rest }) target) : Steps tb e below (T.setTop g) target := by
  subst hg hpc hp hoff
  jvm_step h [h.top, hx, hd, hs, ho, lookupswitch.wp_chain]
  exact ⟨by simpa using hord, hr⟩
theorem own_eq_i {t : Term} {n : Int32} {first : State} {o : Option Outcome} {idx : List Nat} (h : (Cond.eq t (.int n)).value args first o s idx = some true) : t.eval args first o idx s = some (.int n) := by
  obtain ⟨x, y, e1, e2, k1, k2⟩ := cmp_v (Or.inl h)
  cases (Term.int_eval n).symm.trans e2
  obtain ⟨z, rfl⟩ : ∃ z, x = .int z := k2
  rw [e1, gotT (Cond.eq_ints e1 e2) h]
theorem own_eq_l {t : Term} {n : Int64} {first : State} {o : Option Outcome} {idx : List Nat} (h : (Cond.eq t (.long n)).value args first o s idx = some true) : t.eval args first o idx s = some (.long n) := by
  obtain ⟨x, y, e1, e2, k1, k2⟩ := cmp_v (Or.inl h)
  have e3 : (Term.long n).eval args first o idx s = some (.long n) := rfl
  cases e3.symm.trans e2
  obtain ⟨z, rfl⟩ : ∃ z, x = .long z := k2
  rw [e1, gotT (eq_L e1 e2) h]
theorem own_eq_r {t u : Term} {a : Addr} {first : State} {o : Option Outcome} {idx : List Nat} (hu : u.eval args first o idx s = some (.ref a)) (h : (Cond.eq t u).value args first o s idx = some true) : t.eval args first o idx s = some (.ref a) := by
  obtain ⟨x, y, e1, e2, k1, k2⟩ := cmp_v (Or.inl h)
  cases hu.symm.trans e2
  have k3 : (Value.ref a).isRef = true ∧ x.isRef = true := k2
  rw [e1, gotT (eq_R e1 e2 k3.2 rfl) h]
theorem own_mvM {Z : State} {a0 args : Array Value} {own host : String} {index : Nat} {y : MethodName} (hZ : Z.Warmed39 s.vm) (w : (Cond.methodLinkNest own index y host).before a0 Z = true) : (Cond.methodLinkNest own index y host).before args s = true := (Cond.methodLinkNest_wide hZ w :)
theorem own_sta_keep {Z : State} {h h' : Heap} {C n d : String} {w : Value} {ws : List Addr} (F : Sta Z h C n d w) (K : Keep h h' ws) (q : ∀ x ∈ ws, ∃ c : Cell, h[x]? = some c ∧ ∀ q, c.vm ≠ .statics q) : Sta Z h' C n d w := by
  obtain ⟨cf, i, k, f, st, cell, h1, h2, h3, h4, h5, h6, h7⟩ := F
  refine ⟨cf, i, k, f, st, cell, h1, h2, h3, h4, K.2.1 st cell h5 (fun hm => ?_), h6, h7⟩
  obtain ⟨c, hc, hq⟩ := q st hm
  cases h5.symm.trans hc
  cases hv : cell.vm with
  | statics r => exact hq r hv
  | _ => rw [hv] at h6; cases h6
end Own
section OwnRef
variable {p : Program} {l : Launch} {e : Env} {R : Room} {s : State} {m : MethodId} {args : Array Value} {below : List Frame} {meth : Method} {c : Code} {T : State} {locs : List Loc} {cells slots : Nat} {P : Option Value → Heap → List Loc → Prop} {kk nn : Nat}
/-- a constructor through an entry that has been resolved already -/
theorem own_specialRef (X : Stand p l e R s m args below meth c T locs cells slots) (hexec : p.tables.exec = Jvm.exec) {Z : State} {a0 : Array Value} (hZ : Z.Warmed39 s.vm) {own : String} {index : Nat} {y : MethodName} (hy1 : y.name = "<init>")
    (hown : s.vm.findClass own = some m.cls) (wl : (Cond.methodRef own index y).before a0 Z = true) (wi : (Cond.instanceMethod y).before a0 Z = true) {bytes : ByteArray} {maxL : Nat} (wc : (Cond.code y bytes maxL none).before a0 Z = true)
    (hy : y.cls ≠ "java/lang/invoke/MethodHandle" ∧ y.cls ≠ "java/lang/invoke/VarHandle")
    {W : Nat} {Pre : Pt → Array Value → Prop} {Post : Pt → Array Value → Option Value → Pt → Prop} (hK : Back l R p e below s args y 3 W Pre Post)
    {g : JFrame} (hg : g.method = m) (hsize : g.locals.size = c.maxLocals) {a : Addr} {argsL rest : List Value}
    (hlen : ∀ sig, parseMethodDescriptor y.desc = some sig → argsL.length = sig.parameters.length) (hstack : g.stack = argsL.reverse ++ .ref a :: rest) (hW : 2 * g.monitorRoom + (rest.map fun v => v.category).sum ≤ W)
    (hdg : decode c.code g.pc = .ok (.invokespecial index, 3)) (hpre : ∀ vm₁, s.WarmedH vm₁ → Pre ⟨T.setVm vm₁, locs, cells, slots⟩ (.ref a :: argsL).toArray) :
    ∃ (v : Option Value) (vm₁ : Vm) (B : Pt), s.WarmedH vm₁ ∧ Stand p l e R s m args below meth c B.U B.locs B.cells B.slots ∧ Post ⟨T.setVm vm₁, locs, cells, slots⟩ (.ref a :: argsL).toArray v B ∧
      Steps p.tables e below (T.setTop g) (B.U.setTop { g with pc := g.pc + 3, stack := v.toList ++ rest }) := by
  have hZT : Z.Warmed39 T.vm := wtrans hZ X.warmed
  have hi : (Cond.instanceMethod y).before a0 T = true := mv hZT wi
  have hcd : (Cond.code y bytes maxL none).before a0 T = true := mv hZT wc
  obtain ⟨obj, methO, hnO, hmO, hstO, habO⟩ := Cond.instanceMethod_spec hi
  obtain ⟨methO', cO, hmO', -, -, -, -, -, -, hsigO⟩ := Cond.code_spec hnO hcd
  cases hmO.symm.trans hmO'
  obtain ⟨kO, hkO, hnameO⟩ := className_of_methodNamed hnO
  obtain ⟨hnameMO, hdescO⟩ := name_of_methodNamed hnO hmO
  obtain ⟨objZ, methZ, hnZ, -⟩ := Cond.instanceMethod_spec wi
  have hr : (Cond.methodRef own index y).before a0 (Z.setVm T.vm) = true := Cond.methodRef_warmed39 hZT hnZ hy wl
  have hcur : (Z.setVm T.vm).vm.findClass own = some m.cls := by
    show T.vm.findClass own = _
    rw [X.warmed.alike.findClass]; exact hown
  obtain ⟨m', c', hf, hready, hfind, hres⟩ := Cond.methodRef_named e hcur hr
  have hnT : (Z.setVm T.vm).methodNamed? y = some obj := hnO
  have hmm : m' = obj := Option.some.inj (hf.symm.trans (State.methodFound?_of_named hnT hy))
  subst hmm
  have hc' : c' = m'.cls := Option.some.inj (hfind.symm.trans (findClass_of_methodNamed hnT))
  subst hc'
  have hfound : lookupSpecial T.vm m'.cls "<init>" methO.desc = .method m' := by
    rw [hdescO, ← hy1]; exact lookupSpecial_of_named hnO hmO hstO
  have X₁ := X.noted X.warmed
  obtain ⟨v, B, X', hpost, hsteps⟩ := hK m meth c ⟨T.setVm T.vm, locs, cells, slots⟩ { g with stack := rest } (.invokespecial index) m' (.ref a :: argsL).toArray X₁ hg hsize hdg hW (by exact hnO) (hpre T.vm X.warmed)
  refine ⟨v, T.vm, B, X.warmed, X', hpost, ?_⟩
  subst hg
  refine Steps.trans ?_ hsteps
  jvm_step X.here [hexec, hdg, invokespecial.wp_init (e := e) (s := T) (k := kO) (meth := methO) (m := m') (a := a) (args := argsL) (rest := rest) (f := g) X.here.top hres hready hkO hmO (by rw [hnameMO]; exact hy1) hstO habO hfound (hlen _ hsigO) hstack]
  intro acts
  rw [doInvoke_state]
  exact Steps.refl _
/-- as Go, the frame's end being the wide one -/
def GoW (p : Program) (e : Env) (below : List Frame) (s : State) (P : Option Value → Heap → List Loc → Prop) (kk nn : Nat) (U : State) : Prop :=
  ∃ s₂ o, Steps p.tables e below U s₂ ∧ s₂.status = .running ∧ Ended s₂ below o ∧ ∃ v L, o = .returned v ∧ P v s₂.heap L ∧ ReturnedEndW s o s₂ L kk nn
theorem Go.wide {vm₁ : Vm} {U : State} {k : Nat} (hS : s.Since vm₁ k) (g : Go p e below (s.setVm vm₁) (fun v h L => P v h L ∧ k ≤ h.size) kk nn U) : GoW p e below s P kk nn U := by
  obtain ⟨s2, o, h1, h2, h3, v, L, rfl, hP, h4, hWm, hsame⟩ := g
  obtain ⟨a, b, c'⟩ := hS.ended (U := s2) hWm hP.2 hsame
  exact ⟨s2, _, h1, h2, h3, v, L, rfl, hP.1, ⟨v, rfl⟩, a, b, c'⟩
theorem GoW.pull {U V : State} (h : ∀ t, Steps p.tables e below V t → Steps p.tables e below U t) (g : GoW p e below s P kk nn V) : GoW p e below s P kk nn U := by
  obtain ⟨s2, o, h1, h2⟩ := g
  exact ⟨s2, o, h _ h1, h2⟩
end OwnRef
section OwnSB
variable {p : Program} {l : Launch} {e : Env} {R : Room} {s : State} {m : MethodId} {args : Array Value} {below : List Frame} {meth : Method} {c : Code} {T : State} {locs : List Loc} {cells slots : Nat} {P : Option Value → Heap → List Loc → Prop} {kk nn : Nat} {Z : State} {a0 : Array Value}
theorem own_same {y : MethodName} (hy : y.cls ≠ "java/lang/invoke/MethodHandle" ∧ y.cls ≠ "java/lang/invoke/VarHandle") (hd : (Cond.declares y).before a0 Z = true) {C : String} {x z : MethodName} (hs : (Cond.selects C x z).before a0 Z = true) (hz : z.cls = y.cls) :
    (Cond.sameMethod y.cls y.cls y.name y.desc).before a0 Z = true := by
  obtain ⟨m1, hm1⟩ : ∃ m1, Z.methodNamed? y = some m1 := by
    simp only [Cond.before, Cond.holds, Cond.value] at hd
    cases h : Z.methodNamed? y with
    | none => simp [h] at hd
    | some m1 => exact ⟨m1, rfl⟩
  obtain ⟨c2, r2, m2, -, -, q3, -, kP, hkP, hkPi⟩ := Cond.selects_spec hs
  have hc := findClass_of_methodNamed hm1
  have hc2 := findClass_of_methodNamed q3
  rw [hz] at hc2
  have hcc : m2.cls = m1.cls := Option.some.inj (hc2.symm.trans hc)
  rw [hcc] at hkP
  have hf : Z.methodFound? y.cls y.name y.desc = some m1 := State.methodFound?_of_named hm1 hy
  have hn : Z.methodNamed? ⟨y.cls, y.name, y.desc⟩ = some m1 := hm1
  simp only [Cond.before, Cond.holds, Cond.value, hc, hf, hn, hkP]
  simp [hkPi]
theorem own_selP {y : MethodName} {C : String} (hZ : Z.Warmed39 s.vm) (hs : (Cond.selects C y y).before a0 Z = true) (hp : (Cond.privateMethod y).before a0 Z = true) (hi : (Cond.instanceMethod y).before a0 Z = true) (hy : y.cls ≠ "java/lang/invoke/MethodHandle" ∧ y.cls ≠ "java/lang/invoke/VarHandle") :
    (Cond.selects y.cls y y).before args s = true := by
  obtain ⟨c2, r2, m2, -, -, q3, -, kP, hkP, hkPi⟩ := Cond.selects_spec (mvT (args := args) hZ hs)
  exact selects_self_of_private (findClass_of_methodNamed q3) hkP hkPi (Cond.privateMethod_at (mvP hZ hp (args := #[]))) (mvT hZ hi) hy
theorem own_nface {y : MethodName} (hZ : Z.Warmed39 s.vm) {C : String} {x z : MethodName} (hs : (Cond.selects C x z).before a0 Z = true) (hz : z.cls = y.cls) : NotFace s y := fun r0 h0 => by
  obtain ⟨c2, r2, m2, -, -, q3, -, kP, hkP, hkPi⟩ := Cond.selects_spec (mvT (args := a0) hZ hs)
  have hc2 := findClass_of_methodNamed q3
  rw [hz] at hc2
  have hcc : m2.cls = r0.cls := Option.some.inj (hc2.symm.trans (findClass_of_methodNamed h0))
  exact ⟨kP, hcc ▸ hkP, hkPi⟩
theorem own_sub0 (x : Int32) : (x - (0 : Int32)) = x := by simp
theorem own_0add (x : Int32) : ((0 : Int32) + x) = x := by simp
theorem own_ishr0 (x : Int32) : (x >>> ((0 : Int32) &&& 31)) = x := by
  rw [show ((0 : Int32) &&& 31) = 0 from rfl]; exact Int32.shiftRight_zero
theorem own_ishl0 (x : Int32) : (x <<< ((0 : Int32) &&& 31)) = x := by
  rw [show ((0 : Int32) &&& 31) = 0 from rfl]; exact Int32.shiftLeft_zero
/-- as GoW, and the booked texts hold on -/
def GoS (Z : State) (EL : List (String × Nat)) (p : Program) (e : Env) (below : List Frame) (s : State) (P : Option Value → Heap → List Loc → Prop) (kk nn : Nat) (U : State) : Prop :=
  ∃ s₂ o, Steps p.tables e below U s₂ ∧ s₂.status = .running ∧ Ended s₂ below o ∧ ∃ v L, o = .returned v ∧ P v s₂.heap L ∧ CHr Z EL s.vm s.heap s₂.vm s₂.heap ∧ ReturnedEndW s o s₂ L kk nn
theorem GoS.pull {EL : List (String × Nat)} {U V : State} (h : ∀ t, Steps p.tables e below V t → Steps p.tables e below U t) (g : GoS Z EL p e below s P kk nn V) : GoS Z EL p e below s P kk nn U := by
  obtain ⟨s2, o, h1, h2⟩ := g
  exact ⟨s2, o, h _ h1, h2⟩
theorem Go.booked {EL : List (String × Nat)} {vm₁ : Vm} {U : State} {k : Nat} (hS : s.Since vm₁ k) (hZ : Z.Warmed39 vm₁) (w : EW Z a0 EL) (g : Go p e below (s.setVm vm₁) (fun v h L => P v h L ∧ k ≤ h.size ∧ CHr Z EL s.vm s.heap vm₁ h) kk nn U) : GoS Z EL p e below s P kk nn U := by
  obtain ⟨s2, o, h1, h2, h3, v, L, rfl, hP, h4, hWm, hsame⟩ := g
  obtain ⟨a, b, c'⟩ := hS.ended (U := s2) hWm hP.2.1 hsame
  have q := CHv.later (h := s2.heap) (h' := s2.heap) hZ (hW := (show (Wst Z vm₁ s2.heap).Warmed39 s2.vm from hWm.wide)) w ⟨Nat.le_refl _, fun _ _ q => q⟩ (Or.inl hWm.interned_eq) hP.2.2.1
  exact ⟨s2, _, h1, h2, h3, v, L, rfl, hP.1, hP.2.2.trans ⟨q.1, Nat.le_refl _, q.2⟩, ⟨v, rfl⟩, a, b, c'⟩
end OwnSB
section OwnDig
def own_cut (vs : List Value) (pn : Int32) : List Value := (List.range pn.toNatClampNeg).map fun i => vs.getD ((0 : Int32).toNatClampNeg + i) (.int 0)
theorem own_cpres (us : List Value) (n : Nat) (d : Value) : (List.replicate n d).take (0 : Int32).toNatClampNeg ++ us ++ (List.replicate n d).drop ((0 : Int32).toNatClampNeg + n) = us := by
  rw [show (0 : Int32).toNatClampNeg = 0 from rfl]; simp
theorem own_le16 {pn : Int32} (h : pn < 16) : pn.toNatClampNeg ≤ 16 := by
  rw [Int32.lt_iff_toInt_lt, show (16 : Int32).toInt = 16 from rfl] at h; rw [Int32.toNatClampNeg]; omega
theorem own_le16' {pn : Int32} (h : pn < 16) : (0 : Int32).toNatClampNeg + pn.toNatClampNeg ≤ (16 : Int32).toNatClampNeg := by
  rw [show (0 : Int32).toNatClampNeg = 0 from rfl, show (16 : Int32).toNatClampNeg = 16 from rfl, Nat.zero_add]; exact own_le16 h
theorem own_ne16 {pn : Int32} (h : pn < 16) : ¬ pn = 16 := fun q => by subst q; exact absurd h (by decide)
def own_ones : List Value := (List.range 100).map fun i => Value.int ((48 : Int32) + i.toInt32 % 10)
def own_tens : List Value := (List.range 100).map fun i => Value.int ((48 : Int32) + i.toInt32 / 10)
def own_dig (pv c : Int32) : Int32 := (48 : Int32) + (pv / c) % 10
theorem own_nn {x : Int32} (h : ¬ x < 0) : 0 ≤ x.toInt := by
  rw [Int32.lt_iff_toInt_lt] at h; have : (0 : Int32).toInt = 0 := rfl; omega
theorem own_neglt (pv c : Int32) (h0 : ¬ pv < 0) (hc : 0 < c.toInt) : (-c) < (-pv) ↔ pv < c := by
  have h1 := own_nn h0
  have h2 := c_ineg pv; have h3 := c_ineg c
  have b1 := pv.toInt_lt; have b2 := c.toInt_lt; have b3 := (-pv).le_toInt; have b4 := (-c).le_toInt; have b5 := (-pv).toInt_lt; have b6 := (-c).toInt_lt
  rw [Int32.lt_iff_toInt_lt, Int32.lt_iff_toInt_lt]
  have hn : (-pv).toInt = -pv.toInt := by omega
  have hm : (-c).toInt = -c.toInt := by omega
  omega
theorem own_turn0 {pv : Int32} (h0 : ¬ pv < 0) : (-pv).toInt = -(pv.toInt / 1) := by
  have h1 := own_nn h0; have h2 := c_ineg pv; have b1 := pv.toInt_lt; have b3 := (-pv).le_toInt; have b5 := (-pv).toInt_lt
  omega
theorem own_turn {pv q : Int32} {c c' : Int} (h0 : ¬ pv < 0) (hc : 0 < c) (hcc : c' = c * 100) (hq : q.toInt = -(pv.toInt / c)) : (q / 100).toInt = -(pv.toInt / c') := by
  have h1 := own_nn h0
  have hn : 0 ≤ pv.toInt / c := Int.ediv_nonneg h1 (Int.le_of_lt hc)
  subst hcc
  rw [← Int.ediv_ediv_of_nonneg (Int.le_of_lt hc)]
  obtain ⟨d1, d2⟩ := c_idiv q 100 100 (by decide) (by decide)
  by_cases z : q.toInt < 0
  · rw [d2 z, hq]; congr 2; omega
  · rw [d1 (by omega)]; omega
theorem own_rem {pv q : Int32} {c : Int} (h0 : ¬ pv < 0) (hc : 0 < c) (hq : q.toInt = -(pv.toInt / c)) : (((q / 100) * (100 : Int32)) - q).toInt = (pv.toInt / c) % 100 := by
  have h1 := own_nn h0
  have hn : 0 ≤ pv.toInt / c := Int.ediv_nonneg h1 (Int.le_of_lt hc)
  have b := q.le_toInt
  generalize pv.toInt / c = k at hq hn
  obtain ⟨d1, d2⟩ := c_idiv q 100 100 (by decide) (by decide)
  have e1 : (q / 100).toInt = -(k / 100) := by
    by_cases z : q.toInt < 0
    · rw [d2 z, hq]; congr 2; omega
    · rw [d1 (by omega)]; omega
  have m1 := c_imul (q / 100) 100; have s1 := c_isub ((q / 100) * 100) q
  have b1 := ((q / 100) * (100 : Int32)).le_toInt; have b2 := ((q / 100) * (100 : Int32)).toInt_lt; have b3 := (((q / 100) * (100 : Int32)) - q).le_toInt; have b4 := (((q / 100) * (100 : Int32)) - q).toInt_lt
  rw [e1, show (100 : Int32).toInt = 100 from rfl] at m1
  omega
theorem own_dig_int {pv pc : Int32} {c : Int} (h0 : ¬ pv < 0) (hc : 0 < c) (hpc : pc.toInt = c) : (own_dig pv pc).toInt = 48 + (pv.toInt / c) % 10 := by
  have h1 := own_nn h0
  have hn : 0 ≤ pv.toInt / c := Int.ediv_nonneg h1 (Int.le_of_lt hc)
  have e1 : (pv / pc).toInt = pv.toInt / c := (c_idiv pv pc c hpc (fun z => by rw [z] at hpc; have : (-1 : Int32).toInt = -1 := rfl; omega)).1 h1
  have e2 : ((pv / pc) % 10).toInt = (pv.toInt / c) % 10 := by rw [← e1]; exact (c_irem (pv / pc) 10 10 (by decide)).1 (by rw [e1]; exact hn)
  have a1 := c_iadd 48 ((pv / pc) % 10)
  have b1 := (own_dig pv pc).le_toInt; have b2 := (own_dig pv pc).toInt_lt
  rw [e2, show (48 : Int32).toInt = 48 from rfl] at a1
  unfold own_dig at *
  omega
theorem own_in {r : Int32} {k : Int} (hr : r.toInt = k % 100) : ¬ r < 0 ∧ r < 100 := by
  rw [Int32.lt_iff_toInt_lt, Int32.lt_iff_toInt_lt, show (0 : Int32).toInt = 0 from rfl, show (100 : Int32).toInt = 100 from rfl]; omega
theorem own_ix {r : Int32} (h : ¬ r < 0 ∧ r < 100) : r.toNatClampNeg < 100 ∧ r.toNatClampNeg.toInt32 = r := by
  refine ⟨?_, (back32 h.1).1⟩
  have := h.2; rw [Int32.lt_iff_toInt_lt, show (100 : Int32).toInt = 100 from rfl] at this
  have := own_nn h.1
  rw [Int32.toNatClampNeg]; omega
theorem own_one {pv r pc : Int32} {c : Int} (h0 : ¬ pv < 0) (hc : 0 < c) (hpc : pc.toInt = c) (hr : r.toInt = (pv.toInt / c) % 100) : own_ones.getD r.toNatClampNeg (.int 0) = .int (own_dig pv pc) := by
  obtain ⟨i1, i2⟩ := own_ix (own_in hr)
  have e : own_ones.getD r.toNatClampNeg (.int 0) = .int ((48 : Int32) + r % 10) := by
    simp only [own_ones, List.getD_eq_getElem?_getD, List.getElem?_map, List.getElem?_range i1, Option.map_some, Option.getD_some, i2]
  rw [e]; congr 1
  apply Int32.toInt_inj.mp
  rw [own_dig_int h0 hc hpc]
  have n1 := own_nn (own_in hr).1
  have e2 : (r % 10).toInt = r.toInt % 10 := (c_irem r 10 10 (by decide)).1 n1
  have a1 := c_iadd 48 (r % 10); have b1 := ((48 : Int32) + r % 10).le_toInt; have b2 := ((48 : Int32) + r % 10).toInt_lt
  rw [e2, show (48 : Int32).toInt = 48 from rfl] at a1
  omega
theorem own_ten {pv r pc : Int32} {c c' : Int} (h0 : ¬ pv < 0) (hc : 0 < c) (hcc : c' = c * 10) (hpc : pc.toInt = c') (hr : r.toInt = (pv.toInt / c) % 100) : own_tens.getD r.toNatClampNeg (.int 0) = .int (own_dig pv pc) := by
  obtain ⟨i1, i2⟩ := own_ix (own_in hr)
  have e : own_tens.getD r.toNatClampNeg (.int 0) = .int ((48 : Int32) + r / 10) := by
    simp only [own_tens, List.getD_eq_getElem?_getD, List.getElem?_map, List.getElem?_range i1, Option.map_some, Option.getD_some, i2]
  rw [e]; congr 1
  apply Int32.toInt_inj.mp
  subst hcc
  rw [own_dig_int h0 (by omega) hpc, ← Int.ediv_ediv_of_nonneg (Int.le_of_lt hc)]
  have n1 := own_nn (own_in hr).1
  have e2 : (r / 10).toInt = r.toInt / 10 := (c_idiv r 10 10 (by decide) (by decide)).1 n1
  have a1 := c_iadd 48 (r / 10); have b1 := ((48 : Int32) + r / 10).le_toInt; have b2 := ((48 : Int32) + r / 10).toInt_lt
  rw [e2, show (48 : Int32).toInt = 48 from rfl] at a1
  omega
theorem own_narb {pv pc : Int32} {c : Int} (h0 : ¬ pv < 0) (hc : 0 < c) (hpc : pc.toInt = c) : nar .byte (own_dig pv pc) = own_dig pv pc := by
  have e := own_dig_int h0 hc hpc
  have h := c_i2b (own_dig pv pc)
  show (own_dig pv pc).toInt8.toInt32 = _
  apply Int32.toInt_inj.mp
  omega
theorem own_digc {pv pc q : Int32} {c : Int} (h0 : ¬ pv < 0) (hc : 0 < c) (hpc : pc.toInt = c) (hq : q = pc) : ((48 : Int32) + (pv / q) % 10).toUInt32.toUInt16.toUInt32.toInt32 = own_dig pv pc := by
  subst hq
  have e := own_dig_int h0 hc hpc
  show (own_dig pv q).toUInt32.toUInt16.toUInt32.toInt32 = _
  have h := c_i2c (own_dig pv q)
  apply Int32.toInt_inj.mp
  omega
/-- a byte 0 .. 127 read as a sign -/
theorem own_chr {w : Int32} (h : 0 ≤ w.toInt ∧ w.toInt < 128) : nar .char ((w &&& (255 : Int32)).toUInt32.toUInt16.toUInt32.toInt32) = w := by
  have m1 := c_mask w 255 8 (by decide) (by decide)
  have h1 := c_i2c (w &&& (255 : Int32))
  have e : (w &&& (255 : Int32)).toUInt32.toUInt16.toUInt32.toInt32 = w := by
    apply Int32.toInt_inj.mp; omega
  rw [e]
  show w.toUInt32.toUInt16.toUInt32.toInt32 = w
  have h2 := c_i2c w
  apply Int32.toInt_inj.mp; omega
theorem own_digr {pv pc : Int32} {c : Int} (h0 : ¬ pv < 0) (hc : 0 < c) (hpc : pc.toInt = c) : 0 ≤ (own_dig pv pc).toInt ∧ (own_dig pv pc).toInt < 128 := by
  have e := own_dig_int h0 hc hpc; omega
end OwnDig
section OwnTab
theorem own_eq_t {args : Array Value} {s first : State} {t u : Term} {n : Int32} {o : Option Outcome} {idx : List Nat} (hu : u.eval args first o idx s = some (.int n)) (h : (Cond.eq t u).value args first o s idx = some true) : t.eval args first o idx s = some (.int n) := by
  obtain ⟨x, y, e1, e2, k1, k2⟩ := cmp_v (Or.inl h)
  cases hu.symm.trans e2
  obtain ⟨z, rfl⟩ : ∃ z, x = .int z := k2
  rw [e1, gotT (Cond.eq_ints e1 e2) h]
theorem own_tab {args : Array Value} {s : State} {C n : String} {rhs : Term} {f : Nat → Int32} (hex : (Cond.exactly (.static C n "[B") "[B").before args s = true) (hlen : (Cond.eq (.length (.static C n "[B")) (.int 100)).before args s = true)
    (hall : (Cond.all (.static C n "[B") (.eq (.elem (.static C n "[B") (.index 0)) rhs)).before args s = true) (harr : (Cond.arrayClass .byte).before args s = true) (hrhs : ∀ r, r < 100 → rhs.eval args s none [r] s = some (.int (f r))) (hfb : ∀ r, r < 100 → fits .byte (.int (f r)) = true) :
    ∃ (d : Addr) (k : ClassId), (Term.static C n "[B").eval args s none [] s = some (.ref d) ∧ Arv s s.heap d k .byte 100 ((List.range 100).map fun i => Value.int (f i)) (.int 0) := by
  obtain ⟨d, cB, D, kB, hev, hfcB, hcellD, hkB, hstatD, hclsD, -⟩ := Cond.exactly_spec hex
  obtain ⟨cB', kB', comp, hnameB, hkB', hkindB⟩ := Cond.arrayClass_spec harr
  obtain ⟨d', D', hev', hat, -⟩ := Term.length_spec (Cond.eq_int hlen rfl)
  cases hev.symm.trans hev'
  obtain ⟨hc', hkn, -, -⟩ := State.arrayAt?_spec hat
  cases hcellD.symm.trans hc'
  cases hfcB.symm.trans (show s.vm.findClass "[B" = some cB' from hnameB)
  cases hkB.symm.trans hkB'
  have A : Arr s s.heap d D .byte := ⟨hcellD, ⟨(fun q h => by rw [h] at hstatD; cases hstatD), kB, (by rw [hclsD]; exact hkB), comp, hkindB⟩, hkn⟩
  obtain ⟨lq, le⟩ := Jvm.Free.IntBox.length_fwd hlen hev A.1 A.2.1 A.2.2
  have S : D.slots.size = (100 : Int32).toNatClampNeg := by rw [← le]; simp only [Int32.toNatClampNeg, len_toInt lq]; rfl
  have S' : D.slots.size = 100 := S
  have els : ∀ r, r < 100 → D.slots[r]? = some (.int (f r)) := fun r hr => by
    have h := Cond.all_elim hev hat (Cond.before_iff.mp hall) r (by omega)
    have e1 : (Nat.toInt32 r).toNatClampNeg = r := by simp only [Int32.toNatClampNeg, len_toInt (show r < 2 ^ 31 by omega)]; rfl
    have nn : ¬ (Nat.toInt32 r) < 0 := by
      rw [Int32.lt_iff_toInt_lt, len_toInt (show r < 2 ^ 31 by omega), show (0 : Int32).toInt = 0 from rfl]; omega
    have q1 := own_eq_t (hrhs r hr) h
    have ix := idx_at (args := args) (s := s) (first := s) (o := none) nn
    rw [e1] at ix
    have hevr : (Term.static C n "[B").eval args s none [r] s = some (.ref d) := by
      have : (Term.static C n "[B").eval args s none [r] s = (Term.static C n "[B").eval args s none [] s := by simp only [Term.eval]
      rw [this]; exact hev
    have q2 := (elem_in q1 hevr ix A.1).2
    rw [e1] at q2; exact q2
  have gd : ∀ r, r < 100 → ((List.range 100).map fun i => Value.int (f i)).getD r (.int 0) = .int (f r) := fun r hr => by
    simp only [List.getD_eq_getElem?_getD, List.getElem?_map, List.getElem?_range hr, Option.map_some, Option.getD_some]
  refine ⟨d, D.cls, hev, D, A, rfl, S, by decide, fun r hr => ?_, fun r hr => ?_⟩
  · rw [gd r (by omega)]; exact els r (by omega)
  · rw [gd r (by omega)]; exact hfb r (by omega)
end OwnTab
theorem pd_0 : parseMethodDescriptor "(ILjava/lang/String;ILjava/lang/String;I)V" = some ⟨[.int, (.object "java/lang/String"), .int, (.object "java/lang/String"), .int], none⟩ := by decide +kernel
theorem pd_1 : parseMethodDescriptor "(Ljava/lang/Object;Ljava/lang/Object;)Z" = some ⟨[(.object "java/lang/Object"), (.object "java/lang/Object")], some .boolean⟩ := by decide +kernel
theorem pd_2 : parseMethodDescriptor "()B" = some ⟨[], some .byte⟩ := by decide +kernel
theorem pd_3 : parseMethodDescriptor "(I)V" = some ⟨[.int], none⟩ := by decide +kernel
theorem pd_4 : parseMethodDescriptor "(Ljava/lang/String;)V" = some ⟨[(.object "java/lang/String")], none⟩ := by decide +kernel
theorem pd_5 : parseMethodDescriptor "([BIB)V" = some ⟨[(.array .byte), .int, .byte], none⟩ := by decide +kernel
theorem pd_6 : parseMethodDescriptor "()I" = some ⟨[], some .int⟩ := by decide +kernel
theorem pd_7 : parseMethodDescriptor "(ILjava/lang/String;)V" = some ⟨[.int, (.object "java/lang/String")], none⟩ := by decide +kernel
theorem pd_8 : parseMethodDescriptor "(Ljava/lang/String;)Ljava/lang/AbstractStringBuilder;" = some ⟨[(.object "java/lang/String")], some (.object "java/lang/AbstractStringBuilder")⟩ := by decide +kernel
theorem pd_9 : parseMethodDescriptor "(I)I" = some ⟨[.int], some .int⟩ := by decide +kernel
theorem pd_10 : parseMethodDescriptor "()Z" = some ⟨[], some .boolean⟩ := by decide +kernel
theorem pd_11 : parseMethodDescriptor "(II[B)I" = some ⟨[.int, .int, (.array .byte)], some .int⟩ := by decide +kernel
theorem pd_12 : parseMethodDescriptor "(I)Ljava/lang/AbstractStringBuilder;" = some ⟨[.int], some (.object "java/lang/AbstractStringBuilder")⟩ := by decide +kernel
theorem pd_13 : parseMethodDescriptor "(II)V" = some ⟨[.int, .int], none⟩ := by decide +kernel
theorem pd_14 : parseMethodDescriptor "(II)I" = some ⟨[.int, .int], some .int⟩ := by decide +kernel
theorem pd_15 : parseMethodDescriptor "([BII)[B" = some ⟨[(.array .byte), .int, .int], some (.array .byte)⟩ := by decide +kernel
theorem pd_16 : parseMethodDescriptor "()[B" = some ⟨[], some (.array .byte)⟩ := by decide +kernel
theorem pd_17 : parseMethodDescriptor "(Ljava/lang/AbstractStringBuilder;Ljava/lang/Void;)V" = some ⟨[(.object "java/lang/AbstractStringBuilder"), (.object "java/lang/Void")], none⟩ := by decide +kernel
theorem pd_18 : parseMethodDescriptor "(Ljava/lang/StringBuilder;)V" = some ⟨[(.object "java/lang/StringBuilder")], none⟩ := by decide +kernel
theorem pd_19 : parseMethodDescriptor "(IILjava/util/function/BiFunction;)I" = some ⟨[.int, .int, (.object "java/util/function/BiFunction")], some .int⟩ := by decide +kernel
theorem pd_20 : parseMethodDescriptor "([BI)C" = some ⟨[(.array .byte), .int], some .char⟩ := by decide +kernel
theorem pd_21 : parseMethodDescriptor "(I)C" = some ⟨[.int], some .char⟩ := by decide +kernel
theorem pd_22 : parseMethodDescriptor "()V" = some ⟨[], none⟩ := by decide +kernel
theorem pd_23 : parseMethodDescriptor "(Ljava/lang/String;)Ljava/lang/StringBuilder;" = some ⟨[(.object "java/lang/String")], some (.object "java/lang/StringBuilder")⟩ := by decide +kernel
theorem pd_24 : parseMethodDescriptor "(I)Ljava/lang/StringBuilder;" = some ⟨[.int], some (.object "java/lang/StringBuilder")⟩ := by decide +kernel
theorem pd_25 : parseMethodDescriptor "()Ljava/lang/String;" = some ⟨[], some (.object "java/lang/String")⟩ := by decide +kernel
theorem pd_26 : parseMethodDescriptor "(I)Lcom/example/salish/salish/SchemaFault$Place;" = some ⟨[.int], some (.object "com/example/salish/salish/SchemaFault$Place")⟩ := by decide +kernel
theorem pd_27 : parseMethodDescriptor "(Ljava/lang/String;III)Z" = some ⟨[(.object "java/lang/String"), .int, .int, .int], some .boolean⟩ := by decide +kernel
theorem pd_28 : parseMethodDescriptor "(Ljava/lang/Object;)Z" = some ⟨[(.object "java/lang/Object")], some .boolean⟩ := by decide +kernel
theorem z0_0 : decode prog_7_method_1_code 0 = .ok (.aload_n 0, 1) := by decide +kernel
theorem z0_1 : decode prog_7_method_1_code 1 = .ok (.invokespecial 1, 3) := by decide +kernel
theorem z0_4 : decode prog_7_method_1_code 4 = .ok (.aload_n 0, 1) := by decide +kernel
theorem z0_5 : decode prog_7_method_1_code 5 = .ok (.iload_n 1, 1) := by decide +kernel
theorem z0_6 : decode prog_7_method_1_code 6 = .ok (.putfield 7, 3) := by decide +kernel
theorem z0_9 : decode prog_7_method_1_code 9 = .ok (.aload_n 0, 1) := by decide +kernel
theorem z0_10 : decode prog_7_method_1_code 10 = .ok (.aload_n 2, 1) := by decide +kernel
theorem z0_11 : decode prog_7_method_1_code 11 = .ok (.putfield 13, 3) := by decide +kernel
theorem z0_14 : decode prog_7_method_1_code 14 = .ok (.aload_n 0, 1) := by decide +kernel
theorem z0_15 : decode prog_7_method_1_code 15 = .ok (.iload_n 3, 1) := by decide +kernel
theorem z0_16 : decode prog_7_method_1_code 16 = .ok (.putfield 17, 3) := by decide +kernel
theorem z0_19 : decode prog_7_method_1_code 19 = .ok (.aload_n 0, 1) := by decide +kernel
theorem z0_20 : decode prog_7_method_1_code 20 = .ok (.aload 4, 2) := by decide +kernel
theorem z0_22 : decode prog_7_method_1_code 22 = .ok (.putfield 20, 3) := by decide +kernel
theorem z0_25 : decode prog_7_method_1_code 25 = .ok (.aload_n 0, 1) := by decide +kernel
theorem z0_26 : decode prog_7_method_1_code 26 = .ok (.iload 5, 2) := by decide +kernel
theorem z0_28 : decode prog_7_method_1_code 28 = .ok (.putfield 23, 3) := by decide +kernel
theorem z0_31 : decode prog_7_method_1_code 31 = .ok (.return_, 1) := by decide +kernel
theorem efPi (m : MethodId) (x0 : Addr) (x1 : Int32) : entryFrame m #[(.ref x0), (.int x1), .null, (.int (-1)), .null, (.int 0)] 6 = mkF m 0 #[rv x0, iv x1, .val .null, iv (-1), .val .null, iv 0] [] := by first | (simp [entryFrame, mkF, argsToLocals, Value.category]; done) | rfl
theorem pn_com_example_salish_salish_SchemaFault_Place : plainName "com/example/salish/salish/SchemaFault$Place" = true := by first | (simp [plainName, overriddenIn]; done) | decide +kernel
def QPi (Z : State) (a : Addr) (pv : Int32) (u0 : Value) (u1 : Value) (u2 : Value) (u3 : Value) (u4 : Value) (h0 : Heap) (n0 : Nat) (v : Option Value) (h : Heap) (L : List Loc) : Prop := v = none ∧ Fr n0 L ∧ Keep h0 h [a] ∧ Fld Z h a "com/example/salish/salish/SchemaFault$Place" "value" "I" (.int pv) ∧ Fld Z h a "com/example/salish/salish/SchemaFault$Place" "type" "Ljava/lang/String;" .null ∧ Fld Z h a "com/example/salish/salish/SchemaFault$Place" "field" "I" (.int (-1)) ∧ Fld Z h a "com/example/salish/salish/SchemaFault$Place" "fieldName" "Ljava/lang/String;" .null
set_option maxRecDepth 65536 in
set_option maxHeartbeats 40000000 in
theorem rmPi (l : Launch) (Z : State) (a0 : Array Value) (hw : ∀ d ∈ tables_1, d.before a0 Z = true) (ws : List Jvm.Cond) (a : Addr) (pv : Int32) (u0 : Value) (u1 : Value) (u2 : Value) (u3 : Value) (u4 : Value) (h0 : Heap) (n0 : Nat) (Z0 : n0 ≤ h0.size) (g_a : n0 ≤ a) (Ea : Exa Z h0 a "com/example/salish/salish/SchemaFault$Place") (F0' : Fld Z h0 a "com/example/salish/salish/SchemaFault$Place" "value" "I" u0) (F1' : Fld Z h0 a "com/example/salish/salish/SchemaFault$Place" "type" "Ljava/lang/String;" u1) (F2' : Fld Z h0 a "com/example/salish/salish/SchemaFault$Place" "field" "I" u2) (F3' : Fld Z h0 a "com/example/salish/salish/SchemaFault$Place" "fieldName" "Ljava/lang/String;" u3) (F4' : Fld Z h0 a "com/example/salish/salish/SchemaFault$Place" "order" "I" u4) :
    MetFree l (⟨"com/example/salish/salish/SchemaFault$Place", "<init>", "(ILjava/lang/String;ILjava/lang/String;I)V"⟩ : MethodName) (head1 (Jvm.Cond.code (⟨"com/example/salish/salish/SchemaFault$Place", "<init>", "(ILjava/lang/String;ILjava/lang/String;I)V"⟩ : MethodName) prog_7_method_1_code 6 none :: ws) ({ frames := 1, cells := 0, slots := 0, locals := 12 } : Room)) (fun as' U => as' = #[(.ref a), (.int pv), .null, (.int (-1)), .null, (.int 0)] ∧ Z.Warmed39 U.vm ∧ U.heap = h0) (fun _ _ _ _ _ => True) (fun _ U o U' => ∃ v L, o = .returned v ∧ QPi Z a pv u0 u1 u2 u3 u4 h0 n0 v U'.heap L ∧ FrameEnd U o U' L ({ frames := 1, cells := 0, slots := 0, locals := 12 } : Room).cells ({ frames := 1, cells := 0, slots := 0, locals := 12 } : Room).slots) := by
  refine MetFree.of_bodySF (plainFor_of_name pn_com_example_salish_salish_SchemaFault_Place) hisR ?_
  intro p e s m args below meth c s₁ Bd hml0 hP hK
  obtain ⟨rfl, hZ, hh⟩ := hP
  have hx := Bd.exec
  have hby := Bd.bytes
  have hml : c.maxLocals = 6 := hml0
  have hown : s.vm.findClass "com/example/salish/salish/SchemaFault$Place" = some m.cls := findClass_of_methodNamed Bd.named
  have hnm := (name_of_methodNamed Bd.named Bd.method).1
  have X0 : Stand p l e ({ frames := 1, cells := 0, slots := 0, locals := 12 } : Room) s m #[(.ref a), (.int pv), .null, (.int (-1)), .null, (.int 0)] below meth c s₁ [] 0 0 := Stand.of_body Bd
  have e0 : s₁.heap = h0 := by rw [← hh, Bd.state]; rfl
  have N0 := Fr.nil n0
  show Go p e below s (fun v h L => QPi Z a pv u0 u1 u2 u3 u4 h0 n0 v h L) 0 0 _
  refine Go.pull (V := s₁.setTop (mkF m 0 #[rv a, iv pv, .val .null, iv (-1), .val .null, iv 0] [])) (fun t k => castTop (efPi m a pv) k) ?_
  refine Go.pull (V := s₁.setTop (mkF m 1 #[rv a, iv pv, .val .null, iv (-1), .val .null, iv 0] [(.ref a)])) (fun t k => XS.aloadN X0.here hx rfl (hb hby z0_0) rfl rfl k) ?_
  obtain ⟨T1, X1, e1, st1⟩ := initO X0 hx hZ hown (hw _ (List.mem_of_getElem? (i := 9) rfl)) (hw _ (List.mem_of_getElem? (i := 10) rfl)) (hw _ (List.mem_of_getElem? (i := 11) rfl)) e0 (g := (mkF m 1 #[rv a, iv pv, .val .null, iv (-1), .val .null, iv 0] [(.ref a)])) rfl (by rw [hml]; rfl) rfl (hb hby z0_1) (by decide) (W := 0) (by show 2 * 0 + _ ≤ _; exact Nat.le_of_eq rfl) (by decide)
  refine Go.pull (V := T1.setTop (mkF m 4 #[rv a, iv pv, .val .null, iv (-1), .val .null, iv 0] [])) st1 ?_
  refine Go.pull (V := T1.setTop (mkF m 6 #[rv a, iv pv, .val .null, iv (-1), .val .null, iv 0] [(.int pv), (.ref a)])) (fun t k => XS.aloadN X1.here hx rfl (hb hby z0_4) rfl rfl (XS.iloadN X1.here hx rfl (hb hby z0_5) rfl  k)) ?_
  obtain ⟨T2, h2, X2, e2, W2, st2⟩ := putF X1 hx hZ hown (host := "") (Or.inl (hw _ (List.mem_of_getElem? (i := 12) rfl))) Via.refl e1 F0' Ea (Or.inr ⟨(hw _ (List.mem_of_getElem? (i := 13) rfl)), rfl, hnm⟩) (hw _ (List.mem_of_getElem? (i := 5) rfl)) (ty := .int) (by decide) rfl rfl (g := (mkF m 6 #[rv a, iv pv, .val .null, iv (-1), .val .null, iv 0] [(.int pv), (.ref a)])) rfl rfl (hb hby z0_6)
  have Fw2 : Fld Z h2 a "com/example/salish/salish/SchemaFault$Place" "value" "I" (.int pv) := F0'.same W2
  have K2 : Keep h0 h2 [a] := (Keep.refl h0 [a]).wr W2 (Or.inl (List.mem_of_getElem? (i := 0) rfl))
  have N2 := Fr.snoc X2 N0 g_a
  refine Go.pull (V := T2.setTop (mkF m 9 #[rv a, iv pv, .val .null, iv (-1), .val .null, iv 0] [])) st2 ?_
  refine Go.pull (V := T2.setTop (mkF m 11 #[rv a, iv pv, .val .null, iv (-1), .val .null, iv 0] [.null, (.ref a)])) (fun t k => XS.aloadN X2.here hx rfl (hb hby z0_9) rfl rfl (XS.aloadN X2.here hx rfl (hb hby z0_10) rfl rfl k)) ?_
  obtain ⟨T3, h3, X3, e3, W3, st3⟩ := putF X2 hx hZ hown (host := "") (Or.inl (hw _ (List.mem_of_getElem? (i := 14) rfl))) Via.refl e2 (F1'.other W2 (Or.inr (slot_ne (Or.inr (hw _ (List.mem_of_getElem? (i := 15) rfl))) (Or.inr (hw _ (List.mem_of_getElem? (i := 13) rfl))) (by decide) (t := (.object "java/lang/String")) (t' := .int) (by decide) (by decide)))) (Ea.wr W2) (Or.inr ⟨(hw _ (List.mem_of_getElem? (i := 15) rfl)), rfl, hnm⟩) (hw _ (List.mem_of_getElem? (i := 5) rfl)) (ty := (.object "java/lang/String")) (by decide) rfl rfl (g := (mkF m 11 #[rv a, iv pv, .val .null, iv (-1), .val .null, iv 0] [.null, (.ref a)])) rfl rfl (hb hby z0_11)
  have Fw3 : Fld Z h3 a "com/example/salish/salish/SchemaFault$Place" "type" "Ljava/lang/String;" .null := (F1'.other W2 (Or.inr (slot_ne (Or.inr (hw _ (List.mem_of_getElem? (i := 15) rfl))) (Or.inr (hw _ (List.mem_of_getElem? (i := 13) rfl))) (by decide) (t := (.object "java/lang/String")) (t' := .int) (by decide) (by decide)))).same W3
  have K3 : Keep h0 h3 [a] := K2.wr W3 (Or.inl (List.mem_of_getElem? (i := 0) rfl))
  have N3 := Fr.snoc X3 N2 g_a
  refine Go.pull (V := T3.setTop (mkF m 14 #[rv a, iv pv, .val .null, iv (-1), .val .null, iv 0] [])) st3 ?_
  refine Go.pull (V := T3.setTop (mkF m 16 #[rv a, iv pv, .val .null, iv (-1), .val .null, iv 0] [(.int (-1)), (.ref a)])) (fun t k => XS.aloadN X3.here hx rfl (hb hby z0_14) rfl rfl (XS.iloadN X3.here hx rfl (hb hby z0_15) rfl  k)) ?_
  obtain ⟨T4, h4, X4, e4, W4, st4⟩ := putF X3 hx hZ hown (host := "") (Or.inl (hw _ (List.mem_of_getElem? (i := 16) rfl))) Via.refl e3 ((F2'.other W2 (Or.inr (slot_ne (Or.inr (hw _ (List.mem_of_getElem? (i := 17) rfl))) (Or.inr (hw _ (List.mem_of_getElem? (i := 13) rfl))) (by decide) (t := .int) (t' := .int) (by decide) (by decide)))).other W3 (Or.inr (slot_ne (Or.inr (hw _ (List.mem_of_getElem? (i := 17) rfl))) (Or.inr (hw _ (List.mem_of_getElem? (i := 15) rfl))) (by decide) (t := .int) (t' := (.object "java/lang/String")) (by decide) (by decide)))) ((Ea.wr W2).wr W3) (Or.inr ⟨(hw _ (List.mem_of_getElem? (i := 17) rfl)), rfl, hnm⟩) (hw _ (List.mem_of_getElem? (i := 5) rfl)) (ty := .int) (by decide) rfl rfl (g := (mkF m 16 #[rv a, iv pv, .val .null, iv (-1), .val .null, iv 0] [(.int (-1)), (.ref a)])) rfl rfl (hb hby z0_16)
  have Fw4 : Fld Z h4 a "com/example/salish/salish/SchemaFault$Place" "field" "I" (.int (-1)) := ((F2'.other W2 (Or.inr (slot_ne (Or.inr (hw _ (List.mem_of_getElem? (i := 17) rfl))) (Or.inr (hw _ (List.mem_of_getElem? (i := 13) rfl))) (by decide) (t := .int) (t' := .int) (by decide) (by decide)))).other W3 (Or.inr (slot_ne (Or.inr (hw _ (List.mem_of_getElem? (i := 17) rfl))) (Or.inr (hw _ (List.mem_of_getElem? (i := 15) rfl))) (by decide) (t := .int) (t' := (.object "java/lang/String")) (by decide) (by decide)))).same W4
  have K4 : Keep h0 h4 [a] := K3.wr W4 (Or.inl (List.mem_of_getElem? (i := 0) rfl))
  have N4 := Fr.snoc X4 N3 g_a
  refine Go.pull (V := T4.setTop (mkF m 19 #[rv a, iv pv, .val .null, iv (-1), .val .null, iv 0] [])) st4 ?_
  refine Go.pull (V := T4.setTop (mkF m 22 #[rv a, iv pv, .val .null, iv (-1), .val .null, iv 0] [.null, (.ref a)])) (fun t k => XS.aloadN X4.here hx rfl (hb hby z0_19) rfl rfl (XS.aload X4.here hx rfl (hb hby z0_20) rfl rfl k)) ?_
  obtain ⟨T5, h5, X5, e5, W5, st5⟩ := putF X4 hx hZ hown (host := "") (Or.inl (hw _ (List.mem_of_getElem? (i := 18) rfl))) Via.refl e4 (((F3'.other W2 (Or.inr (slot_ne (Or.inr (hw _ (List.mem_of_getElem? (i := 19) rfl))) (Or.inr (hw _ (List.mem_of_getElem? (i := 13) rfl))) (by decide) (t := (.object "java/lang/String")) (t' := .int) (by decide) (by decide)))).other W3 (Or.inr (slot_ne (Or.inr (hw _ (List.mem_of_getElem? (i := 19) rfl))) (Or.inr (hw _ (List.mem_of_getElem? (i := 15) rfl))) (by decide) (t := (.object "java/lang/String")) (t' := (.object "java/lang/String")) (by decide) (by decide)))).other W4 (Or.inr (slot_ne (Or.inr (hw _ (List.mem_of_getElem? (i := 19) rfl))) (Or.inr (hw _ (List.mem_of_getElem? (i := 17) rfl))) (by decide) (t := (.object "java/lang/String")) (t' := .int) (by decide) (by decide)))) (((Ea.wr W2).wr W3).wr W4) (Or.inr ⟨(hw _ (List.mem_of_getElem? (i := 19) rfl)), rfl, hnm⟩) (hw _ (List.mem_of_getElem? (i := 5) rfl)) (ty := (.object "java/lang/String")) (by decide) rfl rfl (g := (mkF m 22 #[rv a, iv pv, .val .null, iv (-1), .val .null, iv 0] [.null, (.ref a)])) rfl rfl (hb hby z0_22)
  have Fw5 : Fld Z h5 a "com/example/salish/salish/SchemaFault$Place" "fieldName" "Ljava/lang/String;" .null := (((F3'.other W2 (Or.inr (slot_ne (Or.inr (hw _ (List.mem_of_getElem? (i := 19) rfl))) (Or.inr (hw _ (List.mem_of_getElem? (i := 13) rfl))) (by decide) (t := (.object "java/lang/String")) (t' := .int) (by decide) (by decide)))).other W3 (Or.inr (slot_ne (Or.inr (hw _ (List.mem_of_getElem? (i := 19) rfl))) (Or.inr (hw _ (List.mem_of_getElem? (i := 15) rfl))) (by decide) (t := (.object "java/lang/String")) (t' := (.object "java/lang/String")) (by decide) (by decide)))).other W4 (Or.inr (slot_ne (Or.inr (hw _ (List.mem_of_getElem? (i := 19) rfl))) (Or.inr (hw _ (List.mem_of_getElem? (i := 17) rfl))) (by decide) (t := (.object "java/lang/String")) (t' := .int) (by decide) (by decide)))).same W5
  have K5 : Keep h0 h5 [a] := K4.wr W5 (Or.inl (List.mem_of_getElem? (i := 0) rfl))
  have N5 := Fr.snoc X5 N4 g_a
  refine Go.pull (V := T5.setTop (mkF m 25 #[rv a, iv pv, .val .null, iv (-1), .val .null, iv 0] [])) st5 ?_
  refine Go.pull (V := T5.setTop (mkF m 28 #[rv a, iv pv, .val .null, iv (-1), .val .null, iv 0] [(.int 0), (.ref a)])) (fun t k => XS.aloadN X5.here hx rfl (hb hby z0_25) rfl rfl (XS.iload X5.here hx rfl (hb hby z0_26) rfl  k)) ?_
  obtain ⟨T6, h6, X6, e6, W6, st6⟩ := putF X5 hx hZ hown (host := "") (Or.inl (hw _ (List.mem_of_getElem? (i := 20) rfl))) Via.refl e5 ((((F4'.other W2 (Or.inr (slot_ne (Or.inr (hw _ (List.mem_of_getElem? (i := 21) rfl))) (Or.inr (hw _ (List.mem_of_getElem? (i := 13) rfl))) (by decide) (t := .int) (t' := .int) (by decide) (by decide)))).other W3 (Or.inr (slot_ne (Or.inr (hw _ (List.mem_of_getElem? (i := 21) rfl))) (Or.inr (hw _ (List.mem_of_getElem? (i := 15) rfl))) (by decide) (t := .int) (t' := (.object "java/lang/String")) (by decide) (by decide)))).other W4 (Or.inr (slot_ne (Or.inr (hw _ (List.mem_of_getElem? (i := 21) rfl))) (Or.inr (hw _ (List.mem_of_getElem? (i := 17) rfl))) (by decide) (t := .int) (t' := .int) (by decide) (by decide)))).other W5 (Or.inr (slot_ne (Or.inr (hw _ (List.mem_of_getElem? (i := 21) rfl))) (Or.inr (hw _ (List.mem_of_getElem? (i := 19) rfl))) (by decide) (t := .int) (t' := (.object "java/lang/String")) (by decide) (by decide)))) ((((Ea.wr W2).wr W3).wr W4).wr W5) (Or.inr ⟨(hw _ (List.mem_of_getElem? (i := 21) rfl)), rfl, hnm⟩) (hw _ (List.mem_of_getElem? (i := 5) rfl)) (ty := .int) (by decide) rfl rfl (g := (mkF m 28 #[rv a, iv pv, .val .null, iv (-1), .val .null, iv 0] [(.int 0), (.ref a)])) rfl rfl (hb hby z0_28)
  have Fw6 : Fld Z h6 a "com/example/salish/salish/SchemaFault$Place" "order" "I" (.int 0) := ((((F4'.other W2 (Or.inr (slot_ne (Or.inr (hw _ (List.mem_of_getElem? (i := 21) rfl))) (Or.inr (hw _ (List.mem_of_getElem? (i := 13) rfl))) (by decide) (t := .int) (t' := .int) (by decide) (by decide)))).other W3 (Or.inr (slot_ne (Or.inr (hw _ (List.mem_of_getElem? (i := 21) rfl))) (Or.inr (hw _ (List.mem_of_getElem? (i := 15) rfl))) (by decide) (t := .int) (t' := (.object "java/lang/String")) (by decide) (by decide)))).other W4 (Or.inr (slot_ne (Or.inr (hw _ (List.mem_of_getElem? (i := 21) rfl))) (Or.inr (hw _ (List.mem_of_getElem? (i := 17) rfl))) (by decide) (t := .int) (t' := .int) (by decide) (by decide)))).other W5 (Or.inr (slot_ne (Or.inr (hw _ (List.mem_of_getElem? (i := 21) rfl))) (Or.inr (hw _ (List.mem_of_getElem? (i := 19) rfl))) (by decide) (t := .int) (t' := (.object "java/lang/String")) (by decide) (by decide)))).same W6
  have K6 : Keep h0 h6 [a] := K5.wr W6 (Or.inl (List.mem_of_getElem? (i := 0) rfl))
  have N6 := Fr.snoc X6 N5 g_a
  refine Go.pull (V := T6.setTop (mkF m 31 #[rv a, iv pv, .val .null, iv (-1), .val .null, iv 0] [])) st6 ?_
  exact Go.ret0 X6 hx Bd.notSynchronized Bd.returns (hb hby z0_31) (by rw [e6]; exact ⟨rfl, N6, K6, ((((Fw2.other W3 (Or.inr (slot_ne (Or.inr (hw _ (List.mem_of_getElem? (i := 13) rfl))) (Or.inr (hw _ (List.mem_of_getElem? (i := 15) rfl))) (by decide) (t := .int) (t' := (.object "java/lang/String")) (by decide) (by decide)))).other W4 (Or.inr (slot_ne (Or.inr (hw _ (List.mem_of_getElem? (i := 13) rfl))) (Or.inr (hw _ (List.mem_of_getElem? (i := 17) rfl))) (by decide) (t := .int) (t' := .int) (by decide) (by decide)))).other W5 (Or.inr (slot_ne (Or.inr (hw _ (List.mem_of_getElem? (i := 13) rfl))) (Or.inr (hw _ (List.mem_of_getElem? (i := 19) rfl))) (by decide) (t := .int) (t' := (.object "java/lang/String")) (by decide) (by decide)))).other W6 (Or.inr (slot_ne (Or.inr (hw _ (List.mem_of_getElem? (i := 13) rfl))) (Or.inr (hw _ (List.mem_of_getElem? (i := 21) rfl))) (by decide) (t := .int) (t' := .int) (by decide) (by decide)))), (((Fw3.other W4 (Or.inr (slot_ne (Or.inr (hw _ (List.mem_of_getElem? (i := 15) rfl))) (Or.inr (hw _ (List.mem_of_getElem? (i := 17) rfl))) (by decide) (t := (.object "java/lang/String")) (t' := .int) (by decide) (by decide)))).other W5 (Or.inr (slot_ne (Or.inr (hw _ (List.mem_of_getElem? (i := 15) rfl))) (Or.inr (hw _ (List.mem_of_getElem? (i := 19) rfl))) (by decide) (t := (.object "java/lang/String")) (t' := (.object "java/lang/String")) (by decide) (by decide)))).other W6 (Or.inr (slot_ne (Or.inr (hw _ (List.mem_of_getElem? (i := 15) rfl))) (Or.inr (hw _ (List.mem_of_getElem? (i := 21) rfl))) (by decide) (t := (.object "java/lang/String")) (t' := .int) (by decide) (by decide)))), ((Fw4.other W5 (Or.inr (slot_ne (Or.inr (hw _ (List.mem_of_getElem? (i := 17) rfl))) (Or.inr (hw _ (List.mem_of_getElem? (i := 19) rfl))) (by decide) (t := .int) (t' := (.object "java/lang/String")) (by decide) (by decide)))).other W6 (Or.inr (slot_ne (Or.inr (hw _ (List.mem_of_getElem? (i := 17) rfl))) (Or.inr (hw _ (List.mem_of_getElem? (i := 21) rfl))) (by decide) (t := .int) (t' := .int) (by decide) (by decide)))), (Fw5.other W6 (Or.inr (slot_ne (Or.inr (hw _ (List.mem_of_getElem? (i := 19) rfl))) (Or.inr (hw _ (List.mem_of_getElem? (i := 21) rfl))) (by decide) (t := (.object "java/lang/String")) (t' := .int) (by decide) (by decide))))⟩) (by decide) (by decide)
theorem z1_0 : decode prog_7_method_2_code 0 = .ok (.new 8, 3) := by decide +kernel
theorem z1_3 : decode prog_7_method_2_code 3 = .ok (.dup, 1) := by decide +kernel
theorem z1_4 : decode prog_7_method_2_code 4 = .ok (.iload_n 0, 1) := by decide +kernel
theorem z1_5 : decode prog_7_method_2_code 5 = .ok (.aconst_null, 1) := by decide +kernel
theorem z1_6 : decode prog_7_method_2_code 6 = .ok (.iconst (-1), 1) := by decide +kernel
theorem z1_7 : decode prog_7_method_2_code 7 = .ok (.aconst_null, 1) := by decide +kernel
theorem z1_8 : decode prog_7_method_2_code 8 = .ok (.iconst 0, 1) := by decide +kernel
theorem z1_9 : decode prog_7_method_2_code 9 = .ok (.invokespecial 26, 3) := by decide +kernel
theorem z1_12 : decode prog_7_method_2_code 12 = .ok (.areturn, 1) := by decide +kernel
theorem efPo (m : MethodId) (x0 : Int32) : entryFrame m #[(.int x0)] 1 = mkF m 0 #[iv x0] [] := by first | (simp [entryFrame, mkF, argsToLocals, Value.category]; done) | rfl
def QPo (Z : State) (pv : Int32) (h0 : Heap) (n0 : Nat) (v : Option Value) (h : Heap) (L : List Loc) : Prop := ∃ (po : Addr), v = some (.ref po) ∧ Fr n0 L ∧ Keep h0 h [] ∧ h0.size ≤ po ∧ Exa Z h po "com/example/salish/salish/SchemaFault$Place" ∧ Fld Z h po "com/example/salish/salish/SchemaFault$Place" "value" "I" (.int pv) ∧ Fld Z h po "com/example/salish/salish/SchemaFault$Place" "type" "Ljava/lang/String;" .null ∧ Fld Z h po "com/example/salish/salish/SchemaFault$Place" "field" "I" (.int (-1)) ∧ Fld Z h po "com/example/salish/salish/SchemaFault$Place" "fieldName" "Ljava/lang/String;" .null
set_option maxRecDepth 65536 in
set_option maxHeartbeats 40000000 in
theorem rmPo (l : Launch) (Z : State) (a0 : Array Value) (hw : ∀ d ∈ tables_1, d.before a0 Z = true) (ws : List Jvm.Cond) (pv : Int32) (h0 : Heap) (n0 : Nat) (Z0 : n0 ≤ h0.size) :
    MetFree l (⟨"com/example/salish/salish/SchemaFault$Place", "ofValue", "(I)Lcom/example/salish/salish/SchemaFault$Place;"⟩ : MethodName) (head1 (Jvm.Cond.code (⟨"com/example/salish/salish/SchemaFault$Place", "ofValue", "(I)Lcom/example/salish/salish/SchemaFault$Place;"⟩ : MethodName) prog_7_method_2_code 1 (some (.object "com/example/salish/salish/SchemaFault$Place")) :: ws) ({ frames := 2, cells := 1, slots := 5, locals := 30 } : Room)) (fun as' U => as' = #[(.int pv)] ∧ Z.Warmed39 U.vm ∧ U.heap = h0) (fun _ _ _ _ _ => True) (fun _ U o U' => ∃ v L, o = .returned v ∧ QPo Z pv h0 n0 v U'.heap L ∧ FrameEnd U o U' L ({ frames := 2, cells := 1, slots := 5, locals := 30 } : Room).cells ({ frames := 2, cells := 1, slots := 5, locals := 30 } : Room).slots) := by
  refine MetFree.of_bodySF (plainFor_of_name pn_com_example_salish_salish_SchemaFault_Place) hisR ?_
  intro p e s m args below meth c s₁ Bd hml0 hP hK
  obtain ⟨rfl, hZ, hh⟩ := hP
  have hx := Bd.exec
  have hby := Bd.bytes
  have hml : c.maxLocals = 1 := hml0
  have hown : s.vm.findClass "com/example/salish/salish/SchemaFault$Place" = some m.cls := findClass_of_methodNamed Bd.named
  have hnm := (name_of_methodNamed Bd.named Bd.method).1
  have X0 : Stand p l e ({ frames := 2, cells := 1, slots := 5, locals := 30 } : Room) s m #[(.int pv)] below meth c s₁ [] 0 0 := Stand.of_body Bd
  have e0 : s₁.heap = h0 := by rw [← hh, Bd.state]; rfl
  have N0 := Fr.nil n0
  show Go p e below s (fun v h L => QPo Z pv h0 n0 v h L) 1 5 _
  refine Go.pull (V := s₁.setTop (mkF m 0 #[iv pv] [])) (fun t k => castTop (efPo m pv) k) ?_
  obtain ⟨T1, h1, X1, e1, E1, A1, D1, -, st1⟩ := newO X0 hx hZ hown (hw _ (List.mem_of_getElem? (i := 4) rfl)) (hw _ (List.mem_of_getElem? (i := 5) rfl)) (hw _ (List.mem_of_getElem? (i := 2) rfl)) e0 (g := (mkF m 0 #[iv pv] [])) rfl (hb hby z1_0) (by decide) (by decide)
  obtain ⟨b1, g1⟩ : ∃ z, z = h0.size := ⟨_, rfl⟩
  rw [← g1] at A1 D1 st1
  have sz_b1 : h0.size ≤ b1 := Nat.le_trans ((Keep.refl h0 [])).1 (Nat.le_of_eq g1.symm)
  have g_b1 : n0 ≤ b1 := Nat.le_trans Z0 sz_b1
  have K1 : Keep h0 h1 [] := (Keep.refl h0 []).ext E1
  have F2 : Fld Z h1 b1 "com/example/salish/salish/SchemaFault$Place" "value" "I" (.int 0) := D1 (Or.inr (hw _ (List.mem_of_getElem? (i := 13) rfl))) (ty := .int) (by decide)
  have F3 : Fld Z h1 b1 "com/example/salish/salish/SchemaFault$Place" "type" "Ljava/lang/String;" .null := D1 (Or.inr (hw _ (List.mem_of_getElem? (i := 15) rfl))) (ty := (.object "java/lang/String")) (by decide)
  have F4 : Fld Z h1 b1 "com/example/salish/salish/SchemaFault$Place" "field" "I" (.int 0) := D1 (Or.inr (hw _ (List.mem_of_getElem? (i := 17) rfl))) (ty := .int) (by decide)
  have F5 : Fld Z h1 b1 "com/example/salish/salish/SchemaFault$Place" "fieldName" "Ljava/lang/String;" .null := D1 (Or.inr (hw _ (List.mem_of_getElem? (i := 19) rfl))) (ty := (.object "java/lang/String")) (by decide)
  have F6 : Fld Z h1 b1 "com/example/salish/salish/SchemaFault$Place" "order" "I" (.int 0) := D1 (Or.inr (hw _ (List.mem_of_getElem? (i := 21) rfl))) (ty := .int) (by decide)
  refine Go.pull (V := T1.setTop (mkF m 3 #[iv pv] [(.ref b1)])) st1 ?_
  refine Go.pull (V := T1.setTop (mkF m 8 #[iv pv] [.null, (.int (-1)), .null, (.int pv), (.ref b1), (.ref b1)])) (fun t k => XS.dup X1.here hx rfl (hb hby z1_3) rfl rfl (XS.iloadN X1.here hx rfl (hb hby z1_4) rfl  (XS.aconstNull X1.here hx rfl (hb hby z1_5) (XS.iconst X1.here hx rfl (hb hby z1_6) (XS.aconstNull X1.here hx rfl (hb hby z1_7) k))))) ?_
  refine Go.pull (V := T1.setTop (mkF m 9 #[iv pv] [(.int 0), .null, (.int (-1)), .null, (.int pv), (.ref b1), (.ref b1)])) (fun t k => XS.iconst X1.here hx rfl (hb hby z1_8) k) ?_
  obtain ⟨_, _, ⟨T7, L7, k7, n7⟩, -, X7, ⟨Lc7, hQ7, l7, y7, z7⟩, st7⟩ := X1.specialBack hx (y := (⟨"com/example/salish/salish/SchemaFault$Place", "<init>", "(ILjava/lang/String;ILjava/lang/String;I)V"⟩ : MethodName)) rfl hown (mvT hZ (hw _ (List.mem_of_getElem? (i := 6) rfl))) (mvT hZ (hw _ (List.mem_of_getElem? (i := 7) rfl))) (mvT hZ (hw _ (List.mem_of_getElem? (i := 8) rfl))) (by decide) (backOf (W := 1) (rmPi l Z a0 hw [] b1 pv (.int 0) .null (.int 0) .null (.int 0) h1 n0 (Nat.le_trans Z0 (K1).1) (g_b1) A1 F2 F3 F4 F5 F6) hZ (hw _ (List.mem_of_getElem? (i := 8) rfl)) (hw _ (List.mem_of_getElem? (i := 2) rfl)) (by decide) (by decide)) (g := (mkF m 9 #[iv pv] [(.int 0), .null, (.int (-1)), .null, (.int pv), (.ref b1), (.ref b1)])) rfl (by rw [hml]; rfl) (Steps.refl _) (a := b1) (argsL := [(.int pv), .null, (.int (-1)), .null, (.int 0)]) (rest := [(.ref b1)]) (lenOf pd_0 rfl) rfl (by show 2 * 0 + _ ≤ _; exact Nat.le_of_eq rfl) (hb hby z1_9) (fun _ _ => ⟨rfl, e1, (by decide : 1 + 0 ≤ _), (by decide : 5 + 0 ≤ _)⟩)
  dsimp only [Pt.U, Pt.locs, Pt.cells, Pt.slots] at X7 l7 y7 z7 st7 hQ7
  subst l7 y7 z7
  obtain ⟨rfl, N7q, Kc7, Fc7_0, Fc7_1, Fc7_2, Fc7_3⟩ := hQ7
  have K7 : Keep h0 T7.heap [] := K1.trans Kc7 ((allS (Or.inr sz_b1) all0))
  have N7 := Fr.app N0 N7q
  refine Go.pull (V := T7.setTop (mkF m 12 #[iv pv] [(.ref b1)])) (fun _ k => st7.trans k) ?_
  exact Go.retR X7 hx Bd.notSynchronized Bd.returns rfl rfl rfl (hb hby z1_12) (by exact ⟨b1, rfl, N7, K7, sz_b1, (A1.keep Kc7), Fc7_0, Fc7_1, Fc7_2, Fc7_3⟩) (by decide) (by decide)
theorem z2_0 : decode prog_7_method_6_code 0 = .ok (.aload_n 0, 1) := by decide +kernel
theorem z2_1 : decode prog_7_method_6_code 1 = .ok (.getfield 7, 3) := by decide +kernel
theorem z2_4 : decode prog_7_method_6_code 4 = .ok (.ireturn, 1) := by decide +kernel
theorem efPv (m : MethodId) (x0 : Addr) : entryFrame m #[(.ref x0)] 1 = mkF m 0 #[rv x0] [] := by first | (simp [entryFrame, mkF, argsToLocals, Value.category]; done) | rfl
def QPv (Z : State) (a : Addr) (pv : Int32) (h0 : Heap) (n0 : Nat) (v : Option Value) (h : Heap) (L : List Loc) : Prop := v = some (.int pv) ∧ Fr n0 L ∧ h = h0
set_option maxRecDepth 65536 in
set_option maxHeartbeats 40000000 in
theorem rmPv (l : Launch) (Z : State) (a0 : Array Value) (hw : ∀ d ∈ tables_1, d.before a0 Z = true) (ws : List Jvm.Cond) (a : Addr) (pv : Int32) (h0 : Heap) (n0 : Nat) (Fv : Fld Z h0 a "com/example/salish/salish/SchemaFault$Place" "value" "I" (.int pv)) :
    MetFree l (⟨"com/example/salish/salish/SchemaFault$Place", "value", "()I"⟩ : MethodName) (head1 (Jvm.Cond.code (⟨"com/example/salish/salish/SchemaFault$Place", "value", "()I"⟩ : MethodName) prog_7_method_6_code 1 (some .int) :: ws) ({ frames := 0, cells := 0, slots := 0, locals := 0 } : Room)) (fun as' U => as' = #[(.ref a)] ∧ Z.Warmed39 U.vm ∧ U.heap = h0) (fun _ _ _ _ _ => True) (fun _ U o U' => ∃ v L, o = .returned v ∧ QPv Z a pv h0 n0 v U'.heap L ∧ FrameEnd U o U' L ({ frames := 0, cells := 0, slots := 0, locals := 0 } : Room).cells ({ frames := 0, cells := 0, slots := 0, locals := 0 } : Room).slots) := by
  refine MetFree.of_bodySF (plainFor_of_name pn_com_example_salish_salish_SchemaFault_Place) hisR ?_
  intro p e s m args below meth c s₁ Bd hml0 hP hK
  obtain ⟨rfl, hZ, hh⟩ := hP
  have hx := Bd.exec
  have hby := Bd.bytes
  have hml : c.maxLocals = 1 := hml0
  have hown : s.vm.findClass "com/example/salish/salish/SchemaFault$Place" = some m.cls := findClass_of_methodNamed Bd.named
  have hnm := (name_of_methodNamed Bd.named Bd.method).1
  have X0 : Stand p l e ({ frames := 0, cells := 0, slots := 0, locals := 0 } : Room) s m #[(.ref a)] below meth c s₁ [] 0 0 := Stand.of_body Bd
  have e0 : s₁.heap = h0 := by rw [← hh, Bd.state]; rfl
  have N0 := Fr.nil n0
  show Go p e below s (fun v h L => QPv Z a pv h0 n0 v h L) 0 0 _
  refine Go.pull (V := s₁.setTop (mkF m 0 #[rv a] [])) (fun t k => castTop (efPv m a) k) ?_
  refine Go.pull (V := s₁.setTop (mkF m 1 #[rv a] [(.ref a)])) (fun t k => XS.aloadN X0.here hx rfl (hb hby z2_0) rfl rfl k) ?_
  obtain ⟨T1, X1, e1, st1⟩ := getF X0 hx hZ hown (host := "") (Or.inl (hw _ (List.mem_of_getElem? (i := 12) rfl))) Via.refl e0 Fv (g := (mkF m 1 #[rv a] [(.ref a)])) rfl rfl (hb hby z2_1)
  refine Go.pull (V := T1.setTop (mkF m 4 #[rv a] [(.int pv)])) st1 ?_
  exact Go.retI X1 hx Bd.notSynchronized Bd.returns (hb hby z2_4) ⟨rfl, N0, e1⟩ (by decide) (by decide)
theorem z3_0 : decode prog_7_method_8_code 0 = .ok (.aload_n 0, 1) := by decide +kernel
theorem z3_1 : decode prog_7_method_8_code 1 = .ok (.getfield 17, 3) := by decide +kernel
theorem z3_4 : decode prog_7_method_8_code 4 = .ok (.ireturn, 1) := by decide +kernel
theorem efPf (m : MethodId) (x0 : Addr) : entryFrame m #[(.ref x0)] 1 = mkF m 0 #[rv x0] [] := by first | (simp [entryFrame, mkF, argsToLocals, Value.category]; done) | rfl
def QPf (Z : State) (a : Addr) (h0 : Heap) (n0 : Nat) (v : Option Value) (h : Heap) (L : List Loc) : Prop := v = some (.int (-1)) ∧ Fr n0 L ∧ h = h0
set_option maxRecDepth 65536 in
set_option maxHeartbeats 40000000 in
theorem rmPf (l : Launch) (Z : State) (a0 : Array Value) (hw : ∀ d ∈ tables_1, d.before a0 Z = true) (ws : List Jvm.Cond) (a : Addr) (h0 : Heap) (n0 : Nat) (Fv : Fld Z h0 a "com/example/salish/salish/SchemaFault$Place" "field" "I" (.int (-1))) :
    MetFree l (⟨"com/example/salish/salish/SchemaFault$Place", "field", "()I"⟩ : MethodName) (head1 (Jvm.Cond.code (⟨"com/example/salish/salish/SchemaFault$Place", "field", "()I"⟩ : MethodName) prog_7_method_8_code 1 (some .int) :: ws) ({ frames := 0, cells := 0, slots := 0, locals := 0 } : Room)) (fun as' U => as' = #[(.ref a)] ∧ Z.Warmed39 U.vm ∧ U.heap = h0) (fun _ _ _ _ _ => True) (fun _ U o U' => ∃ v L, o = .returned v ∧ QPf Z a h0 n0 v U'.heap L ∧ FrameEnd U o U' L ({ frames := 0, cells := 0, slots := 0, locals := 0 } : Room).cells ({ frames := 0, cells := 0, slots := 0, locals := 0 } : Room).slots) := by
  refine MetFree.of_bodySF (plainFor_of_name pn_com_example_salish_salish_SchemaFault_Place) hisR ?_
  intro p e s m args below meth c s₁ Bd hml0 hP hK
  obtain ⟨rfl, hZ, hh⟩ := hP
  have hx := Bd.exec
  have hby := Bd.bytes
  have hml : c.maxLocals = 1 := hml0
  have hown : s.vm.findClass "com/example/salish/salish/SchemaFault$Place" = some m.cls := findClass_of_methodNamed Bd.named
  have hnm := (name_of_methodNamed Bd.named Bd.method).1
  have X0 : Stand p l e ({ frames := 0, cells := 0, slots := 0, locals := 0 } : Room) s m #[(.ref a)] below meth c s₁ [] 0 0 := Stand.of_body Bd
  have e0 : s₁.heap = h0 := by rw [← hh, Bd.state]; rfl
  have N0 := Fr.nil n0
  show Go p e below s (fun v h L => QPf Z a h0 n0 v h L) 0 0 _
  refine Go.pull (V := s₁.setTop (mkF m 0 #[rv a] [])) (fun t k => castTop (efPf m a) k) ?_
  refine Go.pull (V := s₁.setTop (mkF m 1 #[rv a] [(.ref a)])) (fun t k => XS.aloadN X0.here hx rfl (hb hby z3_0) rfl rfl k) ?_
  obtain ⟨T1, X1, e1, st1⟩ := getF X0 hx hZ hown (host := "") (Or.inl (hw _ (List.mem_of_getElem? (i := 16) rfl))) Via.refl e0 Fv (g := (mkF m 1 #[rv a] [(.ref a)])) rfl rfl (hb hby z3_1)
  refine Go.pull (V := T1.setTop (mkF m 4 #[rv a] [(.int (-1))])) st1 ?_
  exact Go.retI X1 hx Bd.notSynchronized Bd.returns (hb hby z3_4) ⟨rfl, N0, e1⟩ (by decide) (by decide)
theorem z4_0 : decode jdk_31_method_2_code 0 = .ok (.aload_n 0, 1) := by decide +kernel
theorem z4_1 : decode jdk_31_method_2_code 1 = .ok (.aload_n 1, 1) := by decide +kernel
theorem z4_2 : decode jdk_31_method_2_code 2 = .ok (.if_acmp .eq 15, 3) := by decide +kernel
theorem z4_17 : decode jdk_31_method_2_code 17 = .ok (.iconst 1, 1) := by decide +kernel
theorem z4_18 : decode jdk_31_method_2_code 18 = .ok (.goto 4, 3) := by decide +kernel
theorem z4_22 : decode jdk_31_method_2_code 22 = .ok (.ireturn, 1) := by decide +kernel
theorem efOe (m : MethodId)  : entryFrame m #[.null, .null] 2 = mkF m 0 #[.val .null, .val .null] [] := by first | (simp [entryFrame, mkF, argsToLocals, Value.category]; done) | rfl
theorem pn_java_util_Objects : plainName "java/util/Objects" = true := by first | (simp [plainName, overriddenIn]; done) | decide +kernel
def QOe (Z : State) (h0 : Heap) (n0 : Nat) (v : Option Value) (h : Heap) (L : List Loc) : Prop := v = some (.int 1) ∧ Fr n0 L ∧ h = h0
set_option maxRecDepth 65536 in
set_option maxHeartbeats 40000000 in
theorem rmOe (l : Launch) (Z : State) (a0 : Array Value) (hw : ∀ d ∈ tables_1, d.before a0 Z = true) (ws : List Jvm.Cond) (h0 : Heap) (n0 : Nat) :
    MetFree l (⟨"java/util/Objects", "equals", "(Ljava/lang/Object;Ljava/lang/Object;)Z"⟩ : MethodName) (head1 (Jvm.Cond.code (⟨"java/util/Objects", "equals", "(Ljava/lang/Object;Ljava/lang/Object;)Z"⟩ : MethodName) jdk_31_method_2_code 2 (some .boolean) :: ws) ({ frames := 0, cells := 0, slots := 0, locals := 0 } : Room)) (fun as' U => as' = #[.null, .null] ∧ Z.Warmed39 U.vm ∧ U.heap = h0) (fun _ _ _ _ _ => True) (fun _ U o U' => ∃ v L, o = .returned v ∧ QOe Z  h0 n0 v U'.heap L ∧ FrameEnd U o U' L ({ frames := 0, cells := 0, slots := 0, locals := 0 } : Room).cells ({ frames := 0, cells := 0, slots := 0, locals := 0 } : Room).slots) := by
  refine MetFree.of_bodySF (plainFor_of_name pn_java_util_Objects) hisR ?_
  intro p e s m args below meth c s₁ Bd hml0 hP hK
  obtain ⟨rfl, hZ, hh⟩ := hP
  have hx := Bd.exec
  have hby := Bd.bytes
  have hml : c.maxLocals = 2 := hml0
  have hown : s.vm.findClass "java/util/Objects" = some m.cls := findClass_of_methodNamed Bd.named
  have hnm := (name_of_methodNamed Bd.named Bd.method).1
  have X0 : Stand p l e ({ frames := 0, cells := 0, slots := 0, locals := 0 } : Room) s m #[.null, .null] below meth c s₁ [] 0 0 := Stand.of_body Bd
  have e0 : s₁.heap = h0 := by rw [← hh, Bd.state]; rfl
  have N0 := Fr.nil n0
  show Go p e below s (fun v h L => QOe Z  h0 n0 v h L) 0 0 _
  refine Go.pull (V := s₁.setTop (mkF m 0 #[.val .null, .val .null] [])) (fun t k => castTop (efOe m ) k) ?_
  refine Go.pull (V := s₁.setTop (mkF m 22 #[.val .null, .val .null] [(.int 1)])) (fun t k => XS.aloadN X0.here hx rfl (hb hby z4_0) rfl rfl (XS.aloadN X0.here hx rfl (hb hby z4_1) rfl rfl (XT.acmpYes X0.here hx rfl (pc0 := 2) (pc' := 17) rfl (hb hby z4_2) rfl rfl rfl (XT.aa_eq_t rfl) (by decide) (by decide) (XS.iconst X0.here hx rfl (hb hby z4_17) (XS.goto X0.here hx rfl (pc0 := 18) (pc' := 22) rfl (hb hby z4_18) (by decide) (by decide) k))))) ?_
  exact Go.retN X0 hx Bd.notSynchronized (t := .boolean) Bd.returns (by simp) (hb hby z4_22) ⟨rfl, N0, e0⟩ (by decide) (by decide)
def own_eqv (x y : Int32) : Int32 := if x = y then 1 else 0
theorem z5_0 : decode prog_7_method_11_code 0 = .ok (.aload_n 1, 1) := by decide +kernel
theorem z5_1 : decode prog_7_method_11_code 1 = .ok (.instanceof 8, 3) := by decide +kernel
theorem z5_4 : decode prog_7_method_11_code 4 = .ok (.ifCond .eq 62, 3) := by decide +kernel
theorem z5_7 : decode prog_7_method_11_code 7 = .ok (.aload_n 1, 1) := by decide +kernel
theorem z5_8 : decode prog_7_method_11_code 8 = .ok (.checkcast 8, 3) := by decide +kernel
theorem z5_11 : decode prog_7_method_11_code 11 = .ok (.astore_n 2, 1) := by decide +kernel
theorem z5_12 : decode prog_7_method_11_code 12 = .ok (.aload_n 0, 1) := by decide +kernel
theorem z5_13 : decode prog_7_method_11_code 13 = .ok (.getfield 7, 3) := by decide +kernel
theorem z5_16 : decode prog_7_method_11_code 16 = .ok (.aload_n 2, 1) := by decide +kernel
theorem z5_17 : decode prog_7_method_11_code 17 = .ok (.getfield 7, 3) := by decide +kernel
theorem z5_20 : decode prog_7_method_11_code 20 = .ok (.if_icmp .ne 46, 3) := by decide +kernel
theorem z5_23 : decode prog_7_method_11_code 23 = .ok (.aload_n 0, 1) := by decide +kernel
theorem z5_24 : decode prog_7_method_11_code 24 = .ok (.getfield 13, 3) := by decide +kernel
theorem z5_27 : decode prog_7_method_11_code 27 = .ok (.aload_n 2, 1) := by decide +kernel
theorem z5_28 : decode prog_7_method_11_code 28 = .ok (.getfield 13, 3) := by decide +kernel
theorem z5_31 : decode prog_7_method_11_code 31 = .ok (.invokestatic 73, 3) := by decide +kernel
theorem z5_34 : decode prog_7_method_11_code 34 = .ok (.ifCond .eq 32, 3) := by decide +kernel
theorem z5_37 : decode prog_7_method_11_code 37 = .ok (.aload_n 0, 1) := by decide +kernel
theorem z5_38 : decode prog_7_method_11_code 38 = .ok (.getfield 17, 3) := by decide +kernel
theorem z5_41 : decode prog_7_method_11_code 41 = .ok (.aload_n 2, 1) := by decide +kernel
theorem z5_42 : decode prog_7_method_11_code 42 = .ok (.getfield 17, 3) := by decide +kernel
theorem z5_45 : decode prog_7_method_11_code 45 = .ok (.if_icmp .ne 21, 3) := by decide +kernel
theorem z5_48 : decode prog_7_method_11_code 48 = .ok (.aload_n 0, 1) := by decide +kernel
theorem z5_49 : decode prog_7_method_11_code 49 = .ok (.getfield 20, 3) := by decide +kernel
theorem z5_52 : decode prog_7_method_11_code 52 = .ok (.aload_n 2, 1) := by decide +kernel
theorem z5_53 : decode prog_7_method_11_code 53 = .ok (.getfield 20, 3) := by decide +kernel
theorem z5_56 : decode prog_7_method_11_code 56 = .ok (.invokestatic 73, 3) := by decide +kernel
theorem z5_59 : decode prog_7_method_11_code 59 = .ok (.ifCond .eq 7, 3) := by decide +kernel
theorem z5_62 : decode prog_7_method_11_code 62 = .ok (.iconst 1, 1) := by decide +kernel
theorem z5_63 : decode prog_7_method_11_code 63 = .ok (.goto 4, 3) := by decide +kernel
theorem z5_66 : decode prog_7_method_11_code 66 = .ok (.iconst 0, 1) := by decide +kernel
theorem z5_67 : decode prog_7_method_11_code 67 = .ok (.ireturn, 1) := by decide +kernel
theorem efPe (m : MethodId) (x0 : Addr) (x1 : Addr) : entryFrame m #[(.ref x0), (.ref x1)] 3 = mkF m 0 #[rv x0, rv x1, .unset] [] := by first | (simp [entryFrame, mkF, argsToLocals, Value.category]; done) | rfl
def QPe (Z : State) (a : Addr) (b' : Addr) (pv : Int32) (pw : Int32) (h0 : Heap) (n0 : Nat) (v : Option Value) (h : Heap) (L : List Loc) : Prop := v = some (.int (own_eqv pv pw)) ∧ Fr n0 L ∧ h = h0
set_option maxRecDepth 65536 in
set_option maxHeartbeats 40000000 in
theorem rmPe (l : Launch) (Z : State) (a0 : Array Value) (hw : ∀ d ∈ tables_1, d.before a0 Z = true) (ws : List Jvm.Cond) (a : Addr) (b' : Addr) (pv : Int32) (pw : Int32) (h0 : Heap) (n0 : Nat) (Ea : Exa Z h0 a "com/example/salish/salish/SchemaFault$Place") (Fva : Fld Z h0 a "com/example/salish/salish/SchemaFault$Place" "value" "I" (.int pv)) (Fta : Fld Z h0 a "com/example/salish/salish/SchemaFault$Place" "type" "Ljava/lang/String;" .null) (Ffa : Fld Z h0 a "com/example/salish/salish/SchemaFault$Place" "field" "I" (.int (-1))) (Fna : Fld Z h0 a "com/example/salish/salish/SchemaFault$Place" "fieldName" "Ljava/lang/String;" .null) (Eb : Exa Z h0 b' "com/example/salish/salish/SchemaFault$Place") (Fvb : Fld Z h0 b' "com/example/salish/salish/SchemaFault$Place" "value" "I" (.int pw)) (Ftb : Fld Z h0 b' "com/example/salish/salish/SchemaFault$Place" "type" "Ljava/lang/String;" .null) (Ffb : Fld Z h0 b' "com/example/salish/salish/SchemaFault$Place" "field" "I" (.int (-1))) (Fnb : Fld Z h0 b' "com/example/salish/salish/SchemaFault$Place" "fieldName" "Ljava/lang/String;" .null) :
    MetFree l (⟨"com/example/salish/salish/SchemaFault$Place", "equals", "(Ljava/lang/Object;)Z"⟩ : MethodName) (head1 (Jvm.Cond.code (⟨"com/example/salish/salish/SchemaFault$Place", "equals", "(Ljava/lang/Object;)Z"⟩ : MethodName) prog_7_method_11_code 3 (some .boolean) :: ws) ({ frames := 1, cells := 0, slots := 0, locals := 13 } : Room)) (fun as' U => as' = #[(.ref a), (.ref b')] ∧ Z.Warmed39 U.vm ∧ U.heap = h0) (fun _ _ _ _ _ => True) (fun _ U o U' => ∃ v L, o = .returned v ∧ QPe Z a b' pv pw h0 n0 v U'.heap L ∧ FrameEnd U o U' L ({ frames := 1, cells := 0, slots := 0, locals := 13 } : Room).cells ({ frames := 1, cells := 0, slots := 0, locals := 13 } : Room).slots) := by
  refine MetFree.of_bodySF (plainFor_of_name pn_com_example_salish_salish_SchemaFault_Place) hisR ?_
  intro p e s m args below meth c s₁ Bd hml0 hP hK
  obtain ⟨rfl, hZ, hh⟩ := hP
  have hx := Bd.exec
  have hby := Bd.bytes
  have hml : c.maxLocals = 3 := hml0
  have hown : s.vm.findClass "com/example/salish/salish/SchemaFault$Place" = some m.cls := findClass_of_methodNamed Bd.named
  have hnm := (name_of_methodNamed Bd.named Bd.method).1
  have X0 : Stand p l e ({ frames := 1, cells := 0, slots := 0, locals := 13 } : Room) s m #[(.ref a), (.ref b')] below meth c s₁ [] 0 0 := Stand.of_body Bd
  have e0 : s₁.heap = h0 := by rw [← hh, Bd.state]; rfl
  have N0 := Fr.nil n0
  show Go p e below s (fun v h L => QPe Z a b' pv pw h0 n0 v h L) 0 0 _
  refine Go.pull (V := s₁.setTop (mkF m 0 #[rv a, rv b', .unset] [])) (fun t k => castTop (efPe m a b') k) ?_
  refine Go.pull (V := s₁.setTop (mkF m 1 #[rv a, rv b', .unset] [(.ref b')])) (fun t k => XS.aloadN X0.here hx rfl (hb hby z5_0) rfl rfl k) ?_
  obtain ⟨T1, X1, e1, st1⟩ := instY X0 hx hZ hown (hw _ (List.mem_of_getElem? (i := 4) rfl)) e0 (Ins.self Eb) (g := (mkF m 1 #[rv a, rv b', .unset] [(.ref b')])) rfl rfl (hb hby z5_1)
  refine Go.pull (V := T1.setTop (mkF m 4 #[rv a, rv b', .unset] [(.int 1)])) st1 ?_
  refine Go.pull (V := T1.setTop (mkF m 8 #[rv a, rv b', .unset] [(.ref b')])) (fun t k => XS.ifNo X1.here hx rfl (hb hby z5_4) rfl (XT.i0_eq_f (by decide)) (XS.aloadN X1.here hx rfl (hb hby z5_7) rfl rfl k)) ?_
  obtain ⟨T2, X2, e2, st2⟩ := castY X1 hx hZ hown (hw _ (List.mem_of_getElem? (i := 4) rfl)) e1 (Ins.self Eb) (g := (mkF m 8 #[rv a, rv b', .unset] [(.ref b')])) rfl rfl (hb hby z5_8)
  refine Go.pull (V := T2.setTop (mkF m 11 #[rv a, rv b', .unset] [(.ref b')])) st2 ?_
  refine Go.pull (V := T2.setTop (mkF m 13 #[rv a, rv b', rv b'] [(.ref a)])) (fun t k => XS.astoreN X2.here hx rfl (hb hby z5_11) rfl rfl (l' := #[rv a, rv b', rv b']) rfl (XS.aloadN X2.here hx rfl (hb hby z5_12) rfl rfl k)) ?_
  obtain ⟨T3, X3, e3, st3⟩ := getF X2 hx hZ hown (host := "") (Or.inl (hw _ (List.mem_of_getElem? (i := 12) rfl))) Via.refl e2 Fva (g := (mkF m 13 #[rv a, rv b', rv b'] [(.ref a)])) rfl rfl (hb hby z5_13)
  refine Go.pull (V := T3.setTop (mkF m 16 #[rv a, rv b', rv b'] [(.int pv)])) st3 ?_
  refine Go.pull (V := T3.setTop (mkF m 17 #[rv a, rv b', rv b'] [(.ref b'), (.int pv)])) (fun t k => XS.aloadN X3.here hx rfl (hb hby z5_16) rfl rfl k) ?_
  obtain ⟨T4, X4, e4, st4⟩ := getF X3 hx hZ hown (host := "") (Or.inl (hw _ (List.mem_of_getElem? (i := 12) rfl))) Via.refl e3 Fvb (g := (mkF m 17 #[rv a, rv b', rv b'] [(.ref b'), (.int pv)])) rfl rfl (hb hby z5_17)
  refine Go.pull (V := T4.setTop (mkF m 20 #[rv a, rv b', rv b'] [(.int pw), (.int pv)])) st4 ?_
  by_cases hc20_5 : pv = pw
  · skip
    refine Go.pull (V := T4.setTop (mkF m 24 #[rv a, rv b', rv b'] [(.ref a)])) (fun t k => XS.icmpNo X4.here hx rfl (hb hby z5_20) rfl (XT.ii_ne_f hc20_5) (XS.aloadN X4.here hx rfl (hb hby z5_23) rfl rfl k)) ?_
    obtain ⟨T6, X6, e6, st6⟩ := getF X4 hx hZ hown (host := "") (Or.inl (hw _ (List.mem_of_getElem? (i := 14) rfl))) Via.refl e4 Fta (g := (mkF m 24 #[rv a, rv b', rv b'] [(.ref a)])) rfl rfl (hb hby z5_24)
    refine Go.pull (V := T6.setTop (mkF m 27 #[rv a, rv b', rv b'] [.null])) st6 ?_
    refine Go.pull (V := T6.setTop (mkF m 28 #[rv a, rv b', rv b'] [(.ref b'), .null])) (fun t k => XS.aloadN X6.here hx rfl (hb hby z5_27) rfl rfl k) ?_
    obtain ⟨T7, X7, e7, st7⟩ := getF X6 hx hZ hown (host := "") (Or.inl (hw _ (List.mem_of_getElem? (i := 14) rfl))) Via.refl e6 Ftb (g := (mkF m 28 #[rv a, rv b', rv b'] [(.ref b'), .null])) rfl rfl (hb hby z5_28)
    refine Go.pull (V := T7.setTop (mkF m 31 #[rv a, rv b', rv b'] [.null, .null])) st7 ?_
    obtain ⟨_, _, ⟨T8, L8, k8, n8⟩, -, X8, ⟨Lc8, hQ8, l8, y8, z8⟩, st8⟩ := Jvm.LawKit.callS X7 hx (y := (⟨"java/util/Objects", "equals", "(Ljava/lang/Object;Ljava/lang/Object;)Z"⟩ : MethodName)) hown (mvT hZ (hw _ (List.mem_of_getElem? (i := 40) rfl))) (mvT hZ (hw _ (List.mem_of_getElem? (i := 41) rfl))) (mvT hZ (hw _ (List.mem_of_getElem? (i := 42) rfl))) (mvT hZ (hw _ (List.mem_of_getElem? (i := 43) rfl))) (by decide) (backOf (W := 0) (rmOe l Z a0 hw []  h0 n0 ) hZ (hw _ (List.mem_of_getElem? (i := 43) rfl)) (hw _ (List.mem_of_getElem? (i := 42) rfl)) (by decide) (by decide)) (g := (mkF m 31 #[rv a, rv b', rv b'] [.null, .null])) rfl (by rw [hml]; rfl) (argsL := [.null, .null]) (rest := []) (lenOf pd_1 rfl) rfl (by show 2 * 0 + _ ≤ _; exact Nat.le_of_eq rfl) (hb hby z5_31) (fun _ _ => ⟨rfl, e7, (by decide : 0 + 0 ≤ _), (by decide : 0 + 0 ≤ _)⟩)
    dsimp only [Pt.U, Pt.locs, Pt.cells, Pt.slots] at X8 l8 y8 z8 st8 hQ8
    subst l8 y8 z8
    obtain ⟨rfl, N8q, e8⟩ := hQ8
    have N8 := Fr.app N0 N8q
    refine Go.pull (V := T8.setTop (mkF m 34 #[rv a, rv b', rv b'] [(.int 1)])) st8 ?_
    refine Go.pull (V := T8.setTop (mkF m 38 #[rv a, rv b', rv b'] [(.ref a)])) (fun t k => XS.ifNo X8.here hx rfl (hb hby z5_34) rfl (XT.i0_eq_f (by decide)) (XS.aloadN X8.here hx rfl (hb hby z5_37) rfl rfl k)) ?_
    obtain ⟨T9, X9, e9, st9⟩ := getF X8 hx hZ hown (host := "") (Or.inl (hw _ (List.mem_of_getElem? (i := 16) rfl))) Via.refl e8 Ffa (g := (mkF m 38 #[rv a, rv b', rv b'] [(.ref a)])) rfl rfl (hb hby z5_38)
    refine Go.pull (V := T9.setTop (mkF m 41 #[rv a, rv b', rv b'] [(.int (-1))])) st9 ?_
    refine Go.pull (V := T9.setTop (mkF m 42 #[rv a, rv b', rv b'] [(.ref b'), (.int (-1))])) (fun t k => XS.aloadN X9.here hx rfl (hb hby z5_41) rfl rfl k) ?_
    obtain ⟨T10, X10, e10, st10⟩ := getF X9 hx hZ hown (host := "") (Or.inl (hw _ (List.mem_of_getElem? (i := 16) rfl))) Via.refl e9 Ffb (g := (mkF m 42 #[rv a, rv b', rv b'] [(.ref b'), (.int (-1))])) rfl rfl (hb hby z5_42)
    refine Go.pull (V := T10.setTop (mkF m 45 #[rv a, rv b', rv b'] [(.int (-1)), (.int (-1))])) st10 ?_
    refine Go.pull (V := T10.setTop (mkF m 49 #[rv a, rv b', rv b'] [(.ref a)])) (fun t k => XS.icmpNo X10.here hx rfl (hb hby z5_45) rfl (XT.ii_ne_f (by decide)) (XS.aloadN X10.here hx rfl (hb hby z5_48) rfl rfl k)) ?_
    obtain ⟨T11, X11, e11, st11⟩ := getF X10 hx hZ hown (host := "") (Or.inl (hw _ (List.mem_of_getElem? (i := 18) rfl))) Via.refl e10 Fna (g := (mkF m 49 #[rv a, rv b', rv b'] [(.ref a)])) rfl rfl (hb hby z5_49)
    refine Go.pull (V := T11.setTop (mkF m 52 #[rv a, rv b', rv b'] [.null])) st11 ?_
    refine Go.pull (V := T11.setTop (mkF m 53 #[rv a, rv b', rv b'] [(.ref b'), .null])) (fun t k => XS.aloadN X11.here hx rfl (hb hby z5_52) rfl rfl k) ?_
    obtain ⟨T12, X12, e12, st12⟩ := getF X11 hx hZ hown (host := "") (Or.inl (hw _ (List.mem_of_getElem? (i := 18) rfl))) Via.refl e11 Fnb (g := (mkF m 53 #[rv a, rv b', rv b'] [(.ref b'), .null])) rfl rfl (hb hby z5_53)
    refine Go.pull (V := T12.setTop (mkF m 56 #[rv a, rv b', rv b'] [.null, .null])) st12 ?_
    obtain ⟨_, _, ⟨T13, L13, k13, n13⟩, -, X13, ⟨Lc13, hQ13, l13, y13, z13⟩, st13⟩ := Jvm.LawKit.callS X12 hx (y := (⟨"java/util/Objects", "equals", "(Ljava/lang/Object;Ljava/lang/Object;)Z"⟩ : MethodName)) hown (mvT hZ (hw _ (List.mem_of_getElem? (i := 40) rfl))) (mvT hZ (hw _ (List.mem_of_getElem? (i := 41) rfl))) (mvT hZ (hw _ (List.mem_of_getElem? (i := 42) rfl))) (mvT hZ (hw _ (List.mem_of_getElem? (i := 43) rfl))) (by decide) (backOf (W := 0) (rmOe l Z a0 hw []  h0 n0 ) hZ (hw _ (List.mem_of_getElem? (i := 43) rfl)) (hw _ (List.mem_of_getElem? (i := 42) rfl)) (by decide) (by decide)) (g := (mkF m 56 #[rv a, rv b', rv b'] [.null, .null])) rfl (by rw [hml]; rfl) (argsL := [.null, .null]) (rest := []) (lenOf pd_1 rfl) rfl (by show 2 * 0 + _ ≤ _; exact Nat.le_of_eq rfl) (hb hby z5_56) (fun _ _ => ⟨rfl, e12, (by decide : 0 + 0 ≤ _), (by decide : 0 + 0 ≤ _)⟩)
    dsimp only [Pt.U, Pt.locs, Pt.cells, Pt.slots] at X13 l13 y13 z13 st13 hQ13
    subst l13 y13 z13
    obtain ⟨rfl, N13q, e13⟩ := hQ13
    have N13 := Fr.app N8 N13q
    refine Go.pull (V := T13.setTop (mkF m 59 #[rv a, rv b', rv b'] [(.int 1)])) st13 ?_
    refine Go.pull (V := T13.setTop (mkF m 67 #[rv a, rv b', rv b'] [(.int 1)])) (fun t k => XS.ifNo X13.here hx rfl (hb hby z5_59) rfl (XT.i0_eq_f (by decide)) (XS.iconst X13.here hx rfl (hb hby z5_62) (XS.goto X13.here hx rfl (pc0 := 63) (pc' := 67) rfl (hb hby z5_63) (by decide) (by decide) k))) ?_
    exact Go.retN X13 hx Bd.notSynchronized (t := .boolean) Bd.returns (by simp) (hb hby z5_67) ⟨(by rw [own_eqv, if_pos hc20_5] <;> rfl), N13, e13⟩ (by decide) (by decide)
  · skip
    refine Go.pull (V := T4.setTop (mkF m 67 #[rv a, rv b', rv b'] [(.int 0)])) (fun t k => XS.icmpYes X4.here hx rfl (pc0 := 20) (pc' := 66) rfl (hb hby z5_20) rfl (XT.ii_ne_t hc20_5) (by decide) (by decide) (XS.iconst X4.here hx rfl (hb hby z5_66) k)) ?_
    exact Go.retN X4 hx Bd.notSynchronized (t := .boolean) Bd.returns (by simp) (hb hby z5_67) ⟨(by rw [own_eqv, if_neg hc20_5] <;> rfl), N0, e4⟩ (by decide) (by decide)
theorem z6_0 : decode jdk_42_method_152_code 0 = .ok (.getstatic 38, 3) := by decide +kernel
theorem z6_3 : decode jdk_42_method_152_code 3 = .ok (.ifCond .eq 10, 3) := by decide +kernel
theorem z6_6 : decode jdk_42_method_152_code 6 = .ok (.aload_n 0, 1) := by decide +kernel
theorem z6_7 : decode jdk_42_method_152_code 7 = .ok (.getfield 15, 3) := by decide +kernel
theorem z6_10 : decode jdk_42_method_152_code 10 = .ok (.goto 4, 3) := by decide +kernel
theorem z6_14 : decode jdk_42_method_152_code 14 = .ok (.ireturn, 1) := by decide +kernel
theorem efSc (m : MethodId) (x0 : Addr) : entryFrame m #[(.ref x0)] 1 = mkF m 0 #[rv x0] [] := by first | (simp [entryFrame, mkF, argsToLocals, Value.category]; done) | rfl
theorem pn_java_lang_String : plainName "java/lang/String" = true := by first | (simp [plainName, overriddenIn]; done) | decide +kernel
def QSc (Z : State) (a : Addr) (cs : Int32) (h0 : Heap) (n0 : Nat) (v : Option Value) (h : Heap) (L : List Loc) : Prop := v = some (.int 0) ∧ Fr n0 L ∧ h = h0
set_option maxRecDepth 65536 in
set_option maxHeartbeats 40000000 in
theorem rmSc (l : Launch) (Z : State) (a0 : Array Value) (hw : ∀ d ∈ tables_1, d.before a0 Z = true) (ws : List Jvm.Cond) (a : Addr) (cs : Int32) (h0 : Heap) (n0 : Nat) (Scs : Sta Z h0 "java/lang/String" "COMPACT_STRINGS" "Z" (.int cs)) (Fc : Fld Z h0 a "java/lang/String" "coder" "B" (.int 0)) (hcs : ¬ cs = 0) :
    MetFree l (⟨"java/lang/String", "coder", "()B"⟩ : MethodName) (head1 (Jvm.Cond.code (⟨"java/lang/String", "coder", "()B"⟩ : MethodName) jdk_42_method_152_code 1 (some .byte) :: ws) ({ frames := 0, cells := 0, slots := 0, locals := 0 } : Room)) (fun as' U => as' = #[(.ref a)] ∧ Z.Warmed39 U.vm ∧ U.heap = h0) (fun _ _ _ _ _ => True) (fun _ U o U' => ∃ v L, o = .returned v ∧ QSc Z a cs h0 n0 v U'.heap L ∧ FrameEnd U o U' L ({ frames := 0, cells := 0, slots := 0, locals := 0 } : Room).cells ({ frames := 0, cells := 0, slots := 0, locals := 0 } : Room).slots) := by
  refine MetFree.of_bodySF (plainFor_of_name pn_java_lang_String) hisR ?_
  intro p e s m args below meth c s₁ Bd hml0 hP hK
  obtain ⟨rfl, hZ, hh⟩ := hP
  have hx := Bd.exec
  have hby := Bd.bytes
  have hml : c.maxLocals = 1 := hml0
  have hown : s.vm.findClass "java/lang/String" = some m.cls := findClass_of_methodNamed Bd.named
  have hnm := (name_of_methodNamed Bd.named Bd.method).1
  have X0 : Stand p l e ({ frames := 0, cells := 0, slots := 0, locals := 0 } : Room) s m #[(.ref a)] below meth c s₁ [] 0 0 := Stand.of_body Bd
  have e0 : s₁.heap = h0 := by rw [← hh, Bd.state]; rfl
  have N0 := Fr.nil n0
  show Go p e below s (fun v h L => QSc Z a cs h0 n0 v h L) 0 0 _
  refine Go.pull (V := s₁.setTop (mkF m 0 #[rv a] [])) (fun t k => castTop (efSc m a) k) ?_
  obtain ⟨T1, X1, e1, st1⟩ := getS2 X0 hx hZ hown (host := "") (Or.inl (hw _ (List.mem_of_getElem? (i := 102) rfl))) Via.refl e0 Scs (g := (mkF m 0 #[rv a] [])) rfl (hb hby z6_0)
  refine Go.pull (V := T1.setTop (mkF m 3 #[rv a] [(.int cs)])) st1 ?_
  refine Go.pull (V := T1.setTop (mkF m 7 #[rv a] [(.ref a)])) (fun t k => XS.ifNo X1.here hx rfl (hb hby z6_3) rfl (XT.i0_eq_f hcs) (XS.aloadN X1.here hx rfl (hb hby z6_6) rfl rfl k)) ?_
  obtain ⟨T2, X2, e2, st2⟩ := getF X1 hx hZ hown (host := "") (Or.inl (hw _ (List.mem_of_getElem? (i := 103) rfl))) Via.refl e1 Fc (g := (mkF m 7 #[rv a] [(.ref a)])) rfl rfl (hb hby z6_7)
  refine Go.pull (V := T2.setTop (mkF m 10 #[rv a] [(.int 0)])) st2 ?_
  refine Go.pull (V := T2.setTop (mkF m 14 #[rv a] [(.int 0)])) (fun t k => XS.goto X2.here hx rfl (pc0 := 10) (pc' := 14) rfl (hb hby z6_10) (by decide) (by decide) k) ?_
  exact Go.retN X2 hx Bd.notSynchronized (t := .byte) Bd.returns (by simp) (hb hby z6_14) ⟨rfl, N0, e2⟩ (by decide) (by decide)
theorem z7_0 : decode jdk_42_method_154_code 0 = .ok (.getstatic 38, 3) := by decide +kernel
theorem z7_3 : decode jdk_42_method_154_code 3 = .ok (.ifCond .eq 14, 3) := by decide +kernel
theorem z7_6 : decode jdk_42_method_154_code 6 = .ok (.aload_n 0, 1) := by decide +kernel
theorem z7_7 : decode jdk_42_method_154_code 7 = .ok (.getfield 15, 3) := by decide +kernel
theorem z7_10 : decode jdk_42_method_154_code 10 = .ok (.ifCond .ne 7, 3) := by decide +kernel
theorem z7_13 : decode jdk_42_method_154_code 13 = .ok (.iconst 1, 1) := by decide +kernel
theorem z7_14 : decode jdk_42_method_154_code 14 = .ok (.goto 4, 3) := by decide +kernel
theorem z7_18 : decode jdk_42_method_154_code 18 = .ok (.ireturn, 1) := by decide +kernel
theorem efS1 (m : MethodId) (x0 : Addr) : entryFrame m #[(.ref x0)] 1 = mkF m 0 #[rv x0] [] := by first | (simp [entryFrame, mkF, argsToLocals, Value.category]; done) | rfl
def QS1 (Z : State) (a : Addr) (cs : Int32) (h0 : Heap) (n0 : Nat) (v : Option Value) (h : Heap) (L : List Loc) : Prop := v = some (.int 1) ∧ Fr n0 L ∧ h = h0
set_option maxRecDepth 65536 in
set_option maxHeartbeats 40000000 in
theorem rmS1 (l : Launch) (Z : State) (a0 : Array Value) (hw : ∀ d ∈ tables_1, d.before a0 Z = true) (ws : List Jvm.Cond) (a : Addr) (cs : Int32) (h0 : Heap) (n0 : Nat) (Scs : Sta Z h0 "java/lang/String" "COMPACT_STRINGS" "Z" (.int cs)) (Fc : Fld Z h0 a "java/lang/String" "coder" "B" (.int 0)) (hcs : ¬ cs = 0) :
    MetFree l (⟨"java/lang/String", "isLatin1", "()Z"⟩ : MethodName) (head1 (Jvm.Cond.code (⟨"java/lang/String", "isLatin1", "()Z"⟩ : MethodName) jdk_42_method_154_code 1 (some .boolean) :: ws) ({ frames := 0, cells := 0, slots := 0, locals := 0 } : Room)) (fun as' U => as' = #[(.ref a)] ∧ Z.Warmed39 U.vm ∧ U.heap = h0) (fun _ _ _ _ _ => True) (fun _ U o U' => ∃ v L, o = .returned v ∧ QS1 Z a cs h0 n0 v U'.heap L ∧ FrameEnd U o U' L ({ frames := 0, cells := 0, slots := 0, locals := 0 } : Room).cells ({ frames := 0, cells := 0, slots := 0, locals := 0 } : Room).slots) := by
  refine MetFree.of_bodySF (plainFor_of_name pn_java_lang_String) hisR ?_
  intro p e s m args below meth c s₁ Bd hml0 hP hK
  obtain ⟨rfl, hZ, hh⟩ := hP
  have hx := Bd.exec
  have hby := Bd.bytes
  have hml : c.maxLocals = 1 := hml0
  have hown : s.vm.findClass "java/lang/String" = some m.cls := findClass_of_methodNamed Bd.named
  have hnm := (name_of_methodNamed Bd.named Bd.method).1
  have X0 : Stand p l e ({ frames := 0, cells := 0, slots := 0, locals := 0 } : Room) s m #[(.ref a)] below meth c s₁ [] 0 0 := Stand.of_body Bd
  have e0 : s₁.heap = h0 := by rw [← hh, Bd.state]; rfl
  have N0 := Fr.nil n0
  show Go p e below s (fun v h L => QS1 Z a cs h0 n0 v h L) 0 0 _
  refine Go.pull (V := s₁.setTop (mkF m 0 #[rv a] [])) (fun t k => castTop (efS1 m a) k) ?_
  obtain ⟨T1, X1, e1, st1⟩ := getS2 X0 hx hZ hown (host := "") (Or.inl (hw _ (List.mem_of_getElem? (i := 102) rfl))) Via.refl e0 Scs (g := (mkF m 0 #[rv a] [])) rfl (hb hby z7_0)
  refine Go.pull (V := T1.setTop (mkF m 3 #[rv a] [(.int cs)])) st1 ?_
  refine Go.pull (V := T1.setTop (mkF m 7 #[rv a] [(.ref a)])) (fun t k => XS.ifNo X1.here hx rfl (hb hby z7_3) rfl (XT.i0_eq_f hcs) (XS.aloadN X1.here hx rfl (hb hby z7_6) rfl rfl k)) ?_
  obtain ⟨T2, X2, e2, st2⟩ := getF X1 hx hZ hown (host := "") (Or.inl (hw _ (List.mem_of_getElem? (i := 103) rfl))) Via.refl e1 Fc (g := (mkF m 7 #[rv a] [(.ref a)])) rfl rfl (hb hby z7_7)
  refine Go.pull (V := T2.setTop (mkF m 10 #[rv a] [(.int 0)])) st2 ?_
  refine Go.pull (V := T2.setTop (mkF m 18 #[rv a] [(.int 1)])) (fun t k => XS.ifNo X2.here hx rfl (hb hby z7_10) rfl (XT.i0_ne_f (by decide)) (XS.iconst X2.here hx rfl (hb hby z7_13) (XS.goto X2.here hx rfl (pc0 := 14) (pc' := 18) rfl (hb hby z7_14) (by decide) (by decide) k))) ?_
  exact Go.retN X2 hx Bd.notSynchronized (t := .boolean) Bd.returns (by simp) (hb hby z7_18) ⟨rfl, N0, e2⟩ (by decide) (by decide)
theorem z8_0 : decode jdk_42_method_55_code 0 = .ok (.aload_n 0, 1) := by decide +kernel
theorem z8_1 : decode jdk_42_method_55_code 1 = .ok (.getfield 9, 3) := by decide +kernel
theorem z8_4 : decode jdk_42_method_55_code 4 = .ok (.arraylength, 1) := by decide +kernel
theorem z8_5 : decode jdk_42_method_55_code 5 = .ok (.ifCond .ne 7, 3) := by decide +kernel
theorem z8_8 : decode jdk_42_method_55_code 8 = .ok (.iconst 1, 1) := by decide +kernel
theorem z8_9 : decode jdk_42_method_55_code 9 = .ok (.goto 4, 3) := by decide +kernel
theorem z8_13 : decode jdk_42_method_55_code 13 = .ok (.ireturn, 1) := by decide +kernel
theorem efSe (m : MethodId) (x0 : Addr) : entryFrame m #[(.ref x0)] 1 = mkF m 0 #[rv x0] [] := by first | (simp [entryFrame, mkF, argsToLocals, Value.category]; done) | rfl
def QSe (Z : State) (a : Addr) (sa : Addr) (ka : ClassId) (us : List Value) (h0 : Heap) (n0 : Nat) (v : Option Value) (h : Heap) (L : List Loc) : Prop := v = some (.int 1) ∧ Fr n0 L ∧ h = h0
set_option maxRecDepth 65536 in
set_option maxHeartbeats 40000000 in
theorem rmSe (l : Launch) (Z : State) (a0 : Array Value) (hw : ∀ d ∈ tables_1, d.before a0 Z = true) (ws : List Jvm.Cond) (a : Addr) (sa : Addr) (ka : ClassId) (us : List Value) (h0 : Heap) (n0 : Nat) (Fv : Fld Z h0 a "java/lang/String" "value" "[B" (.ref sa)) (Va : Arv Z h0 sa ka .byte (0 : Int32) us (.int 0)) :
    MetFree l (⟨"java/lang/String", "isEmpty", "()Z"⟩ : MethodName) (head1 (Jvm.Cond.code (⟨"java/lang/String", "isEmpty", "()Z"⟩ : MethodName) jdk_42_method_55_code 1 (some .boolean) :: ws) ({ frames := 0, cells := 0, slots := 0, locals := 0 } : Room)) (fun as' U => as' = #[(.ref a)] ∧ Z.Warmed39 U.vm ∧ U.heap = h0) (fun _ _ _ _ _ => True) (fun _ U o U' => ∃ v L, o = .returned v ∧ QSe Z a sa ka us h0 n0 v U'.heap L ∧ FrameEnd U o U' L ({ frames := 0, cells := 0, slots := 0, locals := 0 } : Room).cells ({ frames := 0, cells := 0, slots := 0, locals := 0 } : Room).slots) := by
  refine MetFree.of_bodySF (plainFor_of_name pn_java_lang_String) hisR ?_
  intro p e s m args below meth c s₁ Bd hml0 hP hK
  obtain ⟨rfl, hZ, hh⟩ := hP
  have hx := Bd.exec
  have hby := Bd.bytes
  have hml : c.maxLocals = 1 := hml0
  have hown : s.vm.findClass "java/lang/String" = some m.cls := findClass_of_methodNamed Bd.named
  have hnm := (name_of_methodNamed Bd.named Bd.method).1
  have X0 : Stand p l e ({ frames := 0, cells := 0, slots := 0, locals := 0 } : Room) s m #[(.ref a)] below meth c s₁ [] 0 0 := Stand.of_body Bd
  have e0 : s₁.heap = h0 := by rw [← hh, Bd.state]; rfl
  have N0 := Fr.nil n0
  show Go p e below s (fun v h L => QSe Z a sa ka us h0 n0 v h L) 0 0 _
  refine Go.pull (V := s₁.setTop (mkF m 0 #[rv a] [])) (fun t k => castTop (efSe m a) k) ?_
  refine Go.pull (V := s₁.setTop (mkF m 1 #[rv a] [(.ref a)])) (fun t k => XS.aloadN X0.here hx rfl (hb hby z8_0) rfl rfl k) ?_
  obtain ⟨T1, X1, e1, st1⟩ := getF X0 hx hZ hown (host := "") (Or.inl (hw _ (List.mem_of_getElem? (i := 62) rfl))) Via.refl e0 Fv (g := (mkF m 1 #[rv a] [(.ref a)])) rfl rfl (hb hby z8_1)
  refine Go.pull (V := T1.setTop (mkF m 4 #[rv a] [(.ref sa)])) st1 ?_
  obtain ⟨cl2, Ar2, q2, S2, M2, Hs2, G2⟩ := id Va
  refine Go.pull (V := T1.setTop (mkF m 5 #[rv a] [(.int 0)])) (fun t k => X1.arraylength hx (by rw [e1]; exact Ar2.1) (State.isArrayOf_alike hZ.alike Ar2.2.1) (g := (mkF m 4 #[rv a] [(.ref sa)])) rfl rfl (hb hby z8_4) _ (by rw [len_of S2 M2]; exact k)) ?_
  refine Go.pull (V := T1.setTop (mkF m 13 #[rv a] [(.int 1)])) (fun t k => XS.ifNo X1.here hx rfl (hb hby z8_5) rfl (XT.i0_ne_f (by decide)) (XS.iconst X1.here hx rfl (hb hby z8_8) (XS.goto X1.here hx rfl (pc0 := 9) (pc' := 13) rfl (hb hby z8_9) (by decide) (by decide) k))) ?_
  exact Go.retN X1 hx Bd.notSynchronized (t := .boolean) Bd.returns (by simp) (hb hby z8_13) ⟨rfl, N0, e1⟩ (by decide) (by decide)
theorem z9_0 : decode jdk_42_method_54_code 0 = .ok (.aload_n 0, 1) := by decide +kernel
theorem z9_1 : decode jdk_42_method_54_code 1 = .ok (.getfield 9, 3) := by decide +kernel
theorem z9_4 : decode jdk_42_method_54_code 4 = .ok (.arraylength, 1) := by decide +kernel
theorem z9_5 : decode jdk_42_method_54_code 5 = .ok (.aload_n 0, 1) := by decide +kernel
theorem z9_6 : decode jdk_42_method_54_code 6 = .ok (.invokevirtual 335, 3) := by decide +kernel
theorem z9_9 : decode jdk_42_method_54_code 9 = .ok (.ishr, 1) := by decide +kernel
theorem z9_10 : decode jdk_42_method_54_code 10 = .ok (.ireturn, 1) := by decide +kernel
theorem efSl (m : MethodId) (x0 : Addr) : entryFrame m #[(.ref x0)] 1 = mkF m 0 #[rv x0] [] := by first | (simp [entryFrame, mkF, argsToLocals, Value.category]; done) | rfl
def QSl (Z : State) (a : Addr) (cs : Int32) (sa : Addr) (ka : ClassId) (ns : Int32) (us : List Value) (h0 : Heap) (n0 : Nat) (v : Option Value) (h : Heap) (L : List Loc) : Prop := v = some (.int ns) ∧ Fr n0 L ∧ h = h0
set_option maxRecDepth 65536 in
set_option maxHeartbeats 40000000 in
theorem rmSl (l : Launch) (Z : State) (a0 : Array Value) (hw : ∀ d ∈ tables_1, d.before a0 Z = true) (ws : List Jvm.Cond) (a : Addr) (cs : Int32) (sa : Addr) (ka : ClassId) (ns : Int32) (us : List Value) (h0 : Heap) (n0 : Nat) (Scs : Sta Z h0 "java/lang/String" "COMPACT_STRINGS" "Z" (.int cs)) (Ea : Exa Z h0 a "java/lang/String") (Fca : Fld Z h0 a "java/lang/String" "coder" "B" (.int 0)) (Fva : Fld Z h0 a "java/lang/String" "value" "[B" (.ref sa)) (Va : Arv Z h0 sa ka .byte ns us (.int 0)) (hcs : ¬ cs = 0) :
    MetFree l (⟨"java/lang/String", "length", "()I"⟩ : MethodName) (head1 (Jvm.Cond.code (⟨"java/lang/String", "length", "()I"⟩ : MethodName) jdk_42_method_54_code 1 (some .int) :: ws) ({ frames := 1, cells := 0, slots := 0, locals := 13 } : Room)) (fun as' U => as' = #[(.ref a)] ∧ Z.Warmed39 U.vm ∧ U.heap = h0) (fun _ _ _ _ _ => True) (fun _ U o U' => ∃ v L, o = .returned v ∧ QSl Z a cs sa ka ns us h0 n0 v U'.heap L ∧ FrameEnd U o U' L ({ frames := 1, cells := 0, slots := 0, locals := 13 } : Room).cells ({ frames := 1, cells := 0, slots := 0, locals := 13 } : Room).slots) := by
  refine MetFree.of_bodySF (plainFor_of_name pn_java_lang_String) hisR ?_
  intro p e s m args below meth c s₁ Bd hml0 hP hK
  obtain ⟨rfl, hZ, hh⟩ := hP
  have hx := Bd.exec
  have hby := Bd.bytes
  have hml : c.maxLocals = 1 := hml0
  have hown : s.vm.findClass "java/lang/String" = some m.cls := findClass_of_methodNamed Bd.named
  have hnm := (name_of_methodNamed Bd.named Bd.method).1
  have X0 : Stand p l e ({ frames := 1, cells := 0, slots := 0, locals := 13 } : Room) s m #[(.ref a)] below meth c s₁ [] 0 0 := Stand.of_body Bd
  have e0 : s₁.heap = h0 := by rw [← hh, Bd.state]; rfl
  have N0 := Fr.nil n0
  show Go p e below s (fun v h L => QSl Z a cs sa ka ns us h0 n0 v h L) 0 0 _
  refine Go.pull (V := s₁.setTop (mkF m 0 #[rv a] [])) (fun t k => castTop (efSl m a) k) ?_
  refine Go.pull (V := s₁.setTop (mkF m 1 #[rv a] [(.ref a)])) (fun t k => XS.aloadN X0.here hx rfl (hb hby z9_0) rfl rfl k) ?_
  obtain ⟨T1, X1, e1, st1⟩ := getF X0 hx hZ hown (host := "") (Or.inl (hw _ (List.mem_of_getElem? (i := 62) rfl))) Via.refl e0 Fva (g := (mkF m 1 #[rv a] [(.ref a)])) rfl rfl (hb hby z9_1)
  refine Go.pull (V := T1.setTop (mkF m 4 #[rv a] [(.ref sa)])) st1 ?_
  obtain ⟨cl2, Ar2, q2, S2, M2, Hs2, G2⟩ := id Va
  refine Go.pull (V := T1.setTop (mkF m 5 #[rv a] [(.int ns)])) (fun t k => X1.arraylength hx (by rw [e1]; exact Ar2.1) (State.isArrayOf_alike hZ.alike Ar2.2.1) (g := (mkF m 4 #[rv a] [(.ref sa)])) rfl rfl (hb hby z9_4) _ (by rw [len_of S2 M2]; exact k)) ?_
  refine Go.pull (V := T1.setTop (mkF m 6 #[rv a] [(.ref a), (.int ns)])) (fun t k => XS.aloadN X1.here hx rfl (hb hby z9_5) rfl rfl k) ?_
  obtain ⟨cq3, kq3, q3a, q3b, q3c⟩ := isOf hZ e1 Ea
  obtain ⟨_, _, ⟨T3, L3, k3, n3⟩, -, X3, ⟨Lc3, hQ3, l3, y3, z3⟩, st3⟩ := X1.virtualBack hx (y := (⟨"java/lang/String", "coder", "()B"⟩ : MethodName)) (z := (⟨"java/lang/String", "coder", "()B"⟩ : MethodName)) hown (mvT hZ (hw _ (List.mem_of_getElem? (i := 97) rfl))) (mvT hZ (hw _ (List.mem_of_getElem? (i := 98) rfl))) (notFace_of_selects (args := #[]) (mvT hZ (hw _ (List.mem_of_getElem? (i := 100) rfl)))) (mvT hZ (hw _ (List.mem_of_getElem? (i := 100) rfl))) (mvT hZ (hw _ (List.mem_of_getElem? (i := 99) rfl))) (by decide) (backOf (W := 1) (rmSc l Z a0 hw [] a cs h0 n0 Scs Fca hcs) hZ (hw _ (List.mem_of_getElem? (i := 101) rfl)) (hw _ (List.mem_of_getElem? (i := 50) rfl)) (by decide) (by decide)) q3a q3c (g := (mkF m 6 #[rv a] [(.ref a), (.int ns)])) rfl (by rw [hml]; rfl) (Steps.refl _) (argsL := []) (rest := [(.int ns)]) (lenOf pd_2 rfl) rfl (by show 2 * 0 + _ ≤ _; exact Nat.le_of_eq rfl) (hb hby z9_6) (fun _ _ => ⟨rfl, e1, (by decide : 0 + 0 ≤ _), (by decide : 0 + 0 ≤ _)⟩)
  dsimp only [Pt.U, Pt.locs, Pt.cells, Pt.slots] at X3 l3 y3 z3 st3 hQ3
  subst l3 y3 z3
  obtain ⟨rfl, N3q, e3⟩ := hQ3
  have N3 := Fr.app N0 N3q
  refine Go.pull (V := T3.setTop (mkF m 9 #[rv a] [(.int 0), (.int ns)])) (fun _ k => st3.trans k) ?_
  refine Go.pull (V := T3.setTop (mkF m 10 #[rv a] [(.int (ns >>> ((0 : Int32) &&& 31)))])) (fun t k => XS.ishr X3.here hx rfl (hb hby z9_9) rfl k) ?_
  rw [show (ns >>> ((0 : Int32) &&& 31)) = ns from own_ishr0 _]
  exact Go.retI X3 hx Bd.notSynchronized Bd.returns (hb hby z9_10) ⟨rfl, N3, e3⟩ (by decide) (by decide)
theorem z10_0 : decode jdk_68_method_68_code 0 = .ok (.getstatic 18, 3) := by decide +kernel
theorem z10_3 : decode jdk_68_method_68_code 3 = .ok (.ifCond .eq 14, 3) := by decide +kernel
theorem z10_6 : decode jdk_68_method_68_code 6 = .ok (.aload_n 0, 1) := by decide +kernel
theorem z10_7 : decode jdk_68_method_68_code 7 = .ok (.getfield 22, 3) := by decide +kernel
theorem z10_10 : decode jdk_68_method_68_code 10 = .ok (.ifCond .ne 7, 3) := by decide +kernel
theorem z10_13 : decode jdk_68_method_68_code 13 = .ok (.iconst 1, 1) := by decide +kernel
theorem z10_14 : decode jdk_68_method_68_code 14 = .ok (.goto 4, 3) := by decide +kernel
theorem z10_18 : decode jdk_68_method_68_code 18 = .ok (.ireturn, 1) := by decide +kernel
theorem efB1 (m : MethodId) (x0 : Addr) : entryFrame m #[(.ref x0)] 1 = mkF m 0 #[rv x0] [] := by first | (simp [entryFrame, mkF, argsToLocals, Value.category]; done) | rfl
theorem pn_java_lang_AbstractStringBuilder : plainName "java/lang/AbstractStringBuilder" = true := by first | (simp [plainName, overriddenIn]; done) | decide +kernel
def QB1 (Z : State) (a : Addr) (cs : Int32) (h0 : Heap) (n0 : Nat) (v : Option Value) (h : Heap) (L : List Loc) : Prop := v = some (.int 1) ∧ Fr n0 L ∧ h = h0
set_option maxRecDepth 65536 in
set_option maxHeartbeats 40000000 in
theorem rmB1 (l : Launch) (Z : State) (a0 : Array Value) (hw : ∀ d ∈ tables_1, d.before a0 Z = true) (ws : List Jvm.Cond) (a : Addr) (cs : Int32) (h0 : Heap) (n0 : Nat) (Scs : Sta Z h0 "java/lang/String" "COMPACT_STRINGS" "Z" (.int cs)) (Fc : Fld Z h0 a "java/lang/AbstractStringBuilder" "coder" "B" (.int 0)) (hcs : ¬ cs = 0) :
    MetFree l (⟨"java/lang/AbstractStringBuilder", "isLatin1", "()Z"⟩ : MethodName) (head1 (Jvm.Cond.code (⟨"java/lang/AbstractStringBuilder", "isLatin1", "()Z"⟩ : MethodName) jdk_68_method_68_code 1 (some .boolean) :: ws) ({ frames := 0, cells := 0, slots := 0, locals := 0 } : Room)) (fun as' U => as' = #[(.ref a)] ∧ Z.Warmed39 U.vm ∧ U.heap = h0) (fun _ _ _ _ _ => True) (fun _ U o U' => ∃ v L, o = .returned v ∧ QB1 Z a cs h0 n0 v U'.heap L ∧ FrameEnd U o U' L ({ frames := 0, cells := 0, slots := 0, locals := 0 } : Room).cells ({ frames := 0, cells := 0, slots := 0, locals := 0 } : Room).slots) := by
  refine MetFree.of_bodySF (plainFor_of_name pn_java_lang_AbstractStringBuilder) hisR ?_
  intro p e s m args below meth c s₁ Bd hml0 hP hK
  obtain ⟨rfl, hZ, hh⟩ := hP
  have hx := Bd.exec
  have hby := Bd.bytes
  have hml : c.maxLocals = 1 := hml0
  have hown : s.vm.findClass "java/lang/AbstractStringBuilder" = some m.cls := findClass_of_methodNamed Bd.named
  have hnm := (name_of_methodNamed Bd.named Bd.method).1
  have X0 : Stand p l e ({ frames := 0, cells := 0, slots := 0, locals := 0 } : Room) s m #[(.ref a)] below meth c s₁ [] 0 0 := Stand.of_body Bd
  have e0 : s₁.heap = h0 := by rw [← hh, Bd.state]; rfl
  have N0 := Fr.nil n0
  show Go p e below s (fun v h L => QB1 Z a cs h0 n0 v h L) 0 0 _
  refine Go.pull (V := s₁.setTop (mkF m 0 #[rv a] [])) (fun t k => castTop (efB1 m a) k) ?_
  obtain ⟨T1, X1, e1, st1⟩ := getS2 X0 hx hZ hown (host := "") (Or.inl (hw _ (List.mem_of_getElem? (i := 76) rfl))) Via.refl e0 Scs (g := (mkF m 0 #[rv a] [])) rfl (hb hby z10_0)
  refine Go.pull (V := T1.setTop (mkF m 3 #[rv a] [(.int cs)])) st1 ?_
  refine Go.pull (V := T1.setTop (mkF m 7 #[rv a] [(.ref a)])) (fun t k => XS.ifNo X1.here hx rfl (hb hby z10_3) rfl (XT.i0_eq_f hcs) (XS.aloadN X1.here hx rfl (hb hby z10_6) rfl rfl k)) ?_
  obtain ⟨T2, X2, e2, st2⟩ := getF X1 hx hZ hown (host := "") (Or.inl (hw _ (List.mem_of_getElem? (i := 79) rfl))) Via.refl e1 Fc (g := (mkF m 7 #[rv a] [(.ref a)])) rfl rfl (hb hby z10_7)
  refine Go.pull (V := T2.setTop (mkF m 10 #[rv a] [(.int 0)])) st2 ?_
  refine Go.pull (V := T2.setTop (mkF m 18 #[rv a] [(.int 1)])) (fun t k => XS.ifNo X2.here hx rfl (hb hby z10_10) rfl (XT.i0_ne_f (by decide)) (XS.iconst X2.here hx rfl (hb hby z10_13) (XS.goto X2.here hx rfl (pc0 := 14) (pc' := 18) rfl (hb hby z10_14) (by decide) (by decide) k))) ?_
  exact Go.retN X2 hx Bd.notSynchronized (t := .boolean) Bd.returns (by simp) (hb hby z10_18) ⟨rfl, N0, e2⟩ (by decide) (by decide)
theorem z11_0 : decode jdk_68_method_2_code 0 = .ok (.aload_n 0, 1) := by decide +kernel
theorem z11_1 : decode jdk_68_method_2_code 1 = .ok (.invokespecial 3, 3) := by decide +kernel
theorem z11_4 : decode jdk_68_method_2_code 4 = .ok (.getstatic 18, 3) := by decide +kernel
theorem z11_7 : decode jdk_68_method_2_code 7 = .ok (.ifCond .eq 18, 3) := by decide +kernel
theorem z11_10 : decode jdk_68_method_2_code 10 = .ok (.aload_n 0, 1) := by decide +kernel
theorem z11_11 : decode jdk_68_method_2_code 11 = .ok (.iload_n 1, 1) := by decide +kernel
theorem z11_12 : decode jdk_68_method_2_code 12 = .ok (.newarray .byte, 2) := by decide +kernel
theorem z11_14 : decode jdk_68_method_2_code 14 = .ok (.putfield 15, 3) := by decide +kernel
theorem z11_17 : decode jdk_68_method_2_code 17 = .ok (.aload_n 0, 1) := by decide +kernel
theorem z11_18 : decode jdk_68_method_2_code 18 = .ok (.iconst 0, 1) := by decide +kernel
theorem z11_19 : decode jdk_68_method_2_code 19 = .ok (.putfield 22, 3) := by decide +kernel
theorem z11_22 : decode jdk_68_method_2_code 22 = .ok (.goto 16, 3) := by decide +kernel
theorem z11_38 : decode jdk_68_method_2_code 38 = .ok (.return_, 1) := by decide +kernel
theorem efBi (m : MethodId) (x0 : Addr) : entryFrame m #[(.ref x0), (.int 16)] 2 = mkF m 0 #[rv x0, iv 16] [] := by first | (simp [entryFrame, mkF, argsToLocals, Value.category]; done) | rfl
def QBi (Z : State) (a : Addr) (cs : Int32) (u0 : Value) (u1 : Value) (h0 : Heap) (n0 : Nat) (v : Option Value) (h : Heap) (L : List Loc) : Prop := ∃ (ar : Addr), ∃ (kA : ClassId), v = none ∧ Fr n0 L ∧ Keep h0 h [a] ∧ h0.size ≤ ar ∧ Fld Z h a "java/lang/AbstractStringBuilder" "value" "[B" (.ref ar) ∧ Exa Z h ar "[B" ∧ Fld Z h a "java/lang/AbstractStringBuilder" "coder" "B" (.int 0) ∧ Fld Z h a "java/lang/AbstractStringBuilder" "count" "I" (.int 0) ∧ Arv Z h ar kA .byte (16 : Int32) [(.int 0), (.int 0), (.int 0), (.int 0), (.int 0), (.int 0), (.int 0), (.int 0), (.int 0), (.int 0), (.int 0), (.int 0), (.int 0), (.int 0), (.int 0), (.int 0)] (.int 0)
set_option maxRecDepth 65536 in
set_option maxHeartbeats 40000000 in
theorem rmBi (l : Launch) (Z : State) (a0 : Array Value) (hw : ∀ d ∈ tables_1, d.before a0 Z = true) (ws : List Jvm.Cond) (a : Addr) (cs : Int32) (u0 : Value) (u1 : Value) (h0 : Heap) (n0 : Nat) (Z0 : n0 ≤ h0.size) (g_a : n0 ≤ a) (Scs : Sta Z h0 "java/lang/String" "COMPACT_STRINGS" "Z" (.int cs)) (Ea : Exa Z h0 a "java/lang/StringBuilder") (F0' : Fld Z h0 a "java/lang/AbstractStringBuilder" "value" "[B" u0) (F1' : Fld Z h0 a "java/lang/AbstractStringBuilder" "coder" "B" u1) (F2' : Fld Z h0 a "java/lang/AbstractStringBuilder" "count" "I" (.int 0)) (hcs : ¬ cs = 0) :
    MetFree l (⟨"java/lang/AbstractStringBuilder", "<init>", "(I)V"⟩ : MethodName) (head1 (Jvm.Cond.code (⟨"java/lang/AbstractStringBuilder", "<init>", "(I)V"⟩ : MethodName) jdk_68_method_2_code 2 none :: ws) ({ frames := 1, cells := 1, slots := 16, locals := 12 } : Room)) (fun as' U => as' = #[(.ref a), (.int 16)] ∧ Z.Warmed39 U.vm ∧ U.heap = h0) (fun _ _ _ _ _ => True) (fun _ U o U' => ∃ v L, o = .returned v ∧ QBi Z a cs u0 u1 h0 n0 v U'.heap L ∧ FrameEnd U o U' L ({ frames := 1, cells := 1, slots := 16, locals := 12 } : Room).cells ({ frames := 1, cells := 1, slots := 16, locals := 12 } : Room).slots) := by
  refine MetFree.of_bodySF (plainFor_of_name pn_java_lang_AbstractStringBuilder) hisR ?_
  intro p e s m args below meth c s₁ Bd hml0 hP hK
  obtain ⟨rfl, hZ, hh⟩ := hP
  have hx := Bd.exec
  have hby := Bd.bytes
  have hml : c.maxLocals = 2 := hml0
  have hown : s.vm.findClass "java/lang/AbstractStringBuilder" = some m.cls := findClass_of_methodNamed Bd.named
  have hnm := (name_of_methodNamed Bd.named Bd.method).1
  have X0 : Stand p l e ({ frames := 1, cells := 1, slots := 16, locals := 12 } : Room) s m #[(.ref a), (.int 16)] below meth c s₁ [] 0 0 := Stand.of_body Bd
  have e0 : s₁.heap = h0 := by rw [← hh, Bd.state]; rfl
  have N0 := Fr.nil n0
  show Go p e below s (fun v h L => QBi Z a cs u0 u1 h0 n0 v h L) 1 16 _
  refine Go.pull (V := s₁.setTop (mkF m 0 #[rv a, iv 16] [])) (fun t k => castTop (efBi m a) k) ?_
  refine Go.pull (V := s₁.setTop (mkF m 1 #[rv a, iv 16] [(.ref a)])) (fun t k => XS.aloadN X0.here hx rfl (hb hby z11_0) rfl rfl k) ?_
  obtain ⟨T1, X1, e1, st1⟩ := initO X0 hx hZ hown (hw _ (List.mem_of_getElem? (i := 75) rfl)) (hw _ (List.mem_of_getElem? (i := 10) rfl)) (hw _ (List.mem_of_getElem? (i := 11) rfl)) e0 (g := (mkF m 1 #[rv a, iv 16] [(.ref a)])) rfl (by rw [hml]; rfl) rfl (hb hby z11_1) (by decide) (W := 0) (by show 2 * 0 + _ ≤ _; exact Nat.le_of_eq rfl) (by decide)
  refine Go.pull (V := T1.setTop (mkF m 4 #[rv a, iv 16] [])) st1 ?_
  obtain ⟨T2, X2, e2, st2⟩ := getS2 X1 hx hZ hown (host := "") (Or.inl (hw _ (List.mem_of_getElem? (i := 76) rfl))) Via.refl e1 Scs (g := (mkF m 4 #[rv a, iv 16] [])) rfl (hb hby z11_4)
  refine Go.pull (V := T2.setTop (mkF m 7 #[rv a, iv 16] [(.int cs)])) st2 ?_
  refine Go.pull (V := T2.setTop (mkF m 12 #[rv a, iv 16] [(.int 16), (.ref a)])) (fun t k => XS.ifNo X2.here hx rfl (hb hby z11_7) rfl (XT.i0_eq_f hcs) (XS.aloadN X2.here hx rfl (hb hby z11_10) rfl rfl (XS.iloadN X2.here hx rfl (hb hby z11_11) rfl  k))) ?_
  obtain ⟨T3, h3, k3, X3, e3, E3, A3, D3, st3⟩ := newPE X2 hx hZ (hw _ (List.mem_of_getElem? (i := 52) rfl)) e2 (g := (mkF m 12 #[rv a, iv 16] [(.int 16), (.ref a)])) rfl (hb hby z11_12) rfl (by decide) (cap := 16) (by decide) (by decide) (by decide) (by decide) (ad := "[B") rfl
  obtain ⟨b3, g3⟩ : ∃ z, z = h0.size := ⟨_, rfl⟩
  rw [← g3] at A3 D3 st3
  have ne_a_b3 : a ≠ b3 := Nat.ne_of_lt (Nat.lt_of_lt_of_le Ea.lt (Nat.le_of_eq g3.symm))
  have sz_b3 : h0.size ≤ b3 := Nat.le_trans ((Keep.refl h0 [a])).1 (Nat.le_of_eq g3.symm)
  have g_b3 : n0 ≤ b3 := Nat.le_trans Z0 sz_b3
  have K3 : Keep h0 h3 [a] := (Keep.refl h0 [a]).ext E3
  have V3 : Arv Z h3 b3 k3 .byte (16 : Int32) [(.int 0), (.int 0), (.int 0), (.int 0), (.int 0), (.int 0), (.int 0), (.int 0), (.int 0), (.int 0), (.int 0), (.int 0), (.int 0), (.int 0), (.int 0), (.int 0)] (.int 0) := (Arv.new A3 (by decide)).pad (pad_rep [] (.int 0) 16)
  refine Go.pull (V := T3.setTop (mkF m 14 #[rv a, iv 16] [(.ref b3), (.ref a)])) st3 ?_
  obtain ⟨T4, h4, X4, e4, W4, st4⟩ := putF X3 hx hZ hown (host := "") (Or.inl (hw _ (List.mem_of_getElem? (i := 77) rfl))) Via.refl e3 (F0'.ext E3) (Ea.ext E3) (Or.inl (hw _ (List.mem_of_getElem? (i := 78) rfl))) (hw _ (List.mem_of_getElem? (i := 64) rfl)) (ty := (.array .byte)) (by decide) rfl rfl (g := (mkF m 14 #[rv a, iv 16] [(.ref b3), (.ref a)])) rfl rfl (hb hby z11_14)
  have Fw4 : Fld Z h4 a "java/lang/AbstractStringBuilder" "value" "[B" (.ref b3) := (F0'.ext E3).same W4
  have K4 : Keep h0 h4 [a] := K3.wr W4 (Or.inl (List.mem_of_getElem? (i := 0) rfl))
  have N4 := Fr.snoc X4 N0 g_a
  refine Go.pull (V := T4.setTop (mkF m 17 #[rv a, iv 16] [])) st4 ?_
  refine Go.pull (V := T4.setTop (mkF m 19 #[rv a, iv 16] [(.int 0), (.ref a)])) (fun t k => XS.aloadN X4.here hx rfl (hb hby z11_17) rfl rfl (XS.iconst X4.here hx rfl (hb hby z11_18) k)) ?_
  obtain ⟨T5, h5, X5, e5, W5, st5⟩ := putFN X4 hx hZ hown (hw _ (List.mem_of_getElem? (i := 79) rfl)) Via.refl e4 ((F1'.ext E3).other W4 (Or.inr (slot_ne (Or.inl (hw _ (List.mem_of_getElem? (i := 80) rfl))) (Or.inl (hw _ (List.mem_of_getElem? (i := 78) rfl))) (by decide) (t := .byte) (t' := (.array .byte)) (by decide) (by decide)))) ((Ea.ext E3).wr W4) (Or.inl (hw _ (List.mem_of_getElem? (i := 80) rfl))) (hw _ (List.mem_of_getElem? (i := 64) rfl)) (ty := .byte) (v := (.int 0)) (v' := (.int 0)) (by decide) rfl rfl (g := (mkF m 19 #[rv a, iv 16] [(.int 0), (.ref a)])) rfl rfl (hb hby z11_19)
  have Fw5 : Fld Z h5 a "java/lang/AbstractStringBuilder" "coder" "B" (.int 0) := ((F1'.ext E3).other W4 (Or.inr (slot_ne (Or.inl (hw _ (List.mem_of_getElem? (i := 80) rfl))) (Or.inl (hw _ (List.mem_of_getElem? (i := 78) rfl))) (by decide) (t := .byte) (t' := (.array .byte)) (by decide) (by decide)))).same W5
  have K5 : Keep h0 h5 [a] := K4.wr W5 (Or.inl (List.mem_of_getElem? (i := 0) rfl))
  have N5 := Fr.snoc X5 N4 g_a
  refine Go.pull (V := T5.setTop (mkF m 22 #[rv a, iv 16] [])) st5 ?_
  refine Go.pull (V := T5.setTop (mkF m 38 #[rv a, iv 16] [])) (fun t k => XS.goto X5.here hx rfl (pc0 := 22) (pc' := 38) rfl (hb hby z11_22) (by decide) (by decide) k) ?_
  exact Go.ret0 X5 hx Bd.notSynchronized Bd.returns (hb hby z11_38) (by rw [e5]; exact ⟨b3, k3, rfl, N5, K5, sz_b3, (Fw4.other W5 (Or.inr (slot_ne (Or.inl (hw _ (List.mem_of_getElem? (i := 78) rfl))) (Or.inl (hw _ (List.mem_of_getElem? (i := 80) rfl))) (by decide) (t := (.array .byte)) (t' := .byte) (by decide) (by decide)))), ((D3.wr W4).wr W5), Fw5, (((F2'.ext E3).other W4 (Or.inr (slot_ne (Or.inl (hw _ (List.mem_of_getElem? (i := 105) rfl))) (Or.inl (hw _ (List.mem_of_getElem? (i := 78) rfl))) (by decide) (t := .int) (t' := (.array .byte)) (by decide) (by decide)))).other W5 (Or.inr (slot_ne (Or.inl (hw _ (List.mem_of_getElem? (i := 105) rfl))) (Or.inl (hw _ (List.mem_of_getElem? (i := 80) rfl))) (by decide) (t := .int) (t' := .byte) (by decide) (by decide)))), ((V3.other W4 (Ne.symm (ne_a_b3))).other W5 (Ne.symm (ne_a_b3)))⟩) (by decide) (by decide)
theorem z12_0 : decode jdk_67_method_1_code 0 = .ok (.aload_n 0, 1) := by decide +kernel
theorem z12_1 : decode jdk_67_method_1_code 1 = .ok (.bipush 16, 2) := by decide +kernel
theorem z12_3 : decode jdk_67_method_1_code 3 = .ok (.invokespecial 1, 3) := by decide +kernel
theorem z12_6 : decode jdk_67_method_1_code 6 = .ok (.return_, 1) := by decide +kernel
theorem efBn (m : MethodId) (x0 : Addr) : entryFrame m #[(.ref x0)] 1 = mkF m 0 #[rv x0] [] := by first | (simp [entryFrame, mkF, argsToLocals, Value.category]; done) | rfl
theorem pn_java_lang_StringBuilder : plainName "java/lang/StringBuilder" = true := by first | (simp [plainName, overriddenIn]; done) | decide +kernel
def QBn (Z : State) (a : Addr) (cs : Int32) (u0 : Value) (u1 : Value) (h0 : Heap) (n0 : Nat) (v : Option Value) (h : Heap) (L : List Loc) : Prop := ∃ (ar : Addr), ∃ (kA : ClassId), v = none ∧ Fr n0 L ∧ Keep h0 h [a] ∧ h0.size ≤ ar ∧ Fld Z h a "java/lang/AbstractStringBuilder" "value" "[B" (.ref ar) ∧ Exa Z h ar "[B" ∧ Fld Z h a "java/lang/AbstractStringBuilder" "coder" "B" (.int 0) ∧ Fld Z h a "java/lang/AbstractStringBuilder" "count" "I" (.int 0) ∧ Arv Z h ar kA .byte (16 : Int32) [(.int 0), (.int 0), (.int 0), (.int 0), (.int 0), (.int 0), (.int 0), (.int 0), (.int 0), (.int 0), (.int 0), (.int 0), (.int 0), (.int 0), (.int 0), (.int 0)] (.int 0)
set_option maxRecDepth 65536 in
set_option maxHeartbeats 40000000 in
theorem rmBn (l : Launch) (Z : State) (a0 : Array Value) (hw : ∀ d ∈ tables_1, d.before a0 Z = true) (ws : List Jvm.Cond) (a : Addr) (cs : Int32) (u0 : Value) (u1 : Value) (h0 : Heap) (n0 : Nat) (Z0 : n0 ≤ h0.size) (g_a : n0 ≤ a) (Scs : Sta Z h0 "java/lang/String" "COMPACT_STRINGS" "Z" (.int cs)) (Ea : Exa Z h0 a "java/lang/StringBuilder") (F0' : Fld Z h0 a "java/lang/AbstractStringBuilder" "value" "[B" u0) (F1' : Fld Z h0 a "java/lang/AbstractStringBuilder" "coder" "B" u1) (F2' : Fld Z h0 a "java/lang/AbstractStringBuilder" "count" "I" (.int 0)) (hcs : ¬ cs = 0) :
    MetFree l (⟨"java/lang/StringBuilder", "<init>", "()V"⟩ : MethodName) (head1 (Jvm.Cond.code (⟨"java/lang/StringBuilder", "<init>", "()V"⟩ : MethodName) jdk_67_method_1_code 1 none :: ws) ({ frames := 2, cells := 1, slots := 16, locals := 25 } : Room)) (fun as' U => as' = #[(.ref a)] ∧ Z.Warmed39 U.vm ∧ U.heap = h0) (fun _ _ _ _ _ => True) (fun _ U o U' => ∃ v L, o = .returned v ∧ QBn Z a cs u0 u1 h0 n0 v U'.heap L ∧ FrameEnd U o U' L ({ frames := 2, cells := 1, slots := 16, locals := 25 } : Room).cells ({ frames := 2, cells := 1, slots := 16, locals := 25 } : Room).slots) := by
  refine MetFree.of_bodySF (plainFor_of_name pn_java_lang_StringBuilder) hisR ?_
  intro p e s m args below meth c s₁ Bd hml0 hP hK
  obtain ⟨rfl, hZ, hh⟩ := hP
  have hx := Bd.exec
  have hby := Bd.bytes
  have hml : c.maxLocals = 1 := hml0
  have hown : s.vm.findClass "java/lang/StringBuilder" = some m.cls := findClass_of_methodNamed Bd.named
  have hnm := (name_of_methodNamed Bd.named Bd.method).1
  have X0 : Stand p l e ({ frames := 2, cells := 1, slots := 16, locals := 25 } : Room) s m #[(.ref a)] below meth c s₁ [] 0 0 := Stand.of_body Bd
  have e0 : s₁.heap = h0 := by rw [← hh, Bd.state]; rfl
  have N0 := Fr.nil n0
  show Go p e below s (fun v h L => QBn Z a cs u0 u1 h0 n0 v h L) 1 16 _
  refine Go.pull (V := s₁.setTop (mkF m 0 #[rv a] [])) (fun t k => castTop (efBn m a) k) ?_
  refine Go.pull (V := s₁.setTop (mkF m 3 #[rv a] [(.int 16), (.ref a)])) (fun t k => XS.aloadN X0.here hx rfl (hb hby z12_0) rfl rfl (XS.bipush X0.here hx rfl (hb hby z12_1) k)) ?_
  obtain ⟨_, _, ⟨T1, L1, k1, n1⟩, -, X1, ⟨Lc1, hQ1, l1, y1, z1⟩, st1⟩ := X0.specialBack hx (y := (⟨"java/lang/AbstractStringBuilder", "<init>", "(I)V"⟩ : MethodName)) rfl hown (mvT hZ (hw _ (List.mem_of_getElem? (i := 69) rfl))) (mvT hZ (hw _ (List.mem_of_getElem? (i := 70) rfl))) (mvT hZ (hw _ (List.mem_of_getElem? (i := 74) rfl))) (by decide) (backOf (W := 0) (rmBi l Z a0 hw [] a cs u0 u1 h0 n0 (Nat.le_trans Z0 ((Keep.refl h0 [a])).1) (g_a) Scs Ea F0' F1' F2' hcs) hZ (hw _ (List.mem_of_getElem? (i := 74) rfl)) (hw _ (List.mem_of_getElem? (i := 73) rfl)) (by decide) (by decide)) (g := (mkF m 3 #[rv a] [(.int 16), (.ref a)])) rfl (by rw [hml]; rfl) (Steps.refl _) (a := a) (argsL := [(.int 16)]) (rest := []) (lenOf pd_3 rfl) rfl (by show 2 * 0 + _ ≤ _; exact Nat.le_of_eq rfl) (hb hby z12_3) (fun _ _ => ⟨rfl, e0, (by decide : 0 + 1 ≤ _), (by decide : 0 + 16 ≤ _)⟩)
  dsimp only [Pt.U, Pt.locs, Pt.cells, Pt.slots] at X1 l1 y1 z1 st1 hQ1
  subst l1 y1 z1
  obtain ⟨ar_1, kA_1, rfl, N1q, Kc1, nex1_0, Fc1_0, Fc1_1, Fc1_2, Fc1_3, Fc1_4⟩ := hQ1
  have ne_a_ar_1 : a ≠ ar_1 := Nat.ne_of_lt (Nat.lt_of_lt_of_le Ea.lt nex1_0)
  have sz_ar_1 : h0.size ≤ ar_1 := Nat.le_trans ((Keep.refl h0 [a])).1 nex1_0
  have g_ar_1 : n0 ≤ ar_1 := Nat.le_trans Z0 sz_ar_1
  have K1 : Keep h0 T1.heap [a] := (Keep.refl h0 [a]).trans Kc1 ((allS (Or.inl (List.mem_of_getElem? (i := 0) rfl)) all0))
  have N1 := Fr.app N0 N1q
  refine Go.pull (V := T1.setTop (mkF m 6 #[rv a] [])) (fun _ k => st1.trans k) ?_
  exact Go.ret0 X1 hx Bd.notSynchronized Bd.returns (hb hby z12_6) (by exact ⟨ar_1, kA_1, rfl, N1, K1, sz_ar_1, Fc1_0, Fc1_1, Fc1_2, Fc1_3, Fc1_4⟩) (by decide) (by decide)
theorem z13_0 : decode jdk_68_method_9_code 0 = .ok (.aload_n 0, 1) := by decide +kernel
theorem z13_1 : decode jdk_68_method_9_code 1 = .ok (.getfield 15, 3) := by decide +kernel
theorem z13_4 : decode jdk_68_method_9_code 4 = .ok (.arraylength, 1) := by decide +kernel
theorem z13_5 : decode jdk_68_method_9_code 5 = .ok (.aload_n 0, 1) := by decide +kernel
theorem z13_6 : decode jdk_68_method_9_code 6 = .ok (.getfield 22, 3) := by decide +kernel
theorem z13_9 : decode jdk_68_method_9_code 9 = .ok (.ishr, 1) := by decide +kernel
theorem z13_10 : decode jdk_68_method_9_code 10 = .ok (.istore_n 2, 1) := by decide +kernel
theorem z13_11 : decode jdk_68_method_9_code 11 = .ok (.iload_n 1, 1) := by decide +kernel
theorem z13_12 : decode jdk_68_method_9_code 12 = .ok (.iload_n 2, 1) := by decide +kernel
theorem z13_13 : decode jdk_68_method_9_code 13 = .ok (.isub, 1) := by decide +kernel
theorem z13_14 : decode jdk_68_method_9_code 14 = .ok (.ifCond .le 24, 3) := by decide +kernel
theorem z13_38 : decode jdk_68_method_9_code 38 = .ok (.return_, 1) := by decide +kernel
theorem efEn (m : MethodId) (x0 : Addr) (x1 : Int32) : entryFrame m #[(.ref x0), (.int x1)] 3 = mkF m 0 #[rv x0, iv x1, .unset] [] := by first | (simp [entryFrame, mkF, argsToLocals, Value.category]; done) | rfl
def QEn (Z : State) (a : Addr) (pm : Int32) (ar : Addr) (kA : ClassId) (vs : List Value) (h0 : Heap) (n0 : Nat) (v : Option Value) (h : Heap) (L : List Loc) : Prop := v = none ∧ Fr n0 L ∧ h = h0
set_option maxRecDepth 65536 in
set_option maxHeartbeats 40000000 in
theorem rmEn (l : Launch) (Z : State) (a0 : Array Value) (hw : ∀ d ∈ tables_1, d.before a0 Z = true) (ws : List Jvm.Cond) (a : Addr) (pm : Int32) (ar : Addr) (kA : ClassId) (vs : List Value) (h0 : Heap) (n0 : Nat) (Gv : Fld Z h0 a "java/lang/AbstractStringBuilder" "value" "[B" (.ref ar)) (Gc : Fld Z h0 a "java/lang/AbstractStringBuilder" "coder" "B" (.int 0)) (Va : Arv Z h0 ar kA .byte (16 : Int32) vs (.int 0)) (hle : ¬ 0 < (pm - (16 : Int32))) :
    MetFree l (⟨"java/lang/AbstractStringBuilder", "ensureCapacityInternal", "(I)V"⟩ : MethodName) (head1 (Jvm.Cond.code (⟨"java/lang/AbstractStringBuilder", "ensureCapacityInternal", "(I)V"⟩ : MethodName) jdk_68_method_9_code 3 none :: ws) ({ frames := 0, cells := 0, slots := 0, locals := 0 } : Room)) (fun as' U => as' = #[(.ref a), (.int pm)] ∧ Z.Warmed39 U.vm ∧ U.heap = h0) (fun _ _ _ _ _ => True) (fun _ U o U' => ∃ v L, o = .returned v ∧ QEn Z a pm ar kA vs h0 n0 v U'.heap L ∧ FrameEnd U o U' L ({ frames := 0, cells := 0, slots := 0, locals := 0 } : Room).cells ({ frames := 0, cells := 0, slots := 0, locals := 0 } : Room).slots) := by
  refine MetFree.of_bodySF (plainFor_of_name pn_java_lang_AbstractStringBuilder) hisR ?_
  intro p e s m args below meth c s₁ Bd hml0 hP hK
  obtain ⟨rfl, hZ, hh⟩ := hP
  have hx := Bd.exec
  have hby := Bd.bytes
  have hml : c.maxLocals = 3 := hml0
  have hown : s.vm.findClass "java/lang/AbstractStringBuilder" = some m.cls := findClass_of_methodNamed Bd.named
  have hnm := (name_of_methodNamed Bd.named Bd.method).1
  have X0 : Stand p l e ({ frames := 0, cells := 0, slots := 0, locals := 0 } : Room) s m #[(.ref a), (.int pm)] below meth c s₁ [] 0 0 := Stand.of_body Bd
  have e0 : s₁.heap = h0 := by rw [← hh, Bd.state]; rfl
  have N0 := Fr.nil n0
  show Go p e below s (fun v h L => QEn Z a pm ar kA vs h0 n0 v h L) 0 0 _
  refine Go.pull (V := s₁.setTop (mkF m 0 #[rv a, iv pm, .unset] [])) (fun t k => castTop (efEn m a pm) k) ?_
  refine Go.pull (V := s₁.setTop (mkF m 1 #[rv a, iv pm, .unset] [(.ref a)])) (fun t k => XS.aloadN X0.here hx rfl (hb hby z13_0) rfl rfl k) ?_
  obtain ⟨T1, X1, e1, st1⟩ := getF X0 hx hZ hown (host := "") (Or.inl (hw _ (List.mem_of_getElem? (i := 77) rfl))) Via.refl e0 Gv (g := (mkF m 1 #[rv a, iv pm, .unset] [(.ref a)])) rfl rfl (hb hby z13_1)
  refine Go.pull (V := T1.setTop (mkF m 4 #[rv a, iv pm, .unset] [(.ref ar)])) st1 ?_
  obtain ⟨cl2, Ar2, q2, S2, M2, Hs2, G2⟩ := id Va
  refine Go.pull (V := T1.setTop (mkF m 5 #[rv a, iv pm, .unset] [(.int 16)])) (fun t k => X1.arraylength hx (by rw [e1]; exact Ar2.1) (State.isArrayOf_alike hZ.alike Ar2.2.1) (g := (mkF m 4 #[rv a, iv pm, .unset] [(.ref ar)])) rfl rfl (hb hby z13_4) _ (by rw [len_of S2 M2]; exact k)) ?_
  refine Go.pull (V := T1.setTop (mkF m 6 #[rv a, iv pm, .unset] [(.ref a), (.int 16)])) (fun t k => XS.aloadN X1.here hx rfl (hb hby z13_5) rfl rfl k) ?_
  obtain ⟨T3, X3, e3, st3⟩ := getF X1 hx hZ hown (host := "") (Or.inl (hw _ (List.mem_of_getElem? (i := 79) rfl))) Via.refl e1 Gc (g := (mkF m 6 #[rv a, iv pm, .unset] [(.ref a), (.int 16)])) rfl rfl (hb hby z13_6)
  refine Go.pull (V := T3.setTop (mkF m 9 #[rv a, iv pm, .unset] [(.int 0), (.int 16)])) st3 ?_
  refine Go.pull (V := T3.setTop (mkF m 14 #[rv a, iv pm, iv 16] [(.int (pm - (16 : Int32)))])) (fun t k => XS.ishr X3.here hx rfl (hb hby z13_9) rfl (XS.istoreN X3.here hx rfl (hb hby z13_10) rfl (l' := #[rv a, iv pm, iv 16]) rfl (XS.iloadN X3.here hx rfl (hb hby z13_11) rfl  (XS.iloadN X3.here hx rfl (hb hby z13_12) rfl  (XS.isub X3.here hx rfl (hb hby z13_13) rfl k))))) ?_
  refine Go.pull (V := T3.setTop (mkF m 38 #[rv a, iv pm, iv 16] [])) (fun t k => XS.ifYes X3.here hx rfl (pc0 := 14) (pc' := 38) rfl (hb hby z13_14) rfl (XT.i0_le_t hle) (by decide) (by decide) k) ?_
  exact Go.ret0 X3 hx Bd.notSynchronized Bd.returns (hb hby z13_38) ⟨rfl, N0, e3⟩ (by decide) (by decide)
theorem z14_0 : decode jdk_68_method_71_code 0 = .ok (.getstatic 18, 3) := by decide +kernel
theorem z14_3 : decode jdk_68_method_71_code 3 = .ok (.ifCond .eq 18, 3) := by decide +kernel
theorem z14_6 : decode jdk_68_method_71_code 6 = .ok (.aload_n 0, 1) := by decide +kernel
theorem z14_7 : decode jdk_68_method_71_code 7 = .ok (.getfield 22, 3) := by decide +kernel
theorem z14_10 : decode jdk_68_method_71_code 10 = .ok (.aload_n 1, 1) := by decide +kernel
theorem z14_11 : decode jdk_68_method_71_code 11 = .ok (.invokevirtual 40, 3) := by decide +kernel
theorem z14_14 : decode jdk_68_method_71_code 14 = .ok (.if_icmp .eq 7, 3) := by decide +kernel
theorem z14_21 : decode jdk_68_method_71_code 21 = .ok (.return_, 1) := by decide +kernel
theorem efIf (m : MethodId) (x0 : Addr) (x1 : Addr) : entryFrame m #[(.ref x0), (.ref x1)] 2 = mkF m 0 #[rv x0, rv x1] [] := by first | (simp [entryFrame, mkF, argsToLocals, Value.category]; done) | rfl
def QIf (Z : State) (a : Addr) (ps : Addr) (cs : Int32) (h0 : Heap) (n0 : Nat) (v : Option Value) (h : Heap) (L : List Loc) : Prop := v = none ∧ Fr n0 L ∧ h = h0
set_option maxRecDepth 65536 in
set_option maxHeartbeats 40000000 in
theorem rmIf (l : Launch) (Z : State) (a0 : Array Value) (hw : ∀ d ∈ tables_1, d.before a0 Z = true) (ws : List Jvm.Cond) (a : Addr) (ps : Addr) (cs : Int32) (h0 : Heap) (n0 : Nat) (Scs : Sta Z h0 "java/lang/String" "COMPACT_STRINGS" "Z" (.int cs)) (Gc : Fld Z h0 a "java/lang/AbstractStringBuilder" "coder" "B" (.int 0)) (Eps : Exa Z h0 ps "java/lang/String") (Fcps : Fld Z h0 ps "java/lang/String" "coder" "B" (.int 0)) (hcs : ¬ cs = 0) :
    MetFree l (⟨"java/lang/AbstractStringBuilder", "inflateIfNeededFor", "(Ljava/lang/String;)V"⟩ : MethodName) (head1 (Jvm.Cond.code (⟨"java/lang/AbstractStringBuilder", "inflateIfNeededFor", "(Ljava/lang/String;)V"⟩ : MethodName) jdk_68_method_71_code 2 none :: ws) ({ frames := 1, cells := 0, slots := 0, locals := 13 } : Room)) (fun as' U => as' = #[(.ref a), (.ref ps)] ∧ Z.Warmed39 U.vm ∧ U.heap = h0) (fun _ _ _ _ _ => True) (fun _ U o U' => ∃ v L, o = .returned v ∧ QIf Z a ps cs h0 n0 v U'.heap L ∧ FrameEnd U o U' L ({ frames := 1, cells := 0, slots := 0, locals := 13 } : Room).cells ({ frames := 1, cells := 0, slots := 0, locals := 13 } : Room).slots) := by
  refine MetFree.of_bodySF (plainFor_of_name pn_java_lang_AbstractStringBuilder) hisR ?_
  intro p e s m args below meth c s₁ Bd hml0 hP hK
  obtain ⟨rfl, hZ, hh⟩ := hP
  have hx := Bd.exec
  have hby := Bd.bytes
  have hml : c.maxLocals = 2 := hml0
  have hown : s.vm.findClass "java/lang/AbstractStringBuilder" = some m.cls := findClass_of_methodNamed Bd.named
  have hnm := (name_of_methodNamed Bd.named Bd.method).1
  have X0 : Stand p l e ({ frames := 1, cells := 0, slots := 0, locals := 13 } : Room) s m #[(.ref a), (.ref ps)] below meth c s₁ [] 0 0 := Stand.of_body Bd
  have e0 : s₁.heap = h0 := by rw [← hh, Bd.state]; rfl
  have N0 := Fr.nil n0
  show Go p e below s (fun v h L => QIf Z a ps cs h0 n0 v h L) 0 0 _
  refine Go.pull (V := s₁.setTop (mkF m 0 #[rv a, rv ps] [])) (fun t k => castTop (efIf m a ps) k) ?_
  obtain ⟨T1, X1, e1, st1⟩ := getS2 X0 hx hZ hown (host := "") (Or.inl (hw _ (List.mem_of_getElem? (i := 76) rfl))) Via.refl e0 Scs (g := (mkF m 0 #[rv a, rv ps] [])) rfl (hb hby z14_0)
  refine Go.pull (V := T1.setTop (mkF m 3 #[rv a, rv ps] [(.int cs)])) st1 ?_
  refine Go.pull (V := T1.setTop (mkF m 7 #[rv a, rv ps] [(.ref a)])) (fun t k => XS.ifNo X1.here hx rfl (hb hby z14_3) rfl (XT.i0_eq_f hcs) (XS.aloadN X1.here hx rfl (hb hby z14_6) rfl rfl k)) ?_
  obtain ⟨T2, X2, e2, st2⟩ := getF X1 hx hZ hown (host := "") (Or.inl (hw _ (List.mem_of_getElem? (i := 79) rfl))) Via.refl e1 Gc (g := (mkF m 7 #[rv a, rv ps] [(.ref a)])) rfl rfl (hb hby z14_7)
  refine Go.pull (V := T2.setTop (mkF m 10 #[rv a, rv ps] [(.int 0)])) st2 ?_
  refine Go.pull (V := T2.setTop (mkF m 11 #[rv a, rv ps] [(.ref ps), (.int 0)])) (fun t k => XS.aloadN X2.here hx rfl (hb hby z14_10) rfl rfl k) ?_
  obtain ⟨cq3, kq3, q3a, q3b, q3c⟩ := isOf hZ e2 Eps
  obtain ⟨_, _, ⟨T3, L3, k3, n3⟩, -, X3, ⟨Lc3, hQ3, l3, y3, z3⟩, st3⟩ := X2.virtualBack hx (y := (⟨"java/lang/String", "coder", "()B"⟩ : MethodName)) (z := (⟨"java/lang/String", "coder", "()B"⟩ : MethodName)) hown (mvT hZ (hw _ (List.mem_of_getElem? (i := 121) rfl))) (mvT hZ (hw _ (List.mem_of_getElem? (i := 98) rfl))) (notFace_of_selects (args := #[]) (mvT hZ (hw _ (List.mem_of_getElem? (i := 100) rfl)))) (mvT hZ (hw _ (List.mem_of_getElem? (i := 100) rfl))) (mvT hZ (hw _ (List.mem_of_getElem? (i := 99) rfl))) (by decide) (backOf (W := 1) (rmSc l Z a0 hw [] ps cs h0 n0 Scs Fcps hcs) hZ (hw _ (List.mem_of_getElem? (i := 101) rfl)) (hw _ (List.mem_of_getElem? (i := 50) rfl)) (by decide) (by decide)) q3a q3c (g := (mkF m 11 #[rv a, rv ps] [(.ref ps), (.int 0)])) rfl (by rw [hml]; rfl) (Steps.refl _) (argsL := []) (rest := [(.int 0)]) (lenOf pd_2 rfl) rfl (by show 2 * 0 + _ ≤ _; exact Nat.le_of_eq rfl) (hb hby z14_11) (fun _ _ => ⟨rfl, e2, (by decide : 0 + 0 ≤ _), (by decide : 0 + 0 ≤ _)⟩)
  dsimp only [Pt.U, Pt.locs, Pt.cells, Pt.slots] at X3 l3 y3 z3 st3 hQ3
  subst l3 y3 z3
  obtain ⟨rfl, N3q, e3⟩ := hQ3
  have N3 := Fr.app N0 N3q
  refine Go.pull (V := T3.setTop (mkF m 14 #[rv a, rv ps] [(.int 0), (.int 0)])) (fun _ k => st3.trans k) ?_
  refine Go.pull (V := T3.setTop (mkF m 21 #[rv a, rv ps] [])) (fun t k => XS.icmpYes X3.here hx rfl (pc0 := 14) (pc' := 21) rfl (hb hby z14_14) rfl (XT.ii_eq_t (by decide)) (by decide) (by decide) k) ?_
  exact Go.ret0 X3 hx Bd.notSynchronized Bd.returns (hb hby z14_21) ⟨rfl, N3, e3⟩ (by decide) (by decide)
def own_cp (vs us : List Value) (pp ns : Int32) : List Value := vs.take pp.toNatClampNeg ++ us ++ vs.drop (pp.toNatClampNeg + ns.toNatClampNeg)
theorem z15_0 : decode jdk_42_method_147_code 0 = .ok (.aload_n 0, 1) := by decide +kernel
theorem z15_1 : decode jdk_42_method_147_code 1 = .ok (.invokevirtual 335, 3) := by decide +kernel
theorem z15_4 : decode jdk_42_method_147_code 4 = .ok (.iload_n 3, 1) := by decide +kernel
theorem z15_5 : decode jdk_42_method_147_code 5 = .ok (.if_icmp .ne 23, 3) := by decide +kernel
theorem z15_8 : decode jdk_42_method_147_code 8 = .ok (.aload_n 0, 1) := by decide +kernel
theorem z15_9 : decode jdk_42_method_147_code 9 = .ok (.getfield 9, 3) := by decide +kernel
theorem z15_12 : decode jdk_42_method_147_code 12 = .ok (.iconst 0, 1) := by decide +kernel
theorem z15_13 : decode jdk_42_method_147_code 13 = .ok (.aload_n 1, 1) := by decide +kernel
theorem z15_14 : decode jdk_42_method_147_code 14 = .ok (.iload_n 2, 1) := by decide +kernel
theorem z15_15 : decode jdk_42_method_147_code 15 = .ok (.iload_n 3, 1) := by decide +kernel
theorem z15_16 : decode jdk_42_method_147_code 16 = .ok (.ishl, 1) := by decide +kernel
theorem z15_17 : decode jdk_42_method_147_code 17 = .ok (.aload_n 0, 1) := by decide +kernel
theorem z15_18 : decode jdk_42_method_147_code 18 = .ok (.getfield 9, 3) := by decide +kernel
theorem z15_21 : decode jdk_42_method_147_code 21 = .ok (.arraylength, 1) := by decide +kernel
theorem z15_22 : decode jdk_42_method_147_code 22 = .ok (.invokestatic 212, 3) := by decide +kernel
theorem z15_25 : decode jdk_42_method_147_code 25 = .ok (.goto 18, 3) := by decide +kernel
theorem z15_43 : decode jdk_42_method_147_code 43 = .ok (.return_, 1) := by decide +kernel
theorem efGb (m : MethodId) (x0 : Addr) (x1 : Addr) (x2 : Int32) : entryFrame m #[(.ref x0), (.ref x1), (.int x2), (.int 0)] 4 = mkF m 0 #[rv x0, rv x1, iv x2, iv 0] [] := by first | (simp [entryFrame, mkF, argsToLocals, Value.category]; done) | rfl
def QGb (Z : State) (ps : Addr) (ar : Addr) (pp : Int32) (cs : Int32) (sa : Addr) (ka : ClassId) (ns : Int32) (us : List Value) (kA : ClassId) (vs : List Value) (h0 : Heap) (n0 : Nat) (v : Option Value) (h : Heap) (L : List Loc) : Prop := v = none ∧ Fr n0 L ∧ Keep h0 h [ar] ∧ Arv Z h ar kA .byte (16 : Int32) (own_cp vs us pp ns) (.int 0)
set_option maxRecDepth 65536 in
set_option maxHeartbeats 40000000 in
theorem rmGb (l : Launch) (Z : State) (a0 : Array Value) (hw : ∀ d ∈ tables_1, d.before a0 Z = true) (ws : List Jvm.Cond) (ps : Addr) (ar : Addr) (pp : Int32) (cs : Int32) (sa : Addr) (ka : ClassId) (ns : Int32) (us : List Value) (kA : ClassId) (vs : List Value) (h0 : Heap) (n0 : Nat) (Z0 : n0 ≤ h0.size) (g_ar : n0 ≤ ar) (Scs : Sta Z h0 "java/lang/String" "COMPACT_STRINGS" "Z" (.int cs)) (Eps : Exa Z h0 ps "java/lang/String") (Fcps : Fld Z h0 ps "java/lang/String" "coder" "B" (.int 0)) (Fvps : Fld Z h0 ps "java/lang/String" "value" "[B" (.ref sa)) (Vps : Arv Z h0 sa ka .byte ns us (.int 0)) (Va : Arv Z h0 ar kA .byte (16 : Int32) vs (.int 0)) (hcs : ¬ cs = 0) (hp0 : ¬ pp < 0) (hn0 : ¬ ns < 0) (hp5 : pp.toNatClampNeg + ns.toNatClampNeg ≤ 16) (hus : us = (List.range ns.toNatClampNeg).map fun i => us.getD ((0 : Int32).toNatClampNeg + i) (.int 0)) (hlv : pp.toNatClampNeg + ns.toNatClampNeg ≤ vs.length) :
    MetFree l (⟨"java/lang/String", "getBytes", "([BIB)V"⟩ : MethodName) (head1 (Jvm.Cond.code (⟨"java/lang/String", "getBytes", "([BIB)V"⟩ : MethodName) jdk_42_method_147_code 4 none :: ws) ({ frames := 1, cells := 0, slots := 0, locals := 18 } : Room)) (fun as' U => as' = #[(.ref ps), (.ref ar), (.int pp), (.int 0)] ∧ Z.Warmed39 U.vm ∧ U.heap = h0) (fun _ _ _ _ _ => True) (fun _ U o U' => ∃ v L, o = .returned v ∧ QGb Z ps ar pp cs sa ka ns us kA vs h0 n0 v U'.heap L ∧ FrameEnd U o U' L ({ frames := 1, cells := 0, slots := 0, locals := 18 } : Room).cells ({ frames := 1, cells := 0, slots := 0, locals := 18 } : Room).slots) := by
  refine MetFree.of_bodySF (plainFor_of_name pn_java_lang_String) hisR ?_
  intro p e s m args below meth c s₁ Bd hml0 hP hK
  obtain ⟨rfl, hZ, hh⟩ := hP
  have hx := Bd.exec
  have hby := Bd.bytes
  have hml : c.maxLocals = 4 := hml0
  have hown : s.vm.findClass "java/lang/String" = some m.cls := findClass_of_methodNamed Bd.named
  have hnm := (name_of_methodNamed Bd.named Bd.method).1
  have X0 : Stand p l e ({ frames := 1, cells := 0, slots := 0, locals := 18 } : Room) s m #[(.ref ps), (.ref ar), (.int pp), (.int 0)] below meth c s₁ [] 0 0 := Stand.of_body Bd
  have e0 : s₁.heap = h0 := by rw [← hh, Bd.state]; rfl
  have N0 := Fr.nil n0
  show Go p e below s (fun v h L => QGb Z ps ar pp cs sa ka ns us kA vs h0 n0 v h L) 0 0 _
  refine Go.pull (V := s₁.setTop (mkF m 0 #[rv ps, rv ar, iv pp, iv 0] [])) (fun t k => castTop (efGb m ps ar pp) k) ?_
  refine Go.pull (V := s₁.setTop (mkF m 1 #[rv ps, rv ar, iv pp, iv 0] [(.ref ps)])) (fun t k => XS.aloadN X0.here hx rfl (hb hby z15_0) rfl rfl k) ?_
  obtain ⟨cq1, kq1, q1a, q1b, q1c⟩ := isOf hZ e0 Eps
  obtain ⟨_, _, ⟨T1, L1, k1, n1⟩, -, X1, ⟨Lc1, hQ1, l1, y1, z1⟩, st1⟩ := X0.virtualBack hx (y := (⟨"java/lang/String", "coder", "()B"⟩ : MethodName)) (z := (⟨"java/lang/String", "coder", "()B"⟩ : MethodName)) hown (mvT hZ (hw _ (List.mem_of_getElem? (i := 97) rfl))) (mvT hZ (hw _ (List.mem_of_getElem? (i := 98) rfl))) (notFace_of_selects (args := #[]) (mvT hZ (hw _ (List.mem_of_getElem? (i := 100) rfl)))) (mvT hZ (hw _ (List.mem_of_getElem? (i := 100) rfl))) (mvT hZ (hw _ (List.mem_of_getElem? (i := 99) rfl))) (by decide) (backOf (W := 0) (rmSc l Z a0 hw [] ps cs h0 n0 Scs Fcps hcs) hZ (hw _ (List.mem_of_getElem? (i := 101) rfl)) (hw _ (List.mem_of_getElem? (i := 50) rfl)) (by decide) (by decide)) q1a q1c (g := (mkF m 1 #[rv ps, rv ar, iv pp, iv 0] [(.ref ps)])) rfl (by rw [hml]; rfl) (Steps.refl _) (argsL := []) (rest := []) (lenOf pd_2 rfl) rfl (by show 2 * 0 + _ ≤ _; exact Nat.le_of_eq rfl) (hb hby z15_1) (fun _ _ => ⟨rfl, e0, (by decide : 0 + 0 ≤ _), (by decide : 0 + 0 ≤ _)⟩)
  dsimp only [Pt.U, Pt.locs, Pt.cells, Pt.slots] at X1 l1 y1 z1 st1 hQ1
  subst l1 y1 z1
  obtain ⟨rfl, N1q, e1⟩ := hQ1
  have N1 := Fr.app N0 N1q
  refine Go.pull (V := T1.setTop (mkF m 4 #[rv ps, rv ar, iv pp, iv 0] [(.int 0)])) (fun _ k => st1.trans k) ?_
  refine Go.pull (V := T1.setTop (mkF m 9 #[rv ps, rv ar, iv pp, iv 0] [(.ref ps)])) (fun t k => XS.iloadN X1.here hx rfl (hb hby z15_4) rfl  (XS.icmpNo X1.here hx rfl (hb hby z15_5) rfl (XT.ii_ne_f (by decide)) (XS.aloadN X1.here hx rfl (hb hby z15_8) rfl rfl k))) ?_
  obtain ⟨T2, X2, e2, st2⟩ := getF X1 hx hZ hown (host := "") (Or.inl (hw _ (List.mem_of_getElem? (i := 62) rfl))) Via.refl e1 Fvps (g := (mkF m 9 #[rv ps, rv ar, iv pp, iv 0] [(.ref ps)])) rfl rfl (hb hby z15_9)
  refine Go.pull (V := T2.setTop (mkF m 12 #[rv ps, rv ar, iv pp, iv 0] [(.ref sa)])) st2 ?_
  refine Go.pull (V := T2.setTop (mkF m 17 #[rv ps, rv ar, iv pp, iv 0] [(.int (pp <<< ((0 : Int32) &&& 31))), (.ref ar), (.int 0), (.ref sa)])) (fun t k => XS.iconst X2.here hx rfl (hb hby z15_12) (XS.aloadN X2.here hx rfl (hb hby z15_13) rfl rfl (XS.iloadN X2.here hx rfl (hb hby z15_14) rfl  (XS.iloadN X2.here hx rfl (hb hby z15_15) rfl  (XS.ishl X2.here hx rfl (hb hby z15_16) rfl k))))) ?_
  rw [show (pp <<< ((0 : Int32) &&& 31)) = pp from own_ishl0 _]
  refine Go.pull (V := T2.setTop (mkF m 18 #[rv ps, rv ar, iv pp, iv 0] [(.ref ps), (.int pp), (.ref ar), (.int 0), (.ref sa)])) (fun t k => XS.aloadN X2.here hx rfl (hb hby z15_17) rfl rfl k) ?_
  obtain ⟨T3, X3, e3, st3⟩ := getF X2 hx hZ hown (host := "") (Or.inl (hw _ (List.mem_of_getElem? (i := 62) rfl))) Via.refl e2 Fvps (g := (mkF m 18 #[rv ps, rv ar, iv pp, iv 0] [(.ref ps), (.int pp), (.ref ar), (.int 0), (.ref sa)])) rfl rfl (hb hby z15_18)
  refine Go.pull (V := T3.setTop (mkF m 21 #[rv ps, rv ar, iv pp, iv 0] [(.ref sa), (.int pp), (.ref ar), (.int 0), (.ref sa)])) st3 ?_
  obtain ⟨cl4, Ar4, q4, S4, M4, Hs4, G4⟩ := id Vps
  refine Go.pull (V := T3.setTop (mkF m 22 #[rv ps, rv ar, iv pp, iv 0] [(.int ns), (.int pp), (.ref ar), (.int 0), (.ref sa)])) (fun t k => X3.arraylength hx (by rw [e3]; exact Ar4.1) (State.isArrayOf_alike hZ.alike Ar4.2.1) (g := (mkF m 21 #[rv ps, rv ar, iv pp, iv 0] [(.ref sa), (.int pp), (.ref ar), (.int 0), (.ref sa)])) rfl rfl (hb hby z15_21) _ (by rw [len_of S4 M4]; exact k)) ?_
  obtain ⟨T5, h5, L5, X5, e5, N5, Kc5, Va5, st5⟩ := cpA X3 hx hZ hown (hw _ (List.mem_of_getElem? (i := 127) rfl)) (hw _ (List.mem_of_getElem? (i := 130) rfl)) (hw _ (List.mem_of_getElem? (i := 128) rfl)) (hw _ (List.mem_of_getElem? (i := 129) rfl)) e3 Vps Va (Or.inl ⟨rfl, rfl⟩) (by decide) hp0 hn0 (Nat.le_of_eq (Nat.zero_add _)) hp5 (us := us) hus hlv N1 g_ar (g := (mkF m 22 #[rv ps, rv ar, iv pp, iv 0] [(.int ns), (.int pp), (.ref ar), (.int 0), (.ref sa)])) rfl (by rw [hml]; rfl) rfl (hb hby z15_22) (by decide) (W := 0) (by show 2 * 0 + _ ≤ _; exact Nat.le_of_eq rfl) (by decide)
  have V5 : Arv Z h5 ar kA .byte (16 : Int32) (own_cp vs us pp ns) (.int 0) := Va5
  have K5 : Keep h0 h5 [ar] := (Keep.refl h0 [ar]).trans Kc5 ((allS (Or.inl (List.mem_of_getElem? (i := 0) rfl)) all0))
  refine Go.pull (V := T5.setTop (mkF m 25 #[rv ps, rv ar, iv pp, iv 0] [])) st5 ?_
  refine Go.pull (V := T5.setTop (mkF m 43 #[rv ps, rv ar, iv pp, iv 0] [])) (fun t k => XS.goto X5.here hx rfl (pc0 := 25) (pc' := 43) rfl (hb hby z15_25) (by decide) (by decide) k) ?_
  exact Go.ret0 X5 hx Bd.notSynchronized Bd.returns (hb hby z15_43) (by rw [e5]; exact ⟨rfl, N5, K5, V5⟩) (by decide) (by decide)
theorem z16_0 : decode jdk_68_method_73_code 0 = .ok (.aload_n 0, 1) := by decide +kernel
theorem z16_1 : decode jdk_68_method_73_code 1 = .ok (.aload_n 2, 1) := by decide +kernel
theorem z16_2 : decode jdk_68_method_73_code 2 = .ok (.invokevirtual 397, 3) := by decide +kernel
theorem z16_5 : decode jdk_68_method_73_code 5 = .ok (.aload_n 2, 1) := by decide +kernel
theorem z16_6 : decode jdk_68_method_73_code 6 = .ok (.aload_n 0, 1) := by decide +kernel
theorem z16_7 : decode jdk_68_method_73_code 7 = .ok (.getfield 15, 3) := by decide +kernel
theorem z16_10 : decode jdk_68_method_73_code 10 = .ok (.iload_n 1, 1) := by decide +kernel
theorem z16_11 : decode jdk_68_method_73_code 11 = .ok (.aload_n 0, 1) := by decide +kernel
theorem z16_12 : decode jdk_68_method_73_code 12 = .ok (.getfield 22, 3) := by decide +kernel
theorem z16_15 : decode jdk_68_method_73_code 15 = .ok (.invokevirtual 399, 3) := by decide +kernel
theorem z16_18 : decode jdk_68_method_73_code 18 = .ok (.return_, 1) := by decide +kernel
theorem efPs (m : MethodId) (x0 : Addr) (x1 : Int32) (x2 : Addr) : entryFrame m #[(.ref x0), (.int x1), (.ref x2)] 3 = mkF m 0 #[rv x0, iv x1, rv x2] [] := by first | (simp [entryFrame, mkF, argsToLocals, Value.category]; done) | rfl
def QPs (Z : State) (a : Addr) (pp : Int32) (ps : Addr) (cs : Int32) (sa : Addr) (ka : ClassId) (ns : Int32) (us : List Value) (ar : Addr) (kA : ClassId) (vs : List Value) (h0 : Heap) (n0 : Nat) (v : Option Value) (h : Heap) (L : List Loc) : Prop := v = none ∧ Fr n0 L ∧ Keep h0 h [ar] ∧ Arv Z h ar kA .byte (16 : Int32) (own_cp vs us pp ns) (.int 0)
set_option maxRecDepth 65536 in
set_option maxHeartbeats 40000000 in
theorem rmPs (l : Launch) (Z : State) (a0 : Array Value) (hw : ∀ d ∈ tables_1, d.before a0 Z = true) (ws : List Jvm.Cond) (a : Addr) (pp : Int32) (ps : Addr) (cs : Int32) (sa : Addr) (ka : ClassId) (ns : Int32) (us : List Value) (ar : Addr) (kA : ClassId) (vs : List Value) (h0 : Heap) (n0 : Nat) (Z0 : n0 ≤ h0.size) (g_ar : n0 ≤ ar) (Scs : Sta Z h0 "java/lang/String" "COMPACT_STRINGS" "Z" (.int cs)) (Eps : Exa Z h0 ps "java/lang/String") (Fcps : Fld Z h0 ps "java/lang/String" "coder" "B" (.int 0)) (Fvps : Fld Z h0 ps "java/lang/String" "value" "[B" (.ref sa)) (Vps : Arv Z h0 sa ka .byte ns us (.int 0)) (Eb : Exa Z h0 a "java/lang/StringBuilder") (Gv : Fld Z h0 a "java/lang/AbstractStringBuilder" "value" "[B" (.ref ar)) (Er : Exa Z h0 ar "[B") (Gc : Fld Z h0 a "java/lang/AbstractStringBuilder" "coder" "B" (.int 0)) (Va : Arv Z h0 ar kA .byte (16 : Int32) vs (.int 0)) (hcs : ¬ cs = 0) (hp0 : ¬ pp < 0) (hn0 : ¬ ns < 0) (hp5 : pp.toNatClampNeg + ns.toNatClampNeg ≤ 16) (hus : us = (List.range ns.toNatClampNeg).map fun i => us.getD ((0 : Int32).toNatClampNeg + i) (.int 0)) (hlv : pp.toNatClampNeg + ns.toNatClampNeg ≤ vs.length) :
    MetFree l (⟨"java/lang/AbstractStringBuilder", "putStringAt", "(ILjava/lang/String;)V"⟩ : MethodName) (head1 (Jvm.Cond.code (⟨"java/lang/AbstractStringBuilder", "putStringAt", "(ILjava/lang/String;)V"⟩ : MethodName) jdk_68_method_73_code 3 none :: ws) ({ frames := 2, cells := 0, slots := 0, locals := 33 } : Room)) (fun as' U => as' = #[(.ref a), (.int pp), (.ref ps)] ∧ Z.Warmed39 U.vm ∧ U.heap = h0) (fun _ _ _ _ _ => True) (fun _ U o U' => ∃ v L, o = .returned v ∧ QPs Z a pp ps cs sa ka ns us ar kA vs h0 n0 v U'.heap L ∧ FrameEnd U o U' L ({ frames := 2, cells := 0, slots := 0, locals := 33 } : Room).cells ({ frames := 2, cells := 0, slots := 0, locals := 33 } : Room).slots) := by
  refine MetFree.of_bodySF (plainFor_of_name pn_java_lang_AbstractStringBuilder) hisR ?_
  intro p e s m args below meth c s₁ Bd hml0 hP hK
  obtain ⟨rfl, hZ, hh⟩ := hP
  have hx := Bd.exec
  have hby := Bd.bytes
  have hml : c.maxLocals = 3 := hml0
  have hown : s.vm.findClass "java/lang/AbstractStringBuilder" = some m.cls := findClass_of_methodNamed Bd.named
  have hnm := (name_of_methodNamed Bd.named Bd.method).1
  have X0 : Stand p l e ({ frames := 2, cells := 0, slots := 0, locals := 33 } : Room) s m #[(.ref a), (.int pp), (.ref ps)] below meth c s₁ [] 0 0 := Stand.of_body Bd
  have e0 : s₁.heap = h0 := by rw [← hh, Bd.state]; rfl
  have N0 := Fr.nil n0
  show Go p e below s (fun v h L => QPs Z a pp ps cs sa ka ns us ar kA vs h0 n0 v h L) 0 0 _
  refine Go.pull (V := s₁.setTop (mkF m 0 #[rv a, iv pp, rv ps] [])) (fun t k => castTop (efPs m a pp ps) k) ?_
  refine Go.pull (V := s₁.setTop (mkF m 2 #[rv a, iv pp, rv ps] [(.ref ps), (.ref a)])) (fun t k => XS.aloadN X0.here hx rfl (hb hby z16_0) rfl rfl (XS.aloadN X0.here hx rfl (hb hby z16_1) rfl rfl k)) ?_
  obtain ⟨ce1, he1, hs1⟩ := Eb.cell
  obtain ⟨_, _, ⟨T1, L1, k1, n1⟩, -, X1, ⟨Lc1, hQ1, l1, y1, z1⟩, st1⟩ := X0.privateBack hx (y := (⟨"java/lang/AbstractStringBuilder", "inflateIfNeededFor", "(Ljava/lang/String;)V"⟩ : MethodName)) hown (mvT hZ (hw _ (List.mem_of_getElem? (i := 116) rfl))) (mvT hZ (hw _ (List.mem_of_getElem? (i := 117) rfl))) (own_selP hZ (hw _ (List.mem_of_getElem? (i := 119) rfl)) (hw _ (List.mem_of_getElem? (i := 118) rfl)) (hw _ (List.mem_of_getElem? (i := 117) rfl)) (by decide)) (Cond.privateMethod_at (mvP hZ (hw _ (List.mem_of_getElem? (i := 118) rfl)) (args := #[]))) (mvT hZ (hw _ (List.mem_of_getElem? (i := 120) rfl))) (by decide) (backOf (W := 0) (rmIf l Z a0 hw [] a ps cs h0 n0 Scs Gc Eps Fcps hcs) hZ (hw _ (List.mem_of_getElem? (i := 120) rfl)) (hw _ (List.mem_of_getElem? (i := 73) rfl)) (by decide) (by decide)) (g := (mkF m 2 #[rv a, iv pp, rv ps] [(.ref ps), (.ref a)])) rfl (by rw [hml]; rfl) (Steps.refl _) (a := a) (cell := ce1) (by rw [e0]; exact he1) hs1 (argsL := [(.ref ps)]) (rest := []) (lenOf pd_4 rfl) rfl (by show 2 * 0 + _ ≤ _; exact Nat.le_of_eq rfl) (hb hby z16_2) (fun _ _ => ⟨rfl, e0, (by decide : 0 + 0 ≤ _), (by decide : 0 + 0 ≤ _)⟩)
  dsimp only [Pt.U, Pt.locs, Pt.cells, Pt.slots] at X1 l1 y1 z1 st1 hQ1
  subst l1 y1 z1
  obtain ⟨rfl, N1q, e1⟩ := hQ1
  have N1 := Fr.app N0 N1q
  refine Go.pull (V := T1.setTop (mkF m 5 #[rv a, iv pp, rv ps] [])) (fun _ k => st1.trans k) ?_
  refine Go.pull (V := T1.setTop (mkF m 7 #[rv a, iv pp, rv ps] [(.ref a), (.ref ps)])) (fun t k => XS.aloadN X1.here hx rfl (hb hby z16_5) rfl rfl (XS.aloadN X1.here hx rfl (hb hby z16_6) rfl rfl k)) ?_
  obtain ⟨T2, X2, e2, st2⟩ := getF X1 hx hZ hown (host := "") (Or.inl (hw _ (List.mem_of_getElem? (i := 77) rfl))) Via.refl e1 Gv (g := (mkF m 7 #[rv a, iv pp, rv ps] [(.ref a), (.ref ps)])) rfl rfl (hb hby z16_7)
  refine Go.pull (V := T2.setTop (mkF m 10 #[rv a, iv pp, rv ps] [(.ref ar), (.ref ps)])) st2 ?_
  refine Go.pull (V := T2.setTop (mkF m 12 #[rv a, iv pp, rv ps] [(.ref a), (.int pp), (.ref ar), (.ref ps)])) (fun t k => XS.iloadN X2.here hx rfl (hb hby z16_10) rfl  (XS.aloadN X2.here hx rfl (hb hby z16_11) rfl rfl k)) ?_
  obtain ⟨T3, X3, e3, st3⟩ := getF X2 hx hZ hown (host := "") (Or.inl (hw _ (List.mem_of_getElem? (i := 79) rfl))) Via.refl e2 Gc (g := (mkF m 12 #[rv a, iv pp, rv ps] [(.ref a), (.int pp), (.ref ar), (.ref ps)])) rfl rfl (hb hby z16_12)
  refine Go.pull (V := T3.setTop (mkF m 15 #[rv a, iv pp, rv ps] [(.int 0), (.int pp), (.ref ar), (.ref ps)])) st3 ?_
  obtain ⟨cq4, kq4, q4a, q4b, q4c⟩ := isOf hZ e3 Eps
  obtain ⟨_, _, ⟨T4, L4, k4, n4⟩, -, X4, ⟨Lc4, hQ4, l4, y4, z4⟩, st4⟩ := X3.virtualBack hx (y := (⟨"java/lang/String", "getBytes", "([BIB)V"⟩ : MethodName)) (z := (⟨"java/lang/String", "getBytes", "([BIB)V"⟩ : MethodName)) hown (mvT hZ (hw _ (List.mem_of_getElem? (i := 122) rfl))) (mvT hZ (hw _ (List.mem_of_getElem? (i := 123) rfl))) (notFace_of_selects (args := #[]) (mvT hZ (hw _ (List.mem_of_getElem? (i := 125) rfl)))) (mvT hZ (hw _ (List.mem_of_getElem? (i := 125) rfl))) (mvT hZ (hw _ (List.mem_of_getElem? (i := 124) rfl))) (by decide) (backOf (W := 0) (rmGb l Z a0 hw [] ps ar pp cs sa ka ns (us : List Value) kA (vs : List Value) h0 n0 (Nat.le_trans Z0 ((Keep.refl h0 [ar])).1) (g_ar) Scs Eps Fcps Fvps Vps Va hcs hp0 hn0 hp5 hus hlv) hZ (hw _ (List.mem_of_getElem? (i := 126) rfl)) (hw _ (List.mem_of_getElem? (i := 50) rfl)) (by decide) (by decide)) q4a q4c (g := (mkF m 15 #[rv a, iv pp, rv ps] [(.int 0), (.int pp), (.ref ar), (.ref ps)])) rfl (by rw [hml]; rfl) (Steps.refl _) (argsL := [(.ref ar), (.int pp), (.int 0)]) (rest := []) (lenOf pd_5 rfl) rfl (by show 2 * 0 + _ ≤ _; exact Nat.le_of_eq rfl) (hb hby z16_15) (fun _ _ => ⟨rfl, e3, (by decide : 0 + 0 ≤ _), (by decide : 0 + 0 ≤ _)⟩)
  dsimp only [Pt.U, Pt.locs, Pt.cells, Pt.slots] at X4 l4 y4 z4 st4 hQ4
  subst l4 y4 z4
  obtain ⟨rfl, N4q, Kc4, Fc4_0⟩ := hQ4
  have K4 : Keep h0 T4.heap [ar] := (Keep.refl h0 [ar]).trans Kc4 ((allS (Or.inl (List.mem_of_getElem? (i := 0) rfl)) all0))
  have N4 := Fr.app N1 N4q
  refine Go.pull (V := T4.setTop (mkF m 18 #[rv a, iv pp, rv ps] [])) (fun _ k => st4.trans k) ?_
  exact Go.ret0 X4 hx Bd.notSynchronized Bd.returns (hb hby z16_18) (by exact ⟨rfl, N4, K4, Fc4_0⟩) (by decide) (by decide)
theorem z17_0 : decode jdk_68_method_22_code 0 = .ok (.aload_n 1, 1) := by decide +kernel
theorem z17_1 : decode jdk_68_method_22_code 1 = .ok (.ifnonnull 8, 3) := by decide +kernel
theorem z17_9 : decode jdk_68_method_22_code 9 = .ok (.aload_n 1, 1) := by decide +kernel
theorem z17_10 : decode jdk_68_method_22_code 10 = .ok (.invokevirtual 32, 3) := by decide +kernel
theorem z17_13 : decode jdk_68_method_22_code 13 = .ok (.istore_n 2, 1) := by decide +kernel
theorem z17_14 : decode jdk_68_method_22_code 14 = .ok (.aload_n 0, 1) := by decide +kernel
theorem z17_15 : decode jdk_68_method_22_code 15 = .ok (.aload_n 0, 1) := by decide +kernel
theorem z17_16 : decode jdk_68_method_22_code 16 = .ok (.getfield 79, 3) := by decide +kernel
theorem z17_19 : decode jdk_68_method_22_code 19 = .ok (.iload_n 2, 1) := by decide +kernel
theorem z17_20 : decode jdk_68_method_22_code 20 = .ok (.iadd, 1) := by decide +kernel
theorem z17_21 : decode jdk_68_method_22_code 21 = .ok (.invokevirtual 100, 3) := by decide +kernel
theorem z17_24 : decode jdk_68_method_22_code 24 = .ok (.aload_n 0, 1) := by decide +kernel
theorem z17_25 : decode jdk_68_method_22_code 25 = .ok (.aload_n 0, 1) := by decide +kernel
theorem z17_26 : decode jdk_68_method_22_code 26 = .ok (.getfield 79, 3) := by decide +kernel
theorem z17_29 : decode jdk_68_method_22_code 29 = .ok (.aload_n 1, 1) := by decide +kernel
theorem z17_30 : decode jdk_68_method_22_code 30 = .ok (.invokevirtual 208, 3) := by decide +kernel
theorem z17_33 : decode jdk_68_method_22_code 33 = .ok (.aload_n 0, 1) := by decide +kernel
theorem z17_34 : decode jdk_68_method_22_code 34 = .ok (.dup, 1) := by decide +kernel
theorem z17_35 : decode jdk_68_method_22_code 35 = .ok (.getfield 79, 3) := by decide +kernel
theorem z17_38 : decode jdk_68_method_22_code 38 = .ok (.iload_n 2, 1) := by decide +kernel
theorem z17_39 : decode jdk_68_method_22_code 39 = .ok (.iadd, 1) := by decide +kernel
theorem z17_40 : decode jdk_68_method_22_code 40 = .ok (.putfield 79, 3) := by decide +kernel
theorem z17_43 : decode jdk_68_method_22_code 43 = .ok (.aload_n 0, 1) := by decide +kernel
theorem z17_44 : decode jdk_68_method_22_code 44 = .ok (.areturn, 1) := by decide +kernel
theorem efAa (m : MethodId) (x0 : Addr) (x1 : Addr) : entryFrame m #[(.ref x0), (.ref x1)] 3 = mkF m 0 #[rv x0, rv x1, .unset] [] := by first | (simp [entryFrame, mkF, argsToLocals, Value.category]; done) | rfl
def QAa (Z : State) (a : Addr) (ps : Addr) (cs : Int32) (sa : Addr) (ka : ClassId) (ns : Int32) (us : List Value) (ar : Addr) (kA : ClassId) (pp : Int32) (vs : List Value) (h0 : Heap) (n0 : Nat) (v : Option Value) (h : Heap) (L : List Loc) : Prop := v = some (.ref a) ∧ Fr n0 L ∧ Keep h0 h [a, ar] ∧ Fld Z h a "java/lang/AbstractStringBuilder" "value" "[B" (.ref ar) ∧ Fld Z h a "java/lang/AbstractStringBuilder" "coder" "B" (.int 0) ∧ Fld Z h a "java/lang/AbstractStringBuilder" "count" "I" (.int (pp + ns)) ∧ Arv Z h ar kA .byte (16 : Int32) (own_cp vs us pp ns) (.int 0)
set_option maxRecDepth 65536 in
set_option maxHeartbeats 40000000 in
theorem rmAa (l : Launch) (Z : State) (a0 : Array Value) (hw : ∀ d ∈ tables_1, d.before a0 Z = true) (ws : List Jvm.Cond) (a : Addr) (ps : Addr) (cs : Int32) (sa : Addr) (ka : ClassId) (ns : Int32) (us : List Value) (ar : Addr) (kA : ClassId) (pp : Int32) (vs : List Value) (h0 : Heap) (n0 : Nat) (Z0 : n0 ≤ h0.size) (g_a : n0 ≤ a) (g_ar : n0 ≤ ar) (Scs : Sta Z h0 "java/lang/String" "COMPACT_STRINGS" "Z" (.int cs)) (Eps : Exa Z h0 ps "java/lang/String") (Fcps : Fld Z h0 ps "java/lang/String" "coder" "B" (.int 0)) (Fvps : Fld Z h0 ps "java/lang/String" "value" "[B" (.ref sa)) (Vps : Arv Z h0 sa ka .byte ns us (.int 0)) (Eb : Exa Z h0 a "java/lang/StringBuilder") (Gv : Fld Z h0 a "java/lang/AbstractStringBuilder" "value" "[B" (.ref ar)) (Er : Exa Z h0 ar "[B") (Gc : Fld Z h0 a "java/lang/AbstractStringBuilder" "coder" "B" (.int 0)) (Gn : Fld Z h0 a "java/lang/AbstractStringBuilder" "count" "I" (.int pp)) (Va : Arv Z h0 ar kA .byte (16 : Int32) vs (.int 0)) (hcs : ¬ cs = 0) (hp0 : ¬ pp < 0) (hn0 : ¬ ns < 0) (hp5 : pp.toNatClampNeg + ns.toNatClampNeg ≤ 16) (hus : us = (List.range ns.toNatClampNeg).map fun i => us.getD ((0 : Int32).toNatClampNeg + i) (.int 0)) (hlv : pp.toNatClampNeg + ns.toNatClampNeg ≤ vs.length) (hle : ¬ 0 < ((pp + ns) - (16 : Int32))) (hab : a ≠ ar) :
    MetFree l (⟨"java/lang/AbstractStringBuilder", "append", "(Ljava/lang/String;)Ljava/lang/AbstractStringBuilder;"⟩ : MethodName) (head1 (Jvm.Cond.code (⟨"java/lang/AbstractStringBuilder", "append", "(Ljava/lang/String;)Ljava/lang/AbstractStringBuilder;"⟩ : MethodName) jdk_68_method_22_code 3 (some (.object "java/lang/AbstractStringBuilder")) :: ws) ({ frames := 3, cells := 0, slots := 0, locals := 47 } : Room)) (fun as' U => as' = #[(.ref a), (.ref ps)] ∧ Z.Warmed39 U.vm ∧ U.heap = h0) (fun _ _ _ _ _ => True) (fun _ U o U' => ∃ v L, o = .returned v ∧ QAa Z a ps cs sa ka ns us ar kA pp vs h0 n0 v U'.heap L ∧ FrameEnd U o U' L ({ frames := 3, cells := 0, slots := 0, locals := 47 } : Room).cells ({ frames := 3, cells := 0, slots := 0, locals := 47 } : Room).slots) := by
  refine MetFree.of_bodySF (plainFor_of_name pn_java_lang_AbstractStringBuilder) hisR ?_
  intro p e s m args below meth c s₁ Bd hml0 hP hK
  obtain ⟨rfl, hZ, hh⟩ := hP
  have hx := Bd.exec
  have hby := Bd.bytes
  have hml : c.maxLocals = 3 := hml0
  have hown : s.vm.findClass "java/lang/AbstractStringBuilder" = some m.cls := findClass_of_methodNamed Bd.named
  have hnm := (name_of_methodNamed Bd.named Bd.method).1
  have X0 : Stand p l e ({ frames := 3, cells := 0, slots := 0, locals := 47 } : Room) s m #[(.ref a), (.ref ps)] below meth c s₁ [] 0 0 := Stand.of_body Bd
  have e0 : s₁.heap = h0 := by rw [← hh, Bd.state]; rfl
  have N0 := Fr.nil n0
  show Go p e below s (fun v h L => QAa Z a ps cs sa ka ns us ar kA pp vs h0 n0 v h L) 0 0 _
  refine Go.pull (V := s₁.setTop (mkF m 0 #[rv a, rv ps, .unset] [])) (fun t k => castTop (efAa m a ps) k) ?_
  refine Go.pull (V := s₁.setTop (mkF m 10 #[rv a, rv ps, .unset] [(.ref ps)])) (fun t k => XS.aloadN X0.here hx rfl (hb hby z17_0) rfl rfl (XS.ifnonnullYes X0.here hx rfl (pc0 := 1) (pc' := 9) rfl (hb hby z17_1) rfl (by decide) (by decide) (XS.aloadN X0.here hx rfl (hb hby z17_9) rfl rfl k))) ?_
  obtain ⟨cq1, kq1, q1a, q1b, q1c⟩ := isOf hZ e0 Eps
  obtain ⟨_, _, ⟨T1, L1, k1, n1⟩, -, X1, ⟨Lc1, hQ1, l1, y1, z1⟩, st1⟩ := X0.virtualBack hx (y := (⟨"java/lang/String", "length", "()I"⟩ : MethodName)) (z := (⟨"java/lang/String", "length", "()I"⟩ : MethodName)) hown (mvT hZ (hw _ (List.mem_of_getElem? (i := 92) rfl))) (mvT hZ (hw _ (List.mem_of_getElem? (i := 93) rfl))) (notFace_of_selects (args := #[]) (mvT hZ (hw _ (List.mem_of_getElem? (i := 95) rfl)))) (mvT hZ (hw _ (List.mem_of_getElem? (i := 95) rfl))) (mvT hZ (hw _ (List.mem_of_getElem? (i := 94) rfl))) (by decide) (backOf (W := 0) (rmSl l Z a0 hw [] ps cs sa ka ns (us : List Value) h0 n0 Scs Eps Fcps Fvps Vps hcs) hZ (hw _ (List.mem_of_getElem? (i := 96) rfl)) (hw _ (List.mem_of_getElem? (i := 50) rfl)) (by decide) (by decide)) q1a q1c (g := (mkF m 10 #[rv a, rv ps, .unset] [(.ref ps)])) rfl (by rw [hml]; rfl) (Steps.refl _) (argsL := []) (rest := []) (lenOf pd_6 rfl) rfl (by show 2 * 0 + _ ≤ _; exact Nat.le_of_eq rfl) (hb hby z17_10) (fun _ _ => ⟨rfl, e0, (by decide : 0 + 0 ≤ _), (by decide : 0 + 0 ≤ _)⟩)
  dsimp only [Pt.U, Pt.locs, Pt.cells, Pt.slots] at X1 l1 y1 z1 st1 hQ1
  subst l1 y1 z1
  obtain ⟨rfl, N1q, e1⟩ := hQ1
  have N1 := Fr.app N0 N1q
  refine Go.pull (V := T1.setTop (mkF m 13 #[rv a, rv ps, .unset] [(.int ns)])) (fun _ k => st1.trans k) ?_
  refine Go.pull (V := T1.setTop (mkF m 16 #[rv a, rv ps, iv ns] [(.ref a), (.ref a)])) (fun t k => XS.istoreN X1.here hx rfl (hb hby z17_13) rfl (l' := #[rv a, rv ps, iv ns]) rfl (XS.aloadN X1.here hx rfl (hb hby z17_14) rfl rfl (XS.aloadN X1.here hx rfl (hb hby z17_15) rfl rfl k))) ?_
  obtain ⟨T2, X2, e2, st2⟩ := getF X1 hx hZ hown (host := "") (Or.inl (hw _ (List.mem_of_getElem? (i := 104) rfl))) Via.refl e1 Gn (g := (mkF m 16 #[rv a, rv ps, iv ns] [(.ref a), (.ref a)])) rfl rfl (hb hby z17_16)
  refine Go.pull (V := T2.setTop (mkF m 19 #[rv a, rv ps, iv ns] [(.int pp), (.ref a)])) st2 ?_
  refine Go.pull (V := T2.setTop (mkF m 21 #[rv a, rv ps, iv ns] [(.int (pp + ns)), (.ref a)])) (fun t k => XS.iloadN X2.here hx rfl (hb hby z17_19) rfl  (XS.iadd X2.here hx rfl (hb hby z17_20) rfl k)) ?_
  obtain ⟨ce3, he3, hs3⟩ := Eb.cell
  obtain ⟨_, _, ⟨T3, L3, k3, n3⟩, -, X3, ⟨Lc3, hQ3, l3, y3, z3⟩, st3⟩ := X2.privateBack hx (y := (⟨"java/lang/AbstractStringBuilder", "ensureCapacityInternal", "(I)V"⟩ : MethodName)) hown (mvT hZ (hw _ (List.mem_of_getElem? (i := 106) rfl))) (mvT hZ (hw _ (List.mem_of_getElem? (i := 107) rfl))) (own_selP hZ (hw _ (List.mem_of_getElem? (i := 109) rfl)) (hw _ (List.mem_of_getElem? (i := 108) rfl)) (hw _ (List.mem_of_getElem? (i := 107) rfl)) (by decide)) (Cond.privateMethod_at (mvP hZ (hw _ (List.mem_of_getElem? (i := 108) rfl)) (args := #[]))) (mvT hZ (hw _ (List.mem_of_getElem? (i := 110) rfl))) (by decide) (backOf (W := 0) (rmEn l Z a0 hw [] a (pp + ns) ar kA (vs : List Value) h0 n0 Gv Gc Va hle) hZ (hw _ (List.mem_of_getElem? (i := 110) rfl)) (hw _ (List.mem_of_getElem? (i := 73) rfl)) (by decide) (by decide)) (g := (mkF m 21 #[rv a, rv ps, iv ns] [(.int (pp + ns)), (.ref a)])) rfl (by rw [hml]; rfl) (Steps.refl _) (a := a) (cell := ce3) (by rw [e2]; exact he3) hs3 (argsL := [(.int (pp + ns))]) (rest := []) (lenOf pd_3 rfl) rfl (by show 2 * 0 + _ ≤ _; exact Nat.le_of_eq rfl) (hb hby z17_21) (fun _ _ => ⟨rfl, e2, (by decide : 0 + 0 ≤ _), (by decide : 0 + 0 ≤ _)⟩)
  dsimp only [Pt.U, Pt.locs, Pt.cells, Pt.slots] at X3 l3 y3 z3 st3 hQ3
  subst l3 y3 z3
  obtain ⟨rfl, N3q, e3⟩ := hQ3
  have N3 := Fr.app N1 N3q
  refine Go.pull (V := T3.setTop (mkF m 24 #[rv a, rv ps, iv ns] [])) (fun _ k => st3.trans k) ?_
  refine Go.pull (V := T3.setTop (mkF m 26 #[rv a, rv ps, iv ns] [(.ref a), (.ref a)])) (fun t k => XS.aloadN X3.here hx rfl (hb hby z17_24) rfl rfl (XS.aloadN X3.here hx rfl (hb hby z17_25) rfl rfl k)) ?_
  obtain ⟨T4, X4, e4, st4⟩ := getF X3 hx hZ hown (host := "") (Or.inl (hw _ (List.mem_of_getElem? (i := 104) rfl))) Via.refl e3 Gn (g := (mkF m 26 #[rv a, rv ps, iv ns] [(.ref a), (.ref a)])) rfl rfl (hb hby z17_26)
  refine Go.pull (V := T4.setTop (mkF m 29 #[rv a, rv ps, iv ns] [(.int pp), (.ref a)])) st4 ?_
  refine Go.pull (V := T4.setTop (mkF m 30 #[rv a, rv ps, iv ns] [(.ref ps), (.int pp), (.ref a)])) (fun t k => XS.aloadN X4.here hx rfl (hb hby z17_29) rfl rfl k) ?_
  obtain ⟨ce5, he5, hs5⟩ := Eb.cell
  obtain ⟨_, _, ⟨T5, L5, k5, n5⟩, -, X5, ⟨Lc5, hQ5, l5, y5, z5⟩, st5⟩ := X4.privateBack hx (y := (⟨"java/lang/AbstractStringBuilder", "putStringAt", "(ILjava/lang/String;)V"⟩ : MethodName)) hown (mvT hZ (hw _ (List.mem_of_getElem? (i := 111) rfl))) (mvT hZ (hw _ (List.mem_of_getElem? (i := 112) rfl))) (own_selP hZ (hw _ (List.mem_of_getElem? (i := 114) rfl)) (hw _ (List.mem_of_getElem? (i := 113) rfl)) (hw _ (List.mem_of_getElem? (i := 112) rfl)) (by decide)) (Cond.privateMethod_at (mvP hZ (hw _ (List.mem_of_getElem? (i := 113) rfl)) (args := #[]))) (mvT hZ (hw _ (List.mem_of_getElem? (i := 115) rfl))) (by decide) (backOf (W := 0) (rmPs l Z a0 hw [] a pp ps cs sa ka ns (us : List Value) ar kA (vs : List Value) h0 n0 (Nat.le_trans Z0 ((Keep.refl h0 [a, ar])).1) (g_ar) Scs Eps Fcps Fvps Vps Eb Gv Er Gc Va hcs hp0 hn0 hp5 hus hlv) hZ (hw _ (List.mem_of_getElem? (i := 115) rfl)) (hw _ (List.mem_of_getElem? (i := 73) rfl)) (by decide) (by decide)) (g := (mkF m 30 #[rv a, rv ps, iv ns] [(.ref ps), (.int pp), (.ref a)])) rfl (by rw [hml]; rfl) (Steps.refl _) (a := a) (cell := ce5) (by rw [e4]; exact he5) hs5 (argsL := [(.int pp), (.ref ps)]) (rest := []) (lenOf pd_7 rfl) rfl (by show 2 * 0 + _ ≤ _; exact Nat.le_of_eq rfl) (hb hby z17_30) (fun _ _ => ⟨rfl, e4, (by decide : 0 + 0 ≤ _), (by decide : 0 + 0 ≤ _)⟩)
  dsimp only [Pt.U, Pt.locs, Pt.cells, Pt.slots] at X5 l5 y5 z5 st5 hQ5
  subst l5 y5 z5
  obtain ⟨rfl, N5q, Kc5, Fc5_0⟩ := hQ5
  have K5 : Keep h0 T5.heap [a, ar] := (Keep.refl h0 [a, ar]).trans Kc5 ((allS (Or.inl (List.mem_of_getElem? (i := 1) rfl)) all0))
  have N5 := Fr.app N3 N5q
  refine Go.pull (V := T5.setTop (mkF m 33 #[rv a, rv ps, iv ns] [])) (fun _ k => st5.trans k) ?_
  refine Go.pull (V := T5.setTop (mkF m 35 #[rv a, rv ps, iv ns] [(.ref a), (.ref a)])) (fun t k => XS.aloadN X5.here hx rfl (hb hby z17_33) rfl rfl (XS.dup X5.here hx rfl (hb hby z17_34) rfl rfl k)) ?_
  obtain ⟨T6, X6, e6, st6⟩ := getF X5 hx hZ hown (host := "") (Or.inl (hw _ (List.mem_of_getElem? (i := 104) rfl))) Via.refl rfl (Gn.keep Kc5 (ninS hab nin0)) (g := (mkF m 35 #[rv a, rv ps, iv ns] [(.ref a), (.ref a)])) rfl rfl (hb hby z17_35)
  refine Go.pull (V := T6.setTop (mkF m 38 #[rv a, rv ps, iv ns] [(.int pp), (.ref a)])) st6 ?_
  refine Go.pull (V := T6.setTop (mkF m 40 #[rv a, rv ps, iv ns] [(.int (pp + ns)), (.ref a)])) (fun t k => XS.iloadN X6.here hx rfl (hb hby z17_38) rfl  (XS.iadd X6.here hx rfl (hb hby z17_39) rfl k)) ?_
  obtain ⟨T7, h7, X7, e7, W7, st7⟩ := putF X6 hx hZ hown (host := "") (Or.inl (hw _ (List.mem_of_getElem? (i := 104) rfl))) Via.refl e6 (Gn.keep Kc5 (ninS hab nin0)) (Eb.keep Kc5) (Or.inl (hw _ (List.mem_of_getElem? (i := 105) rfl))) (hw _ (List.mem_of_getElem? (i := 64) rfl)) (ty := .int) (by decide) rfl rfl (g := (mkF m 40 #[rv a, rv ps, iv ns] [(.int (pp + ns)), (.ref a)])) rfl rfl (hb hby z17_40)
  have Fw7 : Fld Z h7 a "java/lang/AbstractStringBuilder" "count" "I" (.int (pp + ns)) := (Gn.keep Kc5 (ninS hab nin0)).same W7
  have K7 : Keep h0 h7 [a, ar] := K5.wr W7 (Or.inl (List.mem_of_getElem? (i := 0) rfl))
  have N7 := Fr.snoc X7 N5 g_a
  refine Go.pull (V := T7.setTop (mkF m 43 #[rv a, rv ps, iv ns] [])) st7 ?_
  refine Go.pull (V := T7.setTop (mkF m 44 #[rv a, rv ps, iv ns] [(.ref a)])) (fun t k => XS.aloadN X7.here hx rfl (hb hby z17_43) rfl rfl k) ?_
  exact Go.retR X7 hx Bd.notSynchronized Bd.returns rfl rfl rfl (hb hby z17_44) (by rw [e7]; exact ⟨rfl, N7, K7, ((Gv.keep Kc5 (ninS hab nin0)).other W7 (Or.inr (slot_ne (Or.inl (hw _ (List.mem_of_getElem? (i := 78) rfl))) (Or.inl (hw _ (List.mem_of_getElem? (i := 105) rfl))) (by decide) (t := (.array .byte)) (t' := .int) (by decide) (by decide)))), ((Gc.keep Kc5 (ninS hab nin0)).other W7 (Or.inr (slot_ne (Or.inl (hw _ (List.mem_of_getElem? (i := 80) rfl))) (Or.inl (hw _ (List.mem_of_getElem? (i := 105) rfl))) (by decide) (t := .byte) (t' := .int) (by decide) (by decide)))), Fw7, (Fc5_0.other W7 (Ne.symm hab))⟩) (by decide) (by decide)
theorem z18_0 : decode jdk_67_method_7_code 0 = .ok (.aload_n 0, 1) := by decide +kernel
theorem z18_1 : decode jdk_67_method_7_code 1 = .ok (.aload_n 1, 1) := by decide +kernel
theorem z18_2 : decode jdk_67_method_7_code 2 = .ok (.invokespecial 29, 3) := by decide +kernel
theorem z18_5 : decode jdk_67_method_7_code 5 = .ok (.pop, 1) := by decide +kernel
theorem z18_6 : decode jdk_67_method_7_code 6 = .ok (.aload_n 0, 1) := by decide +kernel
theorem z18_7 : decode jdk_67_method_7_code 7 = .ok (.areturn, 1) := by decide +kernel
theorem efBa (m : MethodId) (x0 : Addr) (x1 : Addr) : entryFrame m #[(.ref x0), (.ref x1)] 2 = mkF m 0 #[rv x0, rv x1] [] := by first | (simp [entryFrame, mkF, argsToLocals, Value.category]; done) | rfl
def QBa (Z : State) (a : Addr) (ps : Addr) (cs : Int32) (sa : Addr) (ka : ClassId) (ns : Int32) (us : List Value) (ar : Addr) (kA : ClassId) (pp : Int32) (vs : List Value) (h0 : Heap) (n0 : Nat) (v : Option Value) (h : Heap) (L : List Loc) : Prop := v = some (.ref a) ∧ Fr n0 L ∧ Keep h0 h [a, ar] ∧ Fld Z h a "java/lang/AbstractStringBuilder" "value" "[B" (.ref ar) ∧ Fld Z h a "java/lang/AbstractStringBuilder" "coder" "B" (.int 0) ∧ Fld Z h a "java/lang/AbstractStringBuilder" "count" "I" (.int (pp + ns)) ∧ Arv Z h ar kA .byte (16 : Int32) (own_cp vs us pp ns) (.int 0)
set_option maxRecDepth 65536 in
set_option maxHeartbeats 40000000 in
theorem rmBa (l : Launch) (Z : State) (a0 : Array Value) (hw : ∀ d ∈ tables_1, d.before a0 Z = true) (ws : List Jvm.Cond) (a : Addr) (ps : Addr) (cs : Int32) (sa : Addr) (ka : ClassId) (ns : Int32) (us : List Value) (ar : Addr) (kA : ClassId) (pp : Int32) (vs : List Value) (h0 : Heap) (n0 : Nat) (Z0 : n0 ≤ h0.size) (g_a : n0 ≤ a) (g_ar : n0 ≤ ar) (Scs : Sta Z h0 "java/lang/String" "COMPACT_STRINGS" "Z" (.int cs)) (Eps : Exa Z h0 ps "java/lang/String") (Fcps : Fld Z h0 ps "java/lang/String" "coder" "B" (.int 0)) (Fvps : Fld Z h0 ps "java/lang/String" "value" "[B" (.ref sa)) (Vps : Arv Z h0 sa ka .byte ns us (.int 0)) (Eb : Exa Z h0 a "java/lang/StringBuilder") (Gv : Fld Z h0 a "java/lang/AbstractStringBuilder" "value" "[B" (.ref ar)) (Er : Exa Z h0 ar "[B") (Gc : Fld Z h0 a "java/lang/AbstractStringBuilder" "coder" "B" (.int 0)) (Gn : Fld Z h0 a "java/lang/AbstractStringBuilder" "count" "I" (.int pp)) (Va : Arv Z h0 ar kA .byte (16 : Int32) vs (.int 0)) (hcs : ¬ cs = 0) (hp0 : ¬ pp < 0) (hn0 : ¬ ns < 0) (hp5 : pp.toNatClampNeg + ns.toNatClampNeg ≤ 16) (hus : us = (List.range ns.toNatClampNeg).map fun i => us.getD ((0 : Int32).toNatClampNeg + i) (.int 0)) (hlv : pp.toNatClampNeg + ns.toNatClampNeg ≤ vs.length) (hle : ¬ 0 < ((pp + ns) - (16 : Int32))) (hab : a ≠ ar) :
    MetFree l (⟨"java/lang/StringBuilder", "append", "(Ljava/lang/String;)Ljava/lang/StringBuilder;"⟩ : MethodName) (head1 (Jvm.Cond.code (⟨"java/lang/StringBuilder", "append", "(Ljava/lang/String;)Ljava/lang/StringBuilder;"⟩ : MethodName) jdk_67_method_7_code 2 (some (.object "java/lang/StringBuilder")) :: ws) ({ frames := 4, cells := 0, slots := 0, locals := 61 } : Room)) (fun as' U => as' = #[(.ref a), (.ref ps)] ∧ Z.Warmed39 U.vm ∧ U.heap = h0) (fun _ _ _ _ _ => True) (fun _ U o U' => ∃ v L, o = .returned v ∧ QBa Z a ps cs sa ka ns us ar kA pp vs h0 n0 v U'.heap L ∧ FrameEnd U o U' L ({ frames := 4, cells := 0, slots := 0, locals := 61 } : Room).cells ({ frames := 4, cells := 0, slots := 0, locals := 61 } : Room).slots) := by
  refine MetFree.of_bodySF (plainFor_of_name pn_java_lang_StringBuilder) hisR ?_
  intro p e s m args below meth c s₁ Bd hml0 hP hK
  obtain ⟨rfl, hZ, hh⟩ := hP
  have hx := Bd.exec
  have hby := Bd.bytes
  have hml : c.maxLocals = 2 := hml0
  have hown : s.vm.findClass "java/lang/StringBuilder" = some m.cls := findClass_of_methodNamed Bd.named
  have hnm := (name_of_methodNamed Bd.named Bd.method).1
  have X0 : Stand p l e ({ frames := 4, cells := 0, slots := 0, locals := 61 } : Room) s m #[(.ref a), (.ref ps)] below meth c s₁ [] 0 0 := Stand.of_body Bd
  have e0 : s₁.heap = h0 := by rw [← hh, Bd.state]; rfl
  have N0 := Fr.nil n0
  show Go p e below s (fun v h L => QBa Z a ps cs sa ka ns us ar kA pp vs h0 n0 v h L) 0 0 _
  refine Go.pull (V := s₁.setTop (mkF m 0 #[rv a, rv ps] [])) (fun t k => castTop (efBa m a ps) k) ?_
  refine Go.pull (V := s₁.setTop (mkF m 2 #[rv a, rv ps] [(.ref ps), (.ref a)])) (fun t k => XS.aloadN X0.here hx rfl (hb hby z18_0) rfl rfl (XS.aloadN X0.here hx rfl (hb hby z18_1) rfl rfl k)) ?_
  obtain ⟨_, _, ⟨T1, L1, k1, n1⟩, -, X1, ⟨Lc1, hQ1, l1, y1, z1⟩, st1⟩ := superBack X0 hx hZ (y := (⟨"java/lang/AbstractStringBuilder", "append", "(Ljava/lang/String;)Ljava/lang/AbstractStringBuilder;"⟩ : MethodName)) hown (hw _ (List.mem_of_getElem? (i := 87) rfl)) (own_same (by decide) (hw _ (List.mem_of_getElem? (i := 90) rfl)) (hw _ (List.mem_of_getElem? (i := 109) rfl)) rfl) (hw _ (List.mem_of_getElem? (i := 88) rfl)) (hw _ (List.mem_of_getElem? (i := 89) rfl)) (by decide) (backOf (W := 0) (rmAa l Z a0 hw [] a ps cs sa ka ns (us : List Value) ar kA pp (vs : List Value) h0 n0 (Nat.le_trans Z0 ((Keep.refl h0 [a, ar])).1) (g_a) (g_ar) Scs Eps Fcps Fvps Vps Eb Gv Er Gc Gn Va hcs hp0 hn0 hp5 hus hlv hle hab) hZ (hw _ (List.mem_of_getElem? (i := 91) rfl)) (hw _ (List.mem_of_getElem? (i := 73) rfl)) (by decide) (by decide)) e0 (Ins.self Eb) (g := (mkF m 2 #[rv a, rv ps] [(.ref ps), (.ref a)])) rfl (by rw [hml]; rfl) (hw _ (List.mem_of_getElem? (i := 91) rfl)) (argsL := [(.ref ps)]) (rest := []) (lenOf pd_8 rfl) rfl (by show 2 * 0 + _ ≤ _; exact Nat.le_of_eq rfl) (hb hby z18_2) (fun _ _ => ⟨rfl, e0, (by decide : 0 + 0 ≤ _), (by decide : 0 + 0 ≤ _)⟩)
  dsimp only [Pt.U, Pt.locs, Pt.cells, Pt.slots] at X1 l1 y1 z1 st1 hQ1
  subst l1 y1 z1
  obtain ⟨rfl, N1q, Kc1, Fc1_0, Fc1_1, Fc1_2, Fc1_3⟩ := hQ1
  have K1 : Keep h0 T1.heap [a, ar] := (Keep.refl h0 [a, ar]).trans Kc1 ((allS (Or.inl (List.mem_of_getElem? (i := 0) rfl)) (allS (Or.inl (List.mem_of_getElem? (i := 1) rfl)) all0)))
  have N1 := Fr.app N0 N1q
  refine Go.pull (V := T1.setTop (mkF m 5 #[rv a, rv ps] [(.ref a)])) (fun _ k => st1.trans k) ?_
  refine Go.pull (V := T1.setTop (mkF m 7 #[rv a, rv ps] [(.ref a)])) (fun t k => XS.pop X1.here hx rfl (hb hby z18_5) rfl rfl (XS.aloadN X1.here hx rfl (hb hby z18_6) rfl rfl k)) ?_
  exact Go.retR X1 hx Bd.notSynchronized Bd.returns rfl rfl rfl (hb hby z18_7) (by exact ⟨rfl, N1, K1, Fc1_0, Fc1_1, Fc1_2, Fc1_3⟩) (by decide) (by decide)
def own_size (pv : Int32) : Int32 := if (-10 : Int32) < (-pv) then 1 else if (-100 : Int32) < (-pv) then 2 else if (-1000 : Int32) < (-pv) then 3 else if (-10000 : Int32) < (-pv) then 4 else if (-100000 : Int32) < (-pv) then 5 else if (-1000000 : Int32) < (-pv) then 6 else if (-10000000 : Int32) < (-pv) then 7 else if (-100000000 : Int32) < (-pv) then 8 else if (-1000000000 : Int32) < (-pv) then 9 else 10
theorem z19_0 : decode jdk_33_method_13_code 0 = .ok (.iconst 1, 1) := by decide +kernel
theorem z19_1 : decode jdk_33_method_13_code 1 = .ok (.istore_n 1, 1) := by decide +kernel
theorem z19_2 : decode jdk_33_method_13_code 2 = .ok (.iload_n 0, 1) := by decide +kernel
theorem z19_3 : decode jdk_33_method_13_code 3 = .ok (.ifCond .lt 8, 3) := by decide +kernel
theorem z19_6 : decode jdk_33_method_13_code 6 = .ok (.iconst 0, 1) := by decide +kernel
theorem z19_7 : decode jdk_33_method_13_code 7 = .ok (.istore_n 1, 1) := by decide +kernel
theorem z19_8 : decode jdk_33_method_13_code 8 = .ok (.iload_n 0, 1) := by decide +kernel
theorem z19_9 : decode jdk_33_method_13_code 9 = .ok (.ineg, 1) := by decide +kernel
theorem z19_10 : decode jdk_33_method_13_code 10 = .ok (.istore_n 0, 1) := by decide +kernel
theorem z19_11 : decode jdk_33_method_13_code 11 = .ok (.bipush (-10), 2) := by decide +kernel
theorem z19_13 : decode jdk_33_method_13_code 13 = .ok (.istore_n 2, 1) := by decide +kernel
theorem z19_14 : decode jdk_33_method_13_code 14 = .ok (.iconst 1, 1) := by decide +kernel
theorem z19_15 : decode jdk_33_method_13_code 15 = .ok (.istore_n 3, 1) := by decide +kernel
theorem z19_16 : decode jdk_33_method_13_code 16 = .ok (.iload_n 3, 1) := by decide +kernel
theorem z19_17 : decode jdk_33_method_13_code 17 = .ok (.bipush 10, 2) := by decide +kernel
theorem z19_19 : decode jdk_33_method_13_code 19 = .ok (.if_icmp .ge 23, 3) := by decide +kernel
theorem z19_22 : decode jdk_33_method_13_code 22 = .ok (.iload_n 0, 1) := by decide +kernel
theorem z19_23 : decode jdk_33_method_13_code 23 = .ok (.iload_n 2, 1) := by decide +kernel
theorem z19_24 : decode jdk_33_method_13_code 24 = .ok (.if_icmp .le 7, 3) := by decide +kernel
theorem z19_27 : decode jdk_33_method_13_code 27 = .ok (.iload_n 3, 1) := by decide +kernel
theorem z19_28 : decode jdk_33_method_13_code 28 = .ok (.iload_n 1, 1) := by decide +kernel
theorem z19_29 : decode jdk_33_method_13_code 29 = .ok (.iadd, 1) := by decide +kernel
theorem z19_30 : decode jdk_33_method_13_code 30 = .ok (.ireturn, 1) := by decide +kernel
theorem z19_31 : decode jdk_33_method_13_code 31 = .ok (.bipush 10, 2) := by decide +kernel
theorem z19_33 : decode jdk_33_method_13_code 33 = .ok (.iload_n 2, 1) := by decide +kernel
theorem z19_34 : decode jdk_33_method_13_code 34 = .ok (.imul, 1) := by decide +kernel
theorem z19_35 : decode jdk_33_method_13_code 35 = .ok (.istore_n 2, 1) := by decide +kernel
theorem z19_36 : decode jdk_33_method_13_code 36 = .ok (.iinc 3 1, 3) := by decide +kernel
theorem z19_39 : decode jdk_33_method_13_code 39 = .ok (.goto (-23), 3) := by decide +kernel
theorem z19_42 : decode jdk_33_method_13_code 42 = .ok (.bipush 10, 2) := by decide +kernel
theorem z19_44 : decode jdk_33_method_13_code 44 = .ok (.iload_n 1, 1) := by decide +kernel
theorem z19_45 : decode jdk_33_method_13_code 45 = .ok (.iadd, 1) := by decide +kernel
theorem z19_46 : decode jdk_33_method_13_code 46 = .ok (.ireturn, 1) := by decide +kernel
theorem efSs (m : MethodId) (x0 : Int32) : entryFrame m #[(.int x0)] 4 = mkF m 0 #[iv x0, .unset, .unset, .unset] [] := by first | (simp [entryFrame, mkF, argsToLocals, Value.category]; done) | rfl
theorem pn_java_lang_Integer : plainName "java/lang/Integer" = true := by first | (simp [plainName, overriddenIn]; done) | decide +kernel
def QSs (Z : State) (pv : Int32) (h0 : Heap) (n0 : Nat) (v : Option Value) (h : Heap) (L : List Loc) : Prop := v = some (.int (own_size pv)) ∧ Fr n0 L ∧ h = h0
set_option maxRecDepth 65536 in
set_option maxHeartbeats 40000000 in
theorem rmSs (l : Launch) (Z : State) (a0 : Array Value) (hw : ∀ d ∈ tables_1, d.before a0 Z = true) (ws : List Jvm.Cond) (pv : Int32) (h0 : Heap) (n0 : Nat) (hv0 : ¬ pv < 0) :
    MetFree l (⟨"java/lang/Integer", "stringSize", "(I)I"⟩ : MethodName) (head1 (Jvm.Cond.code (⟨"java/lang/Integer", "stringSize", "(I)I"⟩ : MethodName) jdk_33_method_13_code 4 (some .int) :: ws) ({ frames := 0, cells := 0, slots := 0, locals := 0 } : Room)) (fun as' U => as' = #[(.int pv)] ∧ Z.Warmed39 U.vm ∧ U.heap = h0) (fun _ _ _ _ _ => True) (fun _ U o U' => ∃ v L, o = .returned v ∧ QSs Z pv h0 n0 v U'.heap L ∧ FrameEnd U o U' L ({ frames := 0, cells := 0, slots := 0, locals := 0 } : Room).cells ({ frames := 0, cells := 0, slots := 0, locals := 0 } : Room).slots) := by
  refine MetFree.of_bodySF (plainFor_of_name pn_java_lang_Integer) hisR ?_
  intro p e s m args below meth c s₁ Bd hml0 hP hK
  obtain ⟨rfl, hZ, hh⟩ := hP
  have hx := Bd.exec
  have hby := Bd.bytes
  have hml : c.maxLocals = 4 := hml0
  have hown : s.vm.findClass "java/lang/Integer" = some m.cls := findClass_of_methodNamed Bd.named
  have hnm := (name_of_methodNamed Bd.named Bd.method).1
  have X0 : Stand p l e ({ frames := 0, cells := 0, slots := 0, locals := 0 } : Room) s m #[(.int pv)] below meth c s₁ [] 0 0 := Stand.of_body Bd
  have e0 : s₁.heap = h0 := by rw [← hh, Bd.state]; rfl
  have N0 := Fr.nil n0
  show Go p e below s (fun v h L => QSs Z pv h0 n0 v h L) 0 0 _
  refine Go.pull (V := s₁.setTop (mkF m 0 #[iv pv, .unset, .unset, .unset] [])) (fun t k => castTop (efSs m pv) k) ?_
  refine Go.pull (V := s₁.setTop (mkF m 7 #[iv pv, iv 1, .unset, .unset] [(.int 0)])) (fun t k => XS.iconst X0.here hx rfl (hb hby z19_0) (XS.istoreN X0.here hx rfl (hb hby z19_1) rfl (l' := #[iv pv, iv 1, .unset, .unset]) rfl (XS.iloadN X0.here hx rfl (hb hby z19_2) rfl  (XS.ifNo X0.here hx rfl (hb hby z19_3) rfl (XT.i0_lt_f hv0) (XS.iconst X0.here hx rfl (hb hby z19_6) k))))) ?_
  refine Go.pull (V := s₁.setTop (mkF m 13 #[iv (-pv), iv 0, .unset, .unset] [(.int (-10))])) (fun t k => XS.istoreN X0.here hx rfl (hb hby z19_7) rfl (l' := #[iv pv, iv 0, .unset, .unset]) rfl (XS.iloadN X0.here hx rfl (hb hby z19_8) rfl  (XS.ineg X0.here hx rfl (hb hby z19_9) rfl (XS.istoreN X0.here hx rfl (hb hby z19_10) rfl (l' := #[iv (-pv), iv 0, .unset, .unset]) rfl (XS.bipush X0.here hx rfl (hb hby z19_11) k))))) ?_
  refine Go.pull (V := s₁.setTop (mkF m 19 #[iv (-pv), iv 0, iv (-10), iv 1] [(.int 10), (.int 1)])) (fun t k => XS.istoreN X0.here hx rfl (hb hby z19_13) rfl (l' := #[iv (-pv), iv 0, iv (-10), .unset]) rfl (XS.iconst X0.here hx rfl (hb hby z19_14) (XS.istoreN X0.here hx rfl (hb hby z19_15) rfl (l' := #[iv (-pv), iv 0, iv (-10), iv 1]) rfl (XS.iloadN X0.here hx rfl (hb hby z19_16) rfl  (XS.bipush X0.here hx rfl (hb hby z19_17) k))))) ?_
  refine Go.pull (V := s₁.setTop (mkF m 24 #[iv (-pv), iv 0, iv (-10), iv 1] [(.int (-10)), (.int (-pv))])) (fun t k => XS.icmpNo X0.here hx rfl (hb hby z19_19) rfl (XT.ii_ge_f (by decide)) (XS.iloadN X0.here hx rfl (hb hby z19_22) rfl  (XS.iloadN X0.here hx rfl (hb hby z19_23) rfl  k))) ?_
  by_cases hc24_1 : (-10 : Int32) < (-pv)
  · skip
    refine Go.pull (V := s₁.setTop (mkF m 30 #[iv (-pv), iv 0, iv (-10), iv 1] [(.int 1)])) (fun t k => XS.icmpNo X0.here hx rfl (hb hby z19_24) rfl (XT.ii_le_f hc24_1) (XS.iloadN X0.here hx rfl (hb hby z19_27) rfl  (XS.iloadN X0.here hx rfl (hb hby z19_28) rfl  (XS.iadd X0.here hx rfl (hb hby z19_29) rfl k)))) ?_
    exact Go.retI X0 hx Bd.notSynchronized Bd.returns (hb hby z19_30) ⟨(by rw [own_size, if_pos hc24_1] <;> rfl), N0, e0⟩ (by decide) (by decide)
  · skip
    refine Go.pull (V := s₁.setTop (mkF m 36 #[iv (-pv), iv 0, iv (-100), iv 1] [])) (fun t k => XS.icmpYes X0.here hx rfl (pc0 := 24) (pc' := 31) rfl (hb hby z19_24) rfl (XT.ii_le_t hc24_1) (by decide) (by decide) (XS.bipush X0.here hx rfl (hb hby z19_31) (XS.iloadN X0.here hx rfl (hb hby z19_33) rfl  (XS.imul X0.here hx rfl (hb hby z19_34) rfl (XS.istoreN X0.here hx rfl (hb hby z19_35) rfl (l' := #[iv (-pv), iv 0, iv (-100), iv 1]) rfl k))))) ?_
    refine Go.pull (V := s₁.setTop (mkF m 22 #[iv (-pv), iv 0, iv (-100), iv 2] [])) (fun t k => XS.iinc X0.here hx rfl (hb hby z19_36) rfl (l' := #[iv (-pv), iv 0, iv (-100), iv 2]) rfl (XS.goto X0.here hx rfl (pc0 := 39) (pc' := 16) rfl (hb hby z19_39) (by decide) (by decide) (XS.iloadN X0.here hx rfl (hb hby z19_16) rfl  (XS.bipush X0.here hx rfl (hb hby z19_17) (XS.icmpNo X0.here hx rfl (hb hby z19_19) rfl (XT.ii_ge_f (by decide)) k))))) ?_
    refine Go.pull (V := s₁.setTop (mkF m 24 #[iv (-pv), iv 0, iv (-100), iv 2] [(.int (-100)), (.int (-pv))])) (fun t k => XS.iloadN X0.here hx rfl (hb hby z19_22) rfl  (XS.iloadN X0.here hx rfl (hb hby z19_23) rfl  k)) ?_
    by_cases hc24_2 : (-100 : Int32) < (-pv)
    · skip
      refine Go.pull (V := s₁.setTop (mkF m 30 #[iv (-pv), iv 0, iv (-100), iv 2] [(.int 2)])) (fun t k => XS.icmpNo X0.here hx rfl (hb hby z19_24) rfl (XT.ii_le_f hc24_2) (XS.iloadN X0.here hx rfl (hb hby z19_27) rfl  (XS.iloadN X0.here hx rfl (hb hby z19_28) rfl  (XS.iadd X0.here hx rfl (hb hby z19_29) rfl k)))) ?_
      exact Go.retI X0 hx Bd.notSynchronized Bd.returns (hb hby z19_30) ⟨(by rw [own_size, if_neg hc24_1, if_pos hc24_2] <;> rfl), N0, e0⟩ (by decide) (by decide)
    · skip
      refine Go.pull (V := s₁.setTop (mkF m 36 #[iv (-pv), iv 0, iv (-1000), iv 2] [])) (fun t k => XS.icmpYes X0.here hx rfl (pc0 := 24) (pc' := 31) rfl (hb hby z19_24) rfl (XT.ii_le_t hc24_2) (by decide) (by decide) (XS.bipush X0.here hx rfl (hb hby z19_31) (XS.iloadN X0.here hx rfl (hb hby z19_33) rfl  (XS.imul X0.here hx rfl (hb hby z19_34) rfl (XS.istoreN X0.here hx rfl (hb hby z19_35) rfl (l' := #[iv (-pv), iv 0, iv (-1000), iv 2]) rfl k))))) ?_
      refine Go.pull (V := s₁.setTop (mkF m 22 #[iv (-pv), iv 0, iv (-1000), iv 3] [])) (fun t k => XS.iinc X0.here hx rfl (hb hby z19_36) rfl (l' := #[iv (-pv), iv 0, iv (-1000), iv 3]) rfl (XS.goto X0.here hx rfl (pc0 := 39) (pc' := 16) rfl (hb hby z19_39) (by decide) (by decide) (XS.iloadN X0.here hx rfl (hb hby z19_16) rfl  (XS.bipush X0.here hx rfl (hb hby z19_17) (XS.icmpNo X0.here hx rfl (hb hby z19_19) rfl (XT.ii_ge_f (by decide)) k))))) ?_
      refine Go.pull (V := s₁.setTop (mkF m 24 #[iv (-pv), iv 0, iv (-1000), iv 3] [(.int (-1000)), (.int (-pv))])) (fun t k => XS.iloadN X0.here hx rfl (hb hby z19_22) rfl  (XS.iloadN X0.here hx rfl (hb hby z19_23) rfl  k)) ?_
      by_cases hc24_3 : (-1000 : Int32) < (-pv)
      · skip
        refine Go.pull (V := s₁.setTop (mkF m 30 #[iv (-pv), iv 0, iv (-1000), iv 3] [(.int 3)])) (fun t k => XS.icmpNo X0.here hx rfl (hb hby z19_24) rfl (XT.ii_le_f hc24_3) (XS.iloadN X0.here hx rfl (hb hby z19_27) rfl  (XS.iloadN X0.here hx rfl (hb hby z19_28) rfl  (XS.iadd X0.here hx rfl (hb hby z19_29) rfl k)))) ?_
        exact Go.retI X0 hx Bd.notSynchronized Bd.returns (hb hby z19_30) ⟨(by rw [own_size, if_neg hc24_1, if_neg hc24_2, if_pos hc24_3] <;> rfl), N0, e0⟩ (by decide) (by decide)
      · skip
        refine Go.pull (V := s₁.setTop (mkF m 36 #[iv (-pv), iv 0, iv (-10000), iv 3] [])) (fun t k => XS.icmpYes X0.here hx rfl (pc0 := 24) (pc' := 31) rfl (hb hby z19_24) rfl (XT.ii_le_t hc24_3) (by decide) (by decide) (XS.bipush X0.here hx rfl (hb hby z19_31) (XS.iloadN X0.here hx rfl (hb hby z19_33) rfl  (XS.imul X0.here hx rfl (hb hby z19_34) rfl (XS.istoreN X0.here hx rfl (hb hby z19_35) rfl (l' := #[iv (-pv), iv 0, iv (-10000), iv 3]) rfl k))))) ?_
        refine Go.pull (V := s₁.setTop (mkF m 22 #[iv (-pv), iv 0, iv (-10000), iv 4] [])) (fun t k => XS.iinc X0.here hx rfl (hb hby z19_36) rfl (l' := #[iv (-pv), iv 0, iv (-10000), iv 4]) rfl (XS.goto X0.here hx rfl (pc0 := 39) (pc' := 16) rfl (hb hby z19_39) (by decide) (by decide) (XS.iloadN X0.here hx rfl (hb hby z19_16) rfl  (XS.bipush X0.here hx rfl (hb hby z19_17) (XS.icmpNo X0.here hx rfl (hb hby z19_19) rfl (XT.ii_ge_f (by decide)) k))))) ?_
        refine Go.pull (V := s₁.setTop (mkF m 24 #[iv (-pv), iv 0, iv (-10000), iv 4] [(.int (-10000)), (.int (-pv))])) (fun t k => XS.iloadN X0.here hx rfl (hb hby z19_22) rfl  (XS.iloadN X0.here hx rfl (hb hby z19_23) rfl  k)) ?_
        by_cases hc24_4 : (-10000 : Int32) < (-pv)
        · skip
          refine Go.pull (V := s₁.setTop (mkF m 30 #[iv (-pv), iv 0, iv (-10000), iv 4] [(.int 4)])) (fun t k => XS.icmpNo X0.here hx rfl (hb hby z19_24) rfl (XT.ii_le_f hc24_4) (XS.iloadN X0.here hx rfl (hb hby z19_27) rfl  (XS.iloadN X0.here hx rfl (hb hby z19_28) rfl  (XS.iadd X0.here hx rfl (hb hby z19_29) rfl k)))) ?_
          exact Go.retI X0 hx Bd.notSynchronized Bd.returns (hb hby z19_30) ⟨(by rw [own_size, if_neg hc24_1, if_neg hc24_2, if_neg hc24_3, if_pos hc24_4] <;> rfl), N0, e0⟩ (by decide) (by decide)
        · skip
          refine Go.pull (V := s₁.setTop (mkF m 36 #[iv (-pv), iv 0, iv (-100000), iv 4] [])) (fun t k => XS.icmpYes X0.here hx rfl (pc0 := 24) (pc' := 31) rfl (hb hby z19_24) rfl (XT.ii_le_t hc24_4) (by decide) (by decide) (XS.bipush X0.here hx rfl (hb hby z19_31) (XS.iloadN X0.here hx rfl (hb hby z19_33) rfl  (XS.imul X0.here hx rfl (hb hby z19_34) rfl (XS.istoreN X0.here hx rfl (hb hby z19_35) rfl (l' := #[iv (-pv), iv 0, iv (-100000), iv 4]) rfl k))))) ?_
          refine Go.pull (V := s₁.setTop (mkF m 22 #[iv (-pv), iv 0, iv (-100000), iv 5] [])) (fun t k => XS.iinc X0.here hx rfl (hb hby z19_36) rfl (l' := #[iv (-pv), iv 0, iv (-100000), iv 5]) rfl (XS.goto X0.here hx rfl (pc0 := 39) (pc' := 16) rfl (hb hby z19_39) (by decide) (by decide) (XS.iloadN X0.here hx rfl (hb hby z19_16) rfl  (XS.bipush X0.here hx rfl (hb hby z19_17) (XS.icmpNo X0.here hx rfl (hb hby z19_19) rfl (XT.ii_ge_f (by decide)) k))))) ?_
          refine Go.pull (V := s₁.setTop (mkF m 24 #[iv (-pv), iv 0, iv (-100000), iv 5] [(.int (-100000)), (.int (-pv))])) (fun t k => XS.iloadN X0.here hx rfl (hb hby z19_22) rfl  (XS.iloadN X0.here hx rfl (hb hby z19_23) rfl  k)) ?_
          by_cases hc24_5 : (-100000 : Int32) < (-pv)
          · skip
            refine Go.pull (V := s₁.setTop (mkF m 30 #[iv (-pv), iv 0, iv (-100000), iv 5] [(.int 5)])) (fun t k => XS.icmpNo X0.here hx rfl (hb hby z19_24) rfl (XT.ii_le_f hc24_5) (XS.iloadN X0.here hx rfl (hb hby z19_27) rfl  (XS.iloadN X0.here hx rfl (hb hby z19_28) rfl  (XS.iadd X0.here hx rfl (hb hby z19_29) rfl k)))) ?_
            exact Go.retI X0 hx Bd.notSynchronized Bd.returns (hb hby z19_30) ⟨(by rw [own_size, if_neg hc24_1, if_neg hc24_2, if_neg hc24_3, if_neg hc24_4, if_pos hc24_5] <;> rfl), N0, e0⟩ (by decide) (by decide)
          · skip
            refine Go.pull (V := s₁.setTop (mkF m 36 #[iv (-pv), iv 0, iv (-1000000), iv 5] [])) (fun t k => XS.icmpYes X0.here hx rfl (pc0 := 24) (pc' := 31) rfl (hb hby z19_24) rfl (XT.ii_le_t hc24_5) (by decide) (by decide) (XS.bipush X0.here hx rfl (hb hby z19_31) (XS.iloadN X0.here hx rfl (hb hby z19_33) rfl  (XS.imul X0.here hx rfl (hb hby z19_34) rfl (XS.istoreN X0.here hx rfl (hb hby z19_35) rfl (l' := #[iv (-pv), iv 0, iv (-1000000), iv 5]) rfl k))))) ?_
            refine Go.pull (V := s₁.setTop (mkF m 22 #[iv (-pv), iv 0, iv (-1000000), iv 6] [])) (fun t k => XS.iinc X0.here hx rfl (hb hby z19_36) rfl (l' := #[iv (-pv), iv 0, iv (-1000000), iv 6]) rfl (XS.goto X0.here hx rfl (pc0 := 39) (pc' := 16) rfl (hb hby z19_39) (by decide) (by decide) (XS.iloadN X0.here hx rfl (hb hby z19_16) rfl  (XS.bipush X0.here hx rfl (hb hby z19_17) (XS.icmpNo X0.here hx rfl (hb hby z19_19) rfl (XT.ii_ge_f (by decide)) k))))) ?_
            refine Go.pull (V := s₁.setTop (mkF m 24 #[iv (-pv), iv 0, iv (-1000000), iv 6] [(.int (-1000000)), (.int (-pv))])) (fun t k => XS.iloadN X0.here hx rfl (hb hby z19_22) rfl  (XS.iloadN X0.here hx rfl (hb hby z19_23) rfl  k)) ?_
            by_cases hc24_6 : (-1000000 : Int32) < (-pv)
            · skip
              refine Go.pull (V := s₁.setTop (mkF m 30 #[iv (-pv), iv 0, iv (-1000000), iv 6] [(.int 6)])) (fun t k => XS.icmpNo X0.here hx rfl (hb hby z19_24) rfl (XT.ii_le_f hc24_6) (XS.iloadN X0.here hx rfl (hb hby z19_27) rfl  (XS.iloadN X0.here hx rfl (hb hby z19_28) rfl  (XS.iadd X0.here hx rfl (hb hby z19_29) rfl k)))) ?_
              exact Go.retI X0 hx Bd.notSynchronized Bd.returns (hb hby z19_30) ⟨(by rw [own_size, if_neg hc24_1, if_neg hc24_2, if_neg hc24_3, if_neg hc24_4, if_neg hc24_5, if_pos hc24_6] <;> rfl), N0, e0⟩ (by decide) (by decide)
            · skip
              refine Go.pull (V := s₁.setTop (mkF m 36 #[iv (-pv), iv 0, iv (-10000000), iv 6] [])) (fun t k => XS.icmpYes X0.here hx rfl (pc0 := 24) (pc' := 31) rfl (hb hby z19_24) rfl (XT.ii_le_t hc24_6) (by decide) (by decide) (XS.bipush X0.here hx rfl (hb hby z19_31) (XS.iloadN X0.here hx rfl (hb hby z19_33) rfl  (XS.imul X0.here hx rfl (hb hby z19_34) rfl (XS.istoreN X0.here hx rfl (hb hby z19_35) rfl (l' := #[iv (-pv), iv 0, iv (-10000000), iv 6]) rfl k))))) ?_
              refine Go.pull (V := s₁.setTop (mkF m 22 #[iv (-pv), iv 0, iv (-10000000), iv 7] [])) (fun t k => XS.iinc X0.here hx rfl (hb hby z19_36) rfl (l' := #[iv (-pv), iv 0, iv (-10000000), iv 7]) rfl (XS.goto X0.here hx rfl (pc0 := 39) (pc' := 16) rfl (hb hby z19_39) (by decide) (by decide) (XS.iloadN X0.here hx rfl (hb hby z19_16) rfl  (XS.bipush X0.here hx rfl (hb hby z19_17) (XS.icmpNo X0.here hx rfl (hb hby z19_19) rfl (XT.ii_ge_f (by decide)) k))))) ?_
              refine Go.pull (V := s₁.setTop (mkF m 24 #[iv (-pv), iv 0, iv (-10000000), iv 7] [(.int (-10000000)), (.int (-pv))])) (fun t k => XS.iloadN X0.here hx rfl (hb hby z19_22) rfl  (XS.iloadN X0.here hx rfl (hb hby z19_23) rfl  k)) ?_
              by_cases hc24_7 : (-10000000 : Int32) < (-pv)
              · skip
                refine Go.pull (V := s₁.setTop (mkF m 30 #[iv (-pv), iv 0, iv (-10000000), iv 7] [(.int 7)])) (fun t k => XS.icmpNo X0.here hx rfl (hb hby z19_24) rfl (XT.ii_le_f hc24_7) (XS.iloadN X0.here hx rfl (hb hby z19_27) rfl  (XS.iloadN X0.here hx rfl (hb hby z19_28) rfl  (XS.iadd X0.here hx rfl (hb hby z19_29) rfl k)))) ?_
                exact Go.retI X0 hx Bd.notSynchronized Bd.returns (hb hby z19_30) ⟨(by rw [own_size, if_neg hc24_1, if_neg hc24_2, if_neg hc24_3, if_neg hc24_4, if_neg hc24_5, if_neg hc24_6, if_pos hc24_7] <;> rfl), N0, e0⟩ (by decide) (by decide)
              · skip
                refine Go.pull (V := s₁.setTop (mkF m 36 #[iv (-pv), iv 0, iv (-100000000), iv 7] [])) (fun t k => XS.icmpYes X0.here hx rfl (pc0 := 24) (pc' := 31) rfl (hb hby z19_24) rfl (XT.ii_le_t hc24_7) (by decide) (by decide) (XS.bipush X0.here hx rfl (hb hby z19_31) (XS.iloadN X0.here hx rfl (hb hby z19_33) rfl  (XS.imul X0.here hx rfl (hb hby z19_34) rfl (XS.istoreN X0.here hx rfl (hb hby z19_35) rfl (l' := #[iv (-pv), iv 0, iv (-100000000), iv 7]) rfl k))))) ?_
                refine Go.pull (V := s₁.setTop (mkF m 22 #[iv (-pv), iv 0, iv (-100000000), iv 8] [])) (fun t k => XS.iinc X0.here hx rfl (hb hby z19_36) rfl (l' := #[iv (-pv), iv 0, iv (-100000000), iv 8]) rfl (XS.goto X0.here hx rfl (pc0 := 39) (pc' := 16) rfl (hb hby z19_39) (by decide) (by decide) (XS.iloadN X0.here hx rfl (hb hby z19_16) rfl  (XS.bipush X0.here hx rfl (hb hby z19_17) (XS.icmpNo X0.here hx rfl (hb hby z19_19) rfl (XT.ii_ge_f (by decide)) k))))) ?_
                refine Go.pull (V := s₁.setTop (mkF m 24 #[iv (-pv), iv 0, iv (-100000000), iv 8] [(.int (-100000000)), (.int (-pv))])) (fun t k => XS.iloadN X0.here hx rfl (hb hby z19_22) rfl  (XS.iloadN X0.here hx rfl (hb hby z19_23) rfl  k)) ?_
                by_cases hc24_8 : (-100000000 : Int32) < (-pv)
                · skip
                  refine Go.pull (V := s₁.setTop (mkF m 30 #[iv (-pv), iv 0, iv (-100000000), iv 8] [(.int 8)])) (fun t k => XS.icmpNo X0.here hx rfl (hb hby z19_24) rfl (XT.ii_le_f hc24_8) (XS.iloadN X0.here hx rfl (hb hby z19_27) rfl  (XS.iloadN X0.here hx rfl (hb hby z19_28) rfl  (XS.iadd X0.here hx rfl (hb hby z19_29) rfl k)))) ?_
                  exact Go.retI X0 hx Bd.notSynchronized Bd.returns (hb hby z19_30) ⟨(by rw [own_size, if_neg hc24_1, if_neg hc24_2, if_neg hc24_3, if_neg hc24_4, if_neg hc24_5, if_neg hc24_6, if_neg hc24_7, if_pos hc24_8] <;> rfl), N0, e0⟩ (by decide) (by decide)
                · skip
                  refine Go.pull (V := s₁.setTop (mkF m 36 #[iv (-pv), iv 0, iv (-1000000000), iv 8] [])) (fun t k => XS.icmpYes X0.here hx rfl (pc0 := 24) (pc' := 31) rfl (hb hby z19_24) rfl (XT.ii_le_t hc24_8) (by decide) (by decide) (XS.bipush X0.here hx rfl (hb hby z19_31) (XS.iloadN X0.here hx rfl (hb hby z19_33) rfl  (XS.imul X0.here hx rfl (hb hby z19_34) rfl (XS.istoreN X0.here hx rfl (hb hby z19_35) rfl (l' := #[iv (-pv), iv 0, iv (-1000000000), iv 8]) rfl k))))) ?_
                  refine Go.pull (V := s₁.setTop (mkF m 22 #[iv (-pv), iv 0, iv (-1000000000), iv 9] [])) (fun t k => XS.iinc X0.here hx rfl (hb hby z19_36) rfl (l' := #[iv (-pv), iv 0, iv (-1000000000), iv 9]) rfl (XS.goto X0.here hx rfl (pc0 := 39) (pc' := 16) rfl (hb hby z19_39) (by decide) (by decide) (XS.iloadN X0.here hx rfl (hb hby z19_16) rfl  (XS.bipush X0.here hx rfl (hb hby z19_17) (XS.icmpNo X0.here hx rfl (hb hby z19_19) rfl (XT.ii_ge_f (by decide)) k))))) ?_
                  refine Go.pull (V := s₁.setTop (mkF m 24 #[iv (-pv), iv 0, iv (-1000000000), iv 9] [(.int (-1000000000)), (.int (-pv))])) (fun t k => XS.iloadN X0.here hx rfl (hb hby z19_22) rfl  (XS.iloadN X0.here hx rfl (hb hby z19_23) rfl  k)) ?_
                  by_cases hc24_9 : (-1000000000 : Int32) < (-pv)
                  · skip
                    refine Go.pull (V := s₁.setTop (mkF m 30 #[iv (-pv), iv 0, iv (-1000000000), iv 9] [(.int 9)])) (fun t k => XS.icmpNo X0.here hx rfl (hb hby z19_24) rfl (XT.ii_le_f hc24_9) (XS.iloadN X0.here hx rfl (hb hby z19_27) rfl  (XS.iloadN X0.here hx rfl (hb hby z19_28) rfl  (XS.iadd X0.here hx rfl (hb hby z19_29) rfl k)))) ?_
                    exact Go.retI X0 hx Bd.notSynchronized Bd.returns (hb hby z19_30) ⟨(by rw [own_size, if_neg hc24_1, if_neg hc24_2, if_neg hc24_3, if_neg hc24_4, if_neg hc24_5, if_neg hc24_6, if_neg hc24_7, if_neg hc24_8, if_pos hc24_9] <;> rfl), N0, e0⟩ (by decide) (by decide)
                  · skip
                    refine Go.pull (V := s₁.setTop (mkF m 36 #[iv (-pv), iv 0, iv (-1410065408), iv 9] [])) (fun t k => XS.icmpYes X0.here hx rfl (pc0 := 24) (pc' := 31) rfl (hb hby z19_24) rfl (XT.ii_le_t hc24_9) (by decide) (by decide) (XS.bipush X0.here hx rfl (hb hby z19_31) (XS.iloadN X0.here hx rfl (hb hby z19_33) rfl  (XS.imul X0.here hx rfl (hb hby z19_34) rfl (XS.istoreN X0.here hx rfl (hb hby z19_35) rfl (l' := #[iv (-pv), iv 0, iv (-1410065408), iv 9]) rfl k))))) ?_
                    refine Go.pull (V := s₁.setTop (mkF m 42 #[iv (-pv), iv 0, iv (-1410065408), iv 10] [])) (fun t k => XS.iinc X0.here hx rfl (hb hby z19_36) rfl (l' := #[iv (-pv), iv 0, iv (-1410065408), iv 10]) rfl (XS.goto X0.here hx rfl (pc0 := 39) (pc' := 16) rfl (hb hby z19_39) (by decide) (by decide) (XS.iloadN X0.here hx rfl (hb hby z19_16) rfl  (XS.bipush X0.here hx rfl (hb hby z19_17) (XS.icmpYes X0.here hx rfl (pc0 := 19) (pc' := 42) rfl (hb hby z19_19) rfl (XT.ii_ge_t (by decide)) (by decide) (by decide) k))))) ?_
                    refine Go.pull (V := s₁.setTop (mkF m 46 #[iv (-pv), iv 0, iv (-1410065408), iv 10] [(.int 10)])) (fun t k => XS.bipush X0.here hx rfl (hb hby z19_42) (XS.iloadN X0.here hx rfl (hb hby z19_44) rfl  (XS.iadd X0.here hx rfl (hb hby z19_45) rfl k))) ?_
                    exact Go.retI X0 hx Bd.notSynchronized Bd.returns (hb hby z19_46) ⟨(by rw [own_size, if_neg hc24_1, if_neg hc24_2, if_neg hc24_3, if_neg hc24_4, if_neg hc24_5, if_neg hc24_6, if_neg hc24_7, if_neg hc24_8, if_neg hc24_9] <;> rfl), N0, e0⟩ (by decide) (by decide)
theorem own_size_1 (pv : Int32) (hv0 : ¬ pv < 0) (hlo : ¬ pv < 0) (hhi : pv < 10) : own_size pv = 1 := by
  have a1 :  pv < (10 : Int32) := hhi
  rw [own_size, if_pos ((own_neglt pv 10 hv0 (by decide)).mpr a1)]
theorem own_size_2 (pv : Int32) (hv0 : ¬ pv < 0) (hlo : ¬ pv < 10) (hhi : pv < 100) : own_size pv = 2 := by
  have a1 : ¬ pv < (10 : Int32) := fun z => hlo (Int32.lt_iff_toInt_lt.mpr (Int.lt_of_lt_of_le (Int32.lt_iff_toInt_lt.mp z) (by decide)))
  have a2 :  pv < (100 : Int32) := hhi
  rw [own_size, if_neg (fun z => a1 ((own_neglt pv 10 hv0 (by decide)).mp z)), if_pos ((own_neglt pv 100 hv0 (by decide)).mpr a2)]
theorem own_size_3 (pv : Int32) (hv0 : ¬ pv < 0) (hlo : ¬ pv < 100) (hhi : pv < 1000) : own_size pv = 3 := by
  have a1 : ¬ pv < (10 : Int32) := fun z => hlo (Int32.lt_iff_toInt_lt.mpr (Int.lt_of_lt_of_le (Int32.lt_iff_toInt_lt.mp z) (by decide)))
  have a2 : ¬ pv < (100 : Int32) := fun z => hlo (Int32.lt_iff_toInt_lt.mpr (Int.lt_of_lt_of_le (Int32.lt_iff_toInt_lt.mp z) (by decide)))
  have a3 :  pv < (1000 : Int32) := hhi
  rw [own_size, if_neg (fun z => a1 ((own_neglt pv 10 hv0 (by decide)).mp z)), if_neg (fun z => a2 ((own_neglt pv 100 hv0 (by decide)).mp z)), if_pos ((own_neglt pv 1000 hv0 (by decide)).mpr a3)]
theorem own_size_4 (pv : Int32) (hv0 : ¬ pv < 0) (hlo : ¬ pv < 1000) (hhi : pv < 10000) : own_size pv = 4 := by
  have a1 : ¬ pv < (10 : Int32) := fun z => hlo (Int32.lt_iff_toInt_lt.mpr (Int.lt_of_lt_of_le (Int32.lt_iff_toInt_lt.mp z) (by decide)))
  have a2 : ¬ pv < (100 : Int32) := fun z => hlo (Int32.lt_iff_toInt_lt.mpr (Int.lt_of_lt_of_le (Int32.lt_iff_toInt_lt.mp z) (by decide)))
  have a3 : ¬ pv < (1000 : Int32) := fun z => hlo (Int32.lt_iff_toInt_lt.mpr (Int.lt_of_lt_of_le (Int32.lt_iff_toInt_lt.mp z) (by decide)))
  have a4 :  pv < (10000 : Int32) := hhi
  rw [own_size, if_neg (fun z => a1 ((own_neglt pv 10 hv0 (by decide)).mp z)), if_neg (fun z => a2 ((own_neglt pv 100 hv0 (by decide)).mp z)), if_neg (fun z => a3 ((own_neglt pv 1000 hv0 (by decide)).mp z)), if_pos ((own_neglt pv 10000 hv0 (by decide)).mpr a4)]
theorem own_size_5 (pv : Int32) (hv0 : ¬ pv < 0) (hlo : ¬ pv < 10000) (hhi : pv < 100000) : own_size pv = 5 := by
  have a1 : ¬ pv < (10 : Int32) := fun z => hlo (Int32.lt_iff_toInt_lt.mpr (Int.lt_of_lt_of_le (Int32.lt_iff_toInt_lt.mp z) (by decide)))
  have a2 : ¬ pv < (100 : Int32) := fun z => hlo (Int32.lt_iff_toInt_lt.mpr (Int.lt_of_lt_of_le (Int32.lt_iff_toInt_lt.mp z) (by decide)))
  have a3 : ¬ pv < (1000 : Int32) := fun z => hlo (Int32.lt_iff_toInt_lt.mpr (Int.lt_of_lt_of_le (Int32.lt_iff_toInt_lt.mp z) (by decide)))
  have a4 : ¬ pv < (10000 : Int32) := fun z => hlo (Int32.lt_iff_toInt_lt.mpr (Int.lt_of_lt_of_le (Int32.lt_iff_toInt_lt.mp z) (by decide)))
  have a5 :  pv < (100000 : Int32) := hhi
  rw [own_size, if_neg (fun z => a1 ((own_neglt pv 10 hv0 (by decide)).mp z)), if_neg (fun z => a2 ((own_neglt pv 100 hv0 (by decide)).mp z)), if_neg (fun z => a3 ((own_neglt pv 1000 hv0 (by decide)).mp z)), if_neg (fun z => a4 ((own_neglt pv 10000 hv0 (by decide)).mp z)), if_pos ((own_neglt pv 100000 hv0 (by decide)).mpr a5)]
theorem own_size_6 (pv : Int32) (hv0 : ¬ pv < 0) (hlo : ¬ pv < 100000) (hhi : pv < 1000000) : own_size pv = 6 := by
  have a1 : ¬ pv < (10 : Int32) := fun z => hlo (Int32.lt_iff_toInt_lt.mpr (Int.lt_of_lt_of_le (Int32.lt_iff_toInt_lt.mp z) (by decide)))
  have a2 : ¬ pv < (100 : Int32) := fun z => hlo (Int32.lt_iff_toInt_lt.mpr (Int.lt_of_lt_of_le (Int32.lt_iff_toInt_lt.mp z) (by decide)))
  have a3 : ¬ pv < (1000 : Int32) := fun z => hlo (Int32.lt_iff_toInt_lt.mpr (Int.lt_of_lt_of_le (Int32.lt_iff_toInt_lt.mp z) (by decide)))
  have a4 : ¬ pv < (10000 : Int32) := fun z => hlo (Int32.lt_iff_toInt_lt.mpr (Int.lt_of_lt_of_le (Int32.lt_iff_toInt_lt.mp z) (by decide)))
  have a5 : ¬ pv < (100000 : Int32) := fun z => hlo (Int32.lt_iff_toInt_lt.mpr (Int.lt_of_lt_of_le (Int32.lt_iff_toInt_lt.mp z) (by decide)))
  have a6 :  pv < (1000000 : Int32) := hhi
  rw [own_size, if_neg (fun z => a1 ((own_neglt pv 10 hv0 (by decide)).mp z)), if_neg (fun z => a2 ((own_neglt pv 100 hv0 (by decide)).mp z)), if_neg (fun z => a3 ((own_neglt pv 1000 hv0 (by decide)).mp z)), if_neg (fun z => a4 ((own_neglt pv 10000 hv0 (by decide)).mp z)), if_neg (fun z => a5 ((own_neglt pv 100000 hv0 (by decide)).mp z)), if_pos ((own_neglt pv 1000000 hv0 (by decide)).mpr a6)]
theorem own_size_7 (pv : Int32) (hv0 : ¬ pv < 0) (hlo : ¬ pv < 1000000) (hhi : pv < 10000000) : own_size pv = 7 := by
  have a1 : ¬ pv < (10 : Int32) := fun z => hlo (Int32.lt_iff_toInt_lt.mpr (Int.lt_of_lt_of_le (Int32.lt_iff_toInt_lt.mp z) (by decide)))
  have a2 : ¬ pv < (100 : Int32) := fun z => hlo (Int32.lt_iff_toInt_lt.mpr (Int.lt_of_lt_of_le (Int32.lt_iff_toInt_lt.mp z) (by decide)))
  have a3 : ¬ pv < (1000 : Int32) := fun z => hlo (Int32.lt_iff_toInt_lt.mpr (Int.lt_of_lt_of_le (Int32.lt_iff_toInt_lt.mp z) (by decide)))
  have a4 : ¬ pv < (10000 : Int32) := fun z => hlo (Int32.lt_iff_toInt_lt.mpr (Int.lt_of_lt_of_le (Int32.lt_iff_toInt_lt.mp z) (by decide)))
  have a5 : ¬ pv < (100000 : Int32) := fun z => hlo (Int32.lt_iff_toInt_lt.mpr (Int.lt_of_lt_of_le (Int32.lt_iff_toInt_lt.mp z) (by decide)))
  have a6 : ¬ pv < (1000000 : Int32) := fun z => hlo (Int32.lt_iff_toInt_lt.mpr (Int.lt_of_lt_of_le (Int32.lt_iff_toInt_lt.mp z) (by decide)))
  have a7 :  pv < (10000000 : Int32) := hhi
  rw [own_size, if_neg (fun z => a1 ((own_neglt pv 10 hv0 (by decide)).mp z)), if_neg (fun z => a2 ((own_neglt pv 100 hv0 (by decide)).mp z)), if_neg (fun z => a3 ((own_neglt pv 1000 hv0 (by decide)).mp z)), if_neg (fun z => a4 ((own_neglt pv 10000 hv0 (by decide)).mp z)), if_neg (fun z => a5 ((own_neglt pv 100000 hv0 (by decide)).mp z)), if_neg (fun z => a6 ((own_neglt pv 1000000 hv0 (by decide)).mp z)), if_pos ((own_neglt pv 10000000 hv0 (by decide)).mpr a7)]
theorem own_size_8 (pv : Int32) (hv0 : ¬ pv < 0) (hlo : ¬ pv < 10000000) (hhi : pv < 100000000) : own_size pv = 8 := by
  have a1 : ¬ pv < (10 : Int32) := fun z => hlo (Int32.lt_iff_toInt_lt.mpr (Int.lt_of_lt_of_le (Int32.lt_iff_toInt_lt.mp z) (by decide)))
  have a2 : ¬ pv < (100 : Int32) := fun z => hlo (Int32.lt_iff_toInt_lt.mpr (Int.lt_of_lt_of_le (Int32.lt_iff_toInt_lt.mp z) (by decide)))
  have a3 : ¬ pv < (1000 : Int32) := fun z => hlo (Int32.lt_iff_toInt_lt.mpr (Int.lt_of_lt_of_le (Int32.lt_iff_toInt_lt.mp z) (by decide)))
  have a4 : ¬ pv < (10000 : Int32) := fun z => hlo (Int32.lt_iff_toInt_lt.mpr (Int.lt_of_lt_of_le (Int32.lt_iff_toInt_lt.mp z) (by decide)))
  have a5 : ¬ pv < (100000 : Int32) := fun z => hlo (Int32.lt_iff_toInt_lt.mpr (Int.lt_of_lt_of_le (Int32.lt_iff_toInt_lt.mp z) (by decide)))
  have a6 : ¬ pv < (1000000 : Int32) := fun z => hlo (Int32.lt_iff_toInt_lt.mpr (Int.lt_of_lt_of_le (Int32.lt_iff_toInt_lt.mp z) (by decide)))
  have a7 : ¬ pv < (10000000 : Int32) := fun z => hlo (Int32.lt_iff_toInt_lt.mpr (Int.lt_of_lt_of_le (Int32.lt_iff_toInt_lt.mp z) (by decide)))
  have a8 :  pv < (100000000 : Int32) := hhi
  rw [own_size, if_neg (fun z => a1 ((own_neglt pv 10 hv0 (by decide)).mp z)), if_neg (fun z => a2 ((own_neglt pv 100 hv0 (by decide)).mp z)), if_neg (fun z => a3 ((own_neglt pv 1000 hv0 (by decide)).mp z)), if_neg (fun z => a4 ((own_neglt pv 10000 hv0 (by decide)).mp z)), if_neg (fun z => a5 ((own_neglt pv 100000 hv0 (by decide)).mp z)), if_neg (fun z => a6 ((own_neglt pv 1000000 hv0 (by decide)).mp z)), if_neg (fun z => a7 ((own_neglt pv 10000000 hv0 (by decide)).mp z)), if_pos ((own_neglt pv 100000000 hv0 (by decide)).mpr a8)]
theorem own_size_9 (pv : Int32) (hv0 : ¬ pv < 0) (hlo : ¬ pv < 100000000) (hhi : pv < 1000000000) : own_size pv = 9 := by
  have a1 : ¬ pv < (10 : Int32) := fun z => hlo (Int32.lt_iff_toInt_lt.mpr (Int.lt_of_lt_of_le (Int32.lt_iff_toInt_lt.mp z) (by decide)))
  have a2 : ¬ pv < (100 : Int32) := fun z => hlo (Int32.lt_iff_toInt_lt.mpr (Int.lt_of_lt_of_le (Int32.lt_iff_toInt_lt.mp z) (by decide)))
  have a3 : ¬ pv < (1000 : Int32) := fun z => hlo (Int32.lt_iff_toInt_lt.mpr (Int.lt_of_lt_of_le (Int32.lt_iff_toInt_lt.mp z) (by decide)))
  have a4 : ¬ pv < (10000 : Int32) := fun z => hlo (Int32.lt_iff_toInt_lt.mpr (Int.lt_of_lt_of_le (Int32.lt_iff_toInt_lt.mp z) (by decide)))
  have a5 : ¬ pv < (100000 : Int32) := fun z => hlo (Int32.lt_iff_toInt_lt.mpr (Int.lt_of_lt_of_le (Int32.lt_iff_toInt_lt.mp z) (by decide)))
  have a6 : ¬ pv < (1000000 : Int32) := fun z => hlo (Int32.lt_iff_toInt_lt.mpr (Int.lt_of_lt_of_le (Int32.lt_iff_toInt_lt.mp z) (by decide)))
  have a7 : ¬ pv < (10000000 : Int32) := fun z => hlo (Int32.lt_iff_toInt_lt.mpr (Int.lt_of_lt_of_le (Int32.lt_iff_toInt_lt.mp z) (by decide)))
  have a8 : ¬ pv < (100000000 : Int32) := fun z => hlo (Int32.lt_iff_toInt_lt.mpr (Int.lt_of_lt_of_le (Int32.lt_iff_toInt_lt.mp z) (by decide)))
  have a9 :  pv < (1000000000 : Int32) := hhi
  rw [own_size, if_neg (fun z => a1 ((own_neglt pv 10 hv0 (by decide)).mp z)), if_neg (fun z => a2 ((own_neglt pv 100 hv0 (by decide)).mp z)), if_neg (fun z => a3 ((own_neglt pv 1000 hv0 (by decide)).mp z)), if_neg (fun z => a4 ((own_neglt pv 10000 hv0 (by decide)).mp z)), if_neg (fun z => a5 ((own_neglt pv 100000 hv0 (by decide)).mp z)), if_neg (fun z => a6 ((own_neglt pv 1000000 hv0 (by decide)).mp z)), if_neg (fun z => a7 ((own_neglt pv 10000000 hv0 (by decide)).mp z)), if_neg (fun z => a8 ((own_neglt pv 100000000 hv0 (by decide)).mp z)), if_pos ((own_neglt pv 1000000000 hv0 (by decide)).mpr a9)]
theorem own_size_10 (pv : Int32) (hv0 : ¬ pv < 0) (hlo : ¬ pv < 1000000000) (hhi : pv = pv) : own_size pv = 10 := by
  have a1 : ¬ pv < (10 : Int32) := fun z => hlo (Int32.lt_iff_toInt_lt.mpr (Int.lt_of_lt_of_le (Int32.lt_iff_toInt_lt.mp z) (by decide)))
  have a2 : ¬ pv < (100 : Int32) := fun z => hlo (Int32.lt_iff_toInt_lt.mpr (Int.lt_of_lt_of_le (Int32.lt_iff_toInt_lt.mp z) (by decide)))
  have a3 : ¬ pv < (1000 : Int32) := fun z => hlo (Int32.lt_iff_toInt_lt.mpr (Int.lt_of_lt_of_le (Int32.lt_iff_toInt_lt.mp z) (by decide)))
  have a4 : ¬ pv < (10000 : Int32) := fun z => hlo (Int32.lt_iff_toInt_lt.mpr (Int.lt_of_lt_of_le (Int32.lt_iff_toInt_lt.mp z) (by decide)))
  have a5 : ¬ pv < (100000 : Int32) := fun z => hlo (Int32.lt_iff_toInt_lt.mpr (Int.lt_of_lt_of_le (Int32.lt_iff_toInt_lt.mp z) (by decide)))
  have a6 : ¬ pv < (1000000 : Int32) := fun z => hlo (Int32.lt_iff_toInt_lt.mpr (Int.lt_of_lt_of_le (Int32.lt_iff_toInt_lt.mp z) (by decide)))
  have a7 : ¬ pv < (10000000 : Int32) := fun z => hlo (Int32.lt_iff_toInt_lt.mpr (Int.lt_of_lt_of_le (Int32.lt_iff_toInt_lt.mp z) (by decide)))
  have a8 : ¬ pv < (100000000 : Int32) := fun z => hlo (Int32.lt_iff_toInt_lt.mpr (Int.lt_of_lt_of_le (Int32.lt_iff_toInt_lt.mp z) (by decide)))
  have a9 : ¬ pv < (1000000000 : Int32) := fun z => hlo (Int32.lt_iff_toInt_lt.mpr (Int.lt_of_lt_of_le (Int32.lt_iff_toInt_lt.mp z) (by decide)))
  rw [own_size, if_neg (fun z => a1 ((own_neglt pv 10 hv0 (by decide)).mp z)), if_neg (fun z => a2 ((own_neglt pv 100 hv0 (by decide)).mp z)), if_neg (fun z => a3 ((own_neglt pv 1000 hv0 (by decide)).mp z)), if_neg (fun z => a4 ((own_neglt pv 10000 hv0 (by decide)).mp z)), if_neg (fun z => a5 ((own_neglt pv 100000 hv0 (by decide)).mp z)), if_neg (fun z => a6 ((own_neglt pv 1000000 hv0 (by decide)).mp z)), if_neg (fun z => a7 ((own_neglt pv 10000000 hv0 (by decide)).mp z)), if_neg (fun z => a8 ((own_neglt pv 100000000 hv0 (by decide)).mp z)), if_neg (fun z => a9 ((own_neglt pv 1000000000 hv0 (by decide)).mp z))]
theorem own_lo {pv lo : Int32} {n : Int} (h : ¬ pv < lo) (hn : n ≤ lo.toInt) : n ≤ pv.toInt := by
  rw [Int32.lt_iff_toInt_lt] at h; omega
theorem own_last {pv q : Int32} {c : Int} (h0 : ¬ pv < 0) (hc : 0 < c) (hs : pv.toInt / c < 100) (hq : q.toInt = -(pv.toInt / c)) : (-q).toInt = (pv.toInt / c) % 100 := by
  have hn : 0 ≤ pv.toInt / c := Int.ediv_nonneg (own_nn h0) (Int.le_of_lt hc)
  generalize pv.toInt / c = k at *
  have h2 := c_ineg q; have b3 := (-q).le_toInt; have b5 := (-q).toInt_lt
  omega
theorem own_b25f {pv q : Int32} {c : Int} (h0 : ¬ pv < 0) (hc : 0 < c) (hq : q.toInt = -(pv.toInt / c)) (hl : c * 100 ≤ pv.toInt) : ¬ (-100 : Int32) < q := by
  rw [Int32.lt_iff_toInt_lt, show (-100 : Int32).toInt = -100 from rfl, hq]
  have : 100 ≤ pv.toInt / c := by rw [Int.le_ediv_iff_mul_le hc]; omega
  omega
theorem own_b25t {pv q : Int32} {c : Int} (hq : q.toInt = -(pv.toInt / c)) (hs : pv.toInt / c < 100) : (-100 : Int32) < q := by
  rw [Int32.lt_iff_toInt_lt, show (-100 : Int32).toInt = -100 from rfl, hq]; omega
theorem own_b88t {pv q : Int32} {c : Int} (hq : q.toInt = -(pv.toInt / c)) (hl : 10 ≤ pv.toInt / c) : q < (-9 : Int32) := by
  rw [Int32.lt_iff_toInt_lt, show (-9 : Int32).toInt = -9 from rfl, hq]; omega
theorem own_b88f {pv q : Int32} {c : Int} (hq : q.toInt = -(pv.toInt / c)) (hs : pv.toInt / c < 10) : ¬ q < (-9 : Int32) := by
  rw [Int32.lt_iff_toInt_lt, show (-9 : Int32).toInt = -9 from rfl, hq]; omega
theorem own_10 {pv lo : Int32} {c : Int} (h : ¬ pv < lo) (hc : 0 < c) (hn : c * 10 ≤ lo.toInt) : 10 ≤ pv.toInt / c := by
  rw [Int.le_ediv_iff_mul_le hc, Int.mul_comm]; exact own_lo h hn
theorem z20_0 : decode jdk_33_method_12_code 0 = .ok (.iload_n 1, 1) := by decide +kernel
theorem z20_1 : decode jdk_33_method_12_code 1 = .ok (.istore 5, 2) := by decide +kernel
theorem z20_3 : decode jdk_33_method_12_code 3 = .ok (.iload_n 0, 1) := by decide +kernel
theorem z20_4 : decode jdk_33_method_12_code 4 = .ok (.ifCond .ge 7, 3) := by decide +kernel
theorem z20_11 : decode jdk_33_method_12_code 11 = .ok (.iconst 0, 1) := by decide +kernel
theorem z20_12 : decode jdk_33_method_12_code 12 = .ok (.istore 6, 2) := by decide +kernel
theorem z20_14 : decode jdk_33_method_12_code 14 = .ok (.iload 6, 2) := by decide +kernel
theorem z20_16 : decode jdk_33_method_12_code 16 = .ok (.ifCond .ne 6, 3) := by decide +kernel
theorem z20_19 : decode jdk_33_method_12_code 19 = .ok (.iload_n 0, 1) := by decide +kernel
theorem z20_20 : decode jdk_33_method_12_code 20 = .ok (.ineg, 1) := by decide +kernel
theorem z20_21 : decode jdk_33_method_12_code 21 = .ok (.istore_n 0, 1) := by decide +kernel
theorem z20_22 : decode jdk_33_method_12_code 22 = .ok (.iload_n 0, 1) := by decide +kernel
theorem z20_23 : decode jdk_33_method_12_code 23 = .ok (.bipush (-100), 2) := by decide +kernel
theorem z20_25 : decode jdk_33_method_12_code 25 = .ok (.if_icmp .gt 47, 3) := by decide +kernel
theorem z20_72 : decode jdk_33_method_12_code 72 = .ok (.aload_n 2, 1) := by decide +kernel
theorem z20_73 : decode jdk_33_method_12_code 73 = .ok (.iinc 5 (-1), 3) := by decide +kernel
theorem z20_76 : decode jdk_33_method_12_code 76 = .ok (.iload 5, 2) := by decide +kernel
theorem z20_78 : decode jdk_33_method_12_code 78 = .ok (.getstatic 83, 3) := by decide +kernel
theorem z20_81 : decode jdk_33_method_12_code 81 = .ok (.iload_n 0, 1) := by decide +kernel
theorem z20_82 : decode jdk_33_method_12_code 82 = .ok (.ineg, 1) := by decide +kernel
theorem z20_83 : decode jdk_33_method_12_code 83 = .ok (.baload, 1) := by decide +kernel
theorem z20_84 : decode jdk_33_method_12_code 84 = .ok (.bastore, 1) := by decide +kernel
theorem z20_85 : decode jdk_33_method_12_code 85 = .ok (.iload_n 0, 1) := by decide +kernel
theorem z20_86 : decode jdk_33_method_12_code 86 = .ok (.bipush (-9), 2) := by decide +kernel
theorem z20_88 : decode jdk_33_method_12_code 88 = .ok (.if_icmp .ge 16, 3) := by decide +kernel
theorem z20_104 : decode jdk_33_method_12_code 104 = .ok (.iload 6, 2) := by decide +kernel
theorem z20_106 : decode jdk_33_method_12_code 106 = .ok (.ifCond .eq 12, 3) := by decide +kernel
theorem z20_118 : decode jdk_33_method_12_code 118 = .ok (.iload 5, 2) := by decide +kernel
theorem z20_120 : decode jdk_33_method_12_code 120 = .ok (.ireturn, 1) := by decide +kernel
theorem efGc1 (m : MethodId) (x0 : Int32) (x2 : Addr) : entryFrame m #[(.int x0), (.int 3), (.ref x2)] 7 = mkF m 0 #[iv x0, iv 3, rv x2, .unset, .unset, .unset, .unset] [] := by first | (simp [entryFrame, mkF, argsToLocals, Value.category]; done) | rfl
def QGc1 (Z : State) (pv : Int32) (ar : Addr) (r1 : Addr) (r2 : Addr) (kr1 : ClassId) (kr2 : ClassId) (kA : ClassId) (h0 : Heap) (n0 : Nat) (v : Option Value) (h : Heap) (L : List Loc) : Prop := v = some (.int 2) ∧ Fr n0 L ∧ Keep h0 h [ar] ∧ Arv Z h ar kA .byte (16 : Int32) [(.int 36), (.int 91), (.int (own_dig pv 1)), (.int 0), (.int 0), (.int 0), (.int 0), (.int 0), (.int 0), (.int 0), (.int 0), (.int 0), (.int 0), (.int 0), (.int 0), (.int 0)] (.int 0)
set_option maxRecDepth 65536 in
set_option maxHeartbeats 40000000 in
theorem rmGc1 (l : Launch) (Z : State) (a0 : Array Value) (hw : ∀ d ∈ tables_1, d.before a0 Z = true) (ws : List Jvm.Cond) (pv : Int32) (ar : Addr) (r1 : Addr) (r2 : Addr) (kr1 : ClassId) (kr2 : ClassId) (kA : ClassId) (h0 : Heap) (n0 : Nat) (Z0 : n0 ≤ h0.size) (g_ar : n0 ≤ ar) (Sr1 : Sta Z h0 "java/lang/Integer" "DigitOnes" "[B" (.ref r1)) (Sr2 : Sta Z h0 "java/lang/Integer" "DigitTens" "[B" (.ref r2)) (Vr1 : Arv Z h0 r1 kr1 .byte (100 : Int32) own_ones (.int 0)) (Vr2 : Arv Z h0 r2 kr2 .byte (100 : Int32) own_tens (.int 0)) (Va : Arv Z h0 ar kA .byte (16 : Int32) [(.int 36), (.int 91), (.int 0), (.int 0), (.int 0), (.int 0), (.int 0), (.int 0), (.int 0), (.int 0), (.int 0), (.int 0), (.int 0), (.int 0), (.int 0), (.int 0)] (.int 0)) (hv0 : ¬ pv < 0) (hlo : ¬ pv < 0) (hhi : pv < 10) (hr1 : r1 ≠ ar) (hr2 : r2 ≠ ar) :
    MetFree l (⟨"java/lang/Integer", "getChars", "(II[B)I"⟩ : MethodName) (head1 (Jvm.Cond.code (⟨"java/lang/Integer", "getChars", "(II[B)I"⟩ : MethodName) jdk_33_method_12_code 7 (some .int) :: ws) ({ frames := 0, cells := 0, slots := 0, locals := 0 } : Room)) (fun as' U => as' = #[(.int pv), (.int 3), (.ref ar)] ∧ Z.Warmed39 U.vm ∧ U.heap = h0) (fun _ _ _ _ _ => True) (fun _ U o U' => ∃ v L, o = .returned v ∧ QGc1 Z pv ar r1 r2 kr1 kr2 kA h0 n0 v U'.heap L ∧ FrameEnd U o U' L ({ frames := 0, cells := 0, slots := 0, locals := 0 } : Room).cells ({ frames := 0, cells := 0, slots := 0, locals := 0 } : Room).slots) := by
  refine MetFree.of_bodySF (plainFor_of_name pn_java_lang_Integer) hisR ?_
  intro p e s m args below meth c s₁ Bd hml0 hP hK
  obtain ⟨rfl, hZ, hh⟩ := hP
  have hx := Bd.exec
  have hby := Bd.bytes
  have hml : c.maxLocals = 7 := hml0
  have hown : s.vm.findClass "java/lang/Integer" = some m.cls := findClass_of_methodNamed Bd.named
  have hnm := (name_of_methodNamed Bd.named Bd.method).1
  have X0 : Stand p l e ({ frames := 0, cells := 0, slots := 0, locals := 0 } : Room) s m #[(.int pv), (.int 3), (.ref ar)] below meth c s₁ [] 0 0 := Stand.of_body Bd
  have e0 : s₁.heap = h0 := by rw [← hh, Bd.state]; rfl
  have N0 := Fr.nil n0
  show Go p e below s (fun v h L => QGc1 Z pv ar r1 r2 kr1 kr2 kA h0 n0 v h L) 0 0 _
  refine Go.pull (V := s₁.setTop (mkF m 0 #[iv pv, iv 3, rv ar, .unset, .unset, .unset, .unset] [])) (fun t k => castTop (efGc1 m pv ar) k) ?_
  refine Go.pull (V := s₁.setTop (mkF m 12 #[iv pv, iv 3, rv ar, .unset, .unset, iv 3, .unset] [(.int 0)])) (fun t k => XS.iloadN X0.here hx rfl (hb hby z20_0) rfl  (XS.istore X0.here hx rfl (hb hby z20_1) rfl (l' := #[iv pv, iv 3, rv ar, .unset, .unset, iv 3, .unset]) rfl (XS.iloadN X0.here hx rfl (hb hby z20_3) rfl  (XS.ifYes X0.here hx rfl (pc0 := 4) (pc' := 11) rfl (hb hby z20_4) rfl (XT.i0_ge_t hv0) (by decide) (by decide) (XS.iconst X0.here hx rfl (hb hby z20_11) k))))) ?_
  refine Go.pull (V := s₁.setTop (mkF m 21 #[iv pv, iv 3, rv ar, .unset, .unset, iv 3, iv 0] [(.int (-pv))])) (fun t k => XS.istore X0.here hx rfl (hb hby z20_12) rfl (l' := #[iv pv, iv 3, rv ar, .unset, .unset, iv 3, iv 0]) rfl (XS.iload X0.here hx rfl (hb hby z20_14) rfl  (XS.ifNo X0.here hx rfl (hb hby z20_16) rfl (XT.i0_ne_f (by decide)) (XS.iloadN X0.here hx rfl (hb hby z20_19) rfl  (XS.ineg X0.here hx rfl (hb hby z20_20) rfl k))))) ?_
  refine Go.pull (V := s₁.setTop (mkF m 22 #[iv (-pv), iv 3, rv ar, .unset, .unset, iv 3, iv 0] [])) (fun t k => XS.istoreN X0.here hx rfl (hb hby z20_21) rfl (l' := #[iv (-pv), iv 3, rv ar, .unset, .unset, iv 3, iv 0]) rfl k) ?_
  generalize hg0 : (-pv) = q0
  have hq0 : q0.toInt = -(pv.toInt / 1) := hg0 ▸ own_turn0 hv0
  refine Go.pull (V := s₁.setTop (mkF m 76 #[iv q0, iv 3, rv ar, .unset, .unset, iv 2, iv 0] [(.ref ar)])) (fun t k => XS.iloadN X0.here hx rfl (hb hby z20_22) rfl  (XS.bipush X0.here hx rfl (hb hby z20_23) (XS.icmpYes X0.here hx rfl (pc0 := 25) (pc' := 72) rfl (hb hby z20_25) rfl (XT.ii_gt_t (own_b25t hq0 (by have := own_nn hv0; have := Int32.lt_iff_toInt_lt.mp hhi; simp only [show (10 : Int32).toInt = 10 from rfl] at this; omega))) (by decide) (by decide) (XS.aloadN X0.here hx rfl (hb hby z20_72) rfl rfl (XS.iinc X0.here hx rfl (hb hby z20_73) rfl (l' := #[iv q0, iv 3, rv ar, .unset, .unset, iv 2, iv 0]) rfl k))))) ?_
  refine Go.pull (V := s₁.setTop (mkF m 78 #[iv q0, iv 3, rv ar, .unset, .unset, iv 2, iv 0] [(.int 2), (.ref ar)])) (fun t k => XS.iload X0.here hx rfl (hb hby z20_76) rfl  k) ?_
  obtain ⟨T1, X1, e1, st1⟩ := getS2 X0 hx hZ hown (host := "") (Or.inl (hw _ (List.mem_of_getElem? (i := 152) rfl))) Via.refl e0 Sr1 (g := (mkF m 78 #[iv q0, iv 3, rv ar, .unset, .unset, iv 2, iv 0] [(.int 2), (.ref ar)])) rfl (hb hby z20_78)
  refine Go.pull (V := T1.setTop (mkF m 81 #[iv q0, iv 3, rv ar, .unset, .unset, iv 2, iv 0] [(.ref r1), (.int 2), (.ref ar)])) st1 ?_
  refine Go.pull (V := T1.setTop (mkF m 83 #[iv q0, iv 3, rv ar, .unset, .unset, iv 2, iv 0] [(.int (-q0)), (.ref r1), (.int 2), (.ref ar)])) (fun t k => XS.iloadN X1.here hx rfl (hb hby z20_81) rfl  (XS.ineg X1.here hx rfl (hb hby z20_82) rfl k)) ?_
  have hr0' : (-q0).toInt = (pv.toInt / 1) % 100 := own_last hv0 (by decide) (by have := own_nn hv0; have := Int32.lt_iff_toInt_lt.mp hhi; simp only [show (10 : Int32).toInt = 10 from rfl] at this; omega) hq0
  obtain ⟨cl2, Ar2, q2, S2, M2, Hs2, G2⟩ := id Vr1
  have hin2 : ¬ ((-q0) < 0 ∨ cl2.slots.size ≤ ((-q0)).toNatClampNeg) := inb_of S2 (own_in hr0')
  have hat2 : cl2.slots[((-q0)).toNatClampNeg]? = some (.int (own_dig pv 1)) := Has.at Hs2 hin2 (own_one hv0 (by decide : (0 : Int) < 1) (by decide) hr0')
  refine Go.pull (V := T1.setTop (mkF m 84 #[iv q0, iv 3, rv ar, .unset, .unset, iv 2, iv 0] [(.int (own_dig pv 1)), (.int 2), (.ref ar)])) (fun t k => X1.baloadBytes hx (j := (-q0)) (v := (.int (own_dig pv 1))) (by rw [e1]; exact Ar2.1) (State.isArrayOf_alike hZ.alike Ar2.2.1) Ar2.2.2 hin2 hat2 (g := (mkF m 83 #[iv q0, iv 3, rv ar, .unset, .unset, iv 2, iv 0] [(.int (-q0)), (.ref r1), (.int 2), (.ref ar)])) rfl rfl (hb hby z20_83) _ k) ?_
  obtain ⟨cl3, Ar3, q3, S3, M3, Hs3, G3⟩ := id Va
  have hin3 : ¬ ((2 : Int32) < 0 ∨ cl3.slots.size ≤ ((2 : Int32)).toNatClampNeg) := inb_of S3 ⟨by decide, by decide⟩
  obtain ⟨T4, h4, X4, e4, W4, st4⟩ := stB X1 hx hZ e1 Ar3 (j := (2 : Int32)) hin3 (g := (mkF m 84 #[iv q0, iv 3, rv ar, .unset, .unset, iv 2, iv 0] [(.int (own_dig pv 1)), (.int 2), (.ref ar)])) rfl rfl (hb hby z20_84)
  rw [own_narb (pv := pv) (pc := 1) (c := 1) hv0 (by decide) (by decide)] at W4
  have V4 : Arv Z h4 ar kA .byte (16 : Int32) [(.int 36), (.int 91), (.int (own_dig pv 1)), (.int 0), (.int 0), (.int 0), (.int 0), (.int 0), (.int 0), (.int 0), (.int 0), (.int 0), (.int 0), (.int 0), (.int 0), (.int 0)] (.int 0) := Arv.set Ar3 q3 S3 M3 Hs3 G3 (own_narb (pv := pv) (pc := 1) (c := 1) hv0 (by decide) (by decide) ▸ fits_nar_byte _) W4 2 rfl (Nat.le_of_ble_eq_true rfl)
  have K4 : Keep h0 h4 [ar] := (Keep.refl h0 [ar]).wr W4 (Or.inl (List.mem_of_getElem? (i := 0) rfl))
  have N4 := Fr.snoc X4 N0 g_ar
  refine Go.pull (V := T4.setTop (mkF m 85 #[iv q0, iv 3, rv ar, .unset, .unset, iv 2, iv 0] [])) st4 ?_
  refine Go.pull (V := T4.setTop (mkF m 118 #[iv q0, iv 3, rv ar, .unset, .unset, iv 2, iv 0] [])) (fun t k => XS.iloadN X4.here hx rfl (hb hby z20_85) rfl  (XS.bipush X4.here hx rfl (hb hby z20_86) (XS.icmpYes X4.here hx rfl (pc0 := 88) (pc' := 104) rfl (hb hby z20_88) rfl (XT.ii_ge_t (own_b88f hq0 (by have := own_nn hv0; have := Int32.lt_iff_toInt_lt.mp hhi; simp only [show (10 : Int32).toInt = 10 from rfl] at this; omega))) (by decide) (by decide) (XS.iload X4.here hx rfl (hb hby z20_104) rfl  (XS.ifYes X4.here hx rfl (pc0 := 106) (pc' := 118) rfl (hb hby z20_106) rfl (XT.i0_eq_t (by decide)) (by decide) (by decide) k))))) ?_
  refine Go.pull (V := T4.setTop (mkF m 120 #[iv q0, iv 3, rv ar, .unset, .unset, iv 2, iv 0] [(.int 2)])) (fun t k => XS.iload X4.here hx rfl (hb hby z20_118) rfl  k) ?_
  exact Go.retI X4 hx Bd.notSynchronized Bd.returns (hb hby z20_120) (by rw [e4]; exact ⟨rfl, N4, K4, V4⟩) (by decide) (by decide)
theorem z20_91 : decode jdk_33_method_12_code 91 = .ok (.aload_n 2, 1) := by decide +kernel
theorem z20_92 : decode jdk_33_method_12_code 92 = .ok (.iinc 5 (-1), 3) := by decide +kernel
theorem z20_95 : decode jdk_33_method_12_code 95 = .ok (.iload 5, 2) := by decide +kernel
theorem z20_97 : decode jdk_33_method_12_code 97 = .ok (.getstatic 87, 3) := by decide +kernel
theorem z20_100 : decode jdk_33_method_12_code 100 = .ok (.iload_n 0, 1) := by decide +kernel
theorem z20_101 : decode jdk_33_method_12_code 101 = .ok (.ineg, 1) := by decide +kernel
theorem z20_102 : decode jdk_33_method_12_code 102 = .ok (.baload, 1) := by decide +kernel
theorem z20_103 : decode jdk_33_method_12_code 103 = .ok (.bastore, 1) := by decide +kernel
theorem efGc2 (m : MethodId) (x0 : Int32) (x2 : Addr) : entryFrame m #[(.int x0), (.int 4), (.ref x2)] 7 = mkF m 0 #[iv x0, iv 4, rv x2, .unset, .unset, .unset, .unset] [] := by first | (simp [entryFrame, mkF, argsToLocals, Value.category]; done) | rfl
def QGc2 (Z : State) (pv : Int32) (ar : Addr) (r1 : Addr) (r2 : Addr) (kr1 : ClassId) (kr2 : ClassId) (kA : ClassId) (h0 : Heap) (n0 : Nat) (v : Option Value) (h : Heap) (L : List Loc) : Prop := v = some (.int 2) ∧ Fr n0 L ∧ Keep h0 h [ar] ∧ Arv Z h ar kA .byte (16 : Int32) [(.int 36), (.int 91), (.int (own_dig pv 10)), (.int (own_dig pv 1)), (.int 0), (.int 0), (.int 0), (.int 0), (.int 0), (.int 0), (.int 0), (.int 0), (.int 0), (.int 0), (.int 0), (.int 0)] (.int 0)
set_option maxRecDepth 65536 in
set_option maxHeartbeats 40000000 in
theorem rmGc2 (l : Launch) (Z : State) (a0 : Array Value) (hw : ∀ d ∈ tables_1, d.before a0 Z = true) (ws : List Jvm.Cond) (pv : Int32) (ar : Addr) (r1 : Addr) (r2 : Addr) (kr1 : ClassId) (kr2 : ClassId) (kA : ClassId) (h0 : Heap) (n0 : Nat) (Z0 : n0 ≤ h0.size) (g_ar : n0 ≤ ar) (Sr1 : Sta Z h0 "java/lang/Integer" "DigitOnes" "[B" (.ref r1)) (Sr2 : Sta Z h0 "java/lang/Integer" "DigitTens" "[B" (.ref r2)) (Vr1 : Arv Z h0 r1 kr1 .byte (100 : Int32) own_ones (.int 0)) (Vr2 : Arv Z h0 r2 kr2 .byte (100 : Int32) own_tens (.int 0)) (Va : Arv Z h0 ar kA .byte (16 : Int32) [(.int 36), (.int 91), (.int 0), (.int 0), (.int 0), (.int 0), (.int 0), (.int 0), (.int 0), (.int 0), (.int 0), (.int 0), (.int 0), (.int 0), (.int 0), (.int 0)] (.int 0)) (hv0 : ¬ pv < 0) (hlo : ¬ pv < 10) (hhi : pv < 100) (hr1 : r1 ≠ ar) (hr2 : r2 ≠ ar) :
    MetFree l (⟨"java/lang/Integer", "getChars", "(II[B)I"⟩ : MethodName) (head1 (Jvm.Cond.code (⟨"java/lang/Integer", "getChars", "(II[B)I"⟩ : MethodName) jdk_33_method_12_code 7 (some .int) :: ws) ({ frames := 0, cells := 0, slots := 0, locals := 0 } : Room)) (fun as' U => as' = #[(.int pv), (.int 4), (.ref ar)] ∧ Z.Warmed39 U.vm ∧ U.heap = h0) (fun _ _ _ _ _ => True) (fun _ U o U' => ∃ v L, o = .returned v ∧ QGc2 Z pv ar r1 r2 kr1 kr2 kA h0 n0 v U'.heap L ∧ FrameEnd U o U' L ({ frames := 0, cells := 0, slots := 0, locals := 0 } : Room).cells ({ frames := 0, cells := 0, slots := 0, locals := 0 } : Room).slots) := by
  refine MetFree.of_bodySF (plainFor_of_name pn_java_lang_Integer) hisR ?_
  intro p e s m args below meth c s₁ Bd hml0 hP hK
  obtain ⟨rfl, hZ, hh⟩ := hP
  have hx := Bd.exec
  have hby := Bd.bytes
  have hml : c.maxLocals = 7 := hml0
  have hown : s.vm.findClass "java/lang/Integer" = some m.cls := findClass_of_methodNamed Bd.named
  have hnm := (name_of_methodNamed Bd.named Bd.method).1
  have X0 : Stand p l e ({ frames := 0, cells := 0, slots := 0, locals := 0 } : Room) s m #[(.int pv), (.int 4), (.ref ar)] below meth c s₁ [] 0 0 := Stand.of_body Bd
  have e0 : s₁.heap = h0 := by rw [← hh, Bd.state]; rfl
  have N0 := Fr.nil n0
  show Go p e below s (fun v h L => QGc2 Z pv ar r1 r2 kr1 kr2 kA h0 n0 v h L) 0 0 _
  refine Go.pull (V := s₁.setTop (mkF m 0 #[iv pv, iv 4, rv ar, .unset, .unset, .unset, .unset] [])) (fun t k => castTop (efGc2 m pv ar) k) ?_
  refine Go.pull (V := s₁.setTop (mkF m 12 #[iv pv, iv 4, rv ar, .unset, .unset, iv 4, .unset] [(.int 0)])) (fun t k => XS.iloadN X0.here hx rfl (hb hby z20_0) rfl  (XS.istore X0.here hx rfl (hb hby z20_1) rfl (l' := #[iv pv, iv 4, rv ar, .unset, .unset, iv 4, .unset]) rfl (XS.iloadN X0.here hx rfl (hb hby z20_3) rfl  (XS.ifYes X0.here hx rfl (pc0 := 4) (pc' := 11) rfl (hb hby z20_4) rfl (XT.i0_ge_t hv0) (by decide) (by decide) (XS.iconst X0.here hx rfl (hb hby z20_11) k))))) ?_
  refine Go.pull (V := s₁.setTop (mkF m 21 #[iv pv, iv 4, rv ar, .unset, .unset, iv 4, iv 0] [(.int (-pv))])) (fun t k => XS.istore X0.here hx rfl (hb hby z20_12) rfl (l' := #[iv pv, iv 4, rv ar, .unset, .unset, iv 4, iv 0]) rfl (XS.iload X0.here hx rfl (hb hby z20_14) rfl  (XS.ifNo X0.here hx rfl (hb hby z20_16) rfl (XT.i0_ne_f (by decide)) (XS.iloadN X0.here hx rfl (hb hby z20_19) rfl  (XS.ineg X0.here hx rfl (hb hby z20_20) rfl k))))) ?_
  refine Go.pull (V := s₁.setTop (mkF m 22 #[iv (-pv), iv 4, rv ar, .unset, .unset, iv 4, iv 0] [])) (fun t k => XS.istoreN X0.here hx rfl (hb hby z20_21) rfl (l' := #[iv (-pv), iv 4, rv ar, .unset, .unset, iv 4, iv 0]) rfl k) ?_
  generalize hg0 : (-pv) = q0
  have hq0 : q0.toInt = -(pv.toInt / 1) := hg0 ▸ own_turn0 hv0
  refine Go.pull (V := s₁.setTop (mkF m 76 #[iv q0, iv 4, rv ar, .unset, .unset, iv 3, iv 0] [(.ref ar)])) (fun t k => XS.iloadN X0.here hx rfl (hb hby z20_22) rfl  (XS.bipush X0.here hx rfl (hb hby z20_23) (XS.icmpYes X0.here hx rfl (pc0 := 25) (pc' := 72) rfl (hb hby z20_25) rfl (XT.ii_gt_t (own_b25t hq0 (by have := own_nn hv0; have := Int32.lt_iff_toInt_lt.mp hhi; simp only [show (100 : Int32).toInt = 100 from rfl] at this; omega))) (by decide) (by decide) (XS.aloadN X0.here hx rfl (hb hby z20_72) rfl rfl (XS.iinc X0.here hx rfl (hb hby z20_73) rfl (l' := #[iv q0, iv 4, rv ar, .unset, .unset, iv 3, iv 0]) rfl k))))) ?_
  refine Go.pull (V := s₁.setTop (mkF m 78 #[iv q0, iv 4, rv ar, .unset, .unset, iv 3, iv 0] [(.int 3), (.ref ar)])) (fun t k => XS.iload X0.here hx rfl (hb hby z20_76) rfl  k) ?_
  obtain ⟨T1, X1, e1, st1⟩ := getS2 X0 hx hZ hown (host := "") (Or.inl (hw _ (List.mem_of_getElem? (i := 152) rfl))) Via.refl e0 Sr1 (g := (mkF m 78 #[iv q0, iv 4, rv ar, .unset, .unset, iv 3, iv 0] [(.int 3), (.ref ar)])) rfl (hb hby z20_78)
  refine Go.pull (V := T1.setTop (mkF m 81 #[iv q0, iv 4, rv ar, .unset, .unset, iv 3, iv 0] [(.ref r1), (.int 3), (.ref ar)])) st1 ?_
  refine Go.pull (V := T1.setTop (mkF m 83 #[iv q0, iv 4, rv ar, .unset, .unset, iv 3, iv 0] [(.int (-q0)), (.ref r1), (.int 3), (.ref ar)])) (fun t k => XS.iloadN X1.here hx rfl (hb hby z20_81) rfl  (XS.ineg X1.here hx rfl (hb hby z20_82) rfl k)) ?_
  have hr0' : (-q0).toInt = (pv.toInt / 1) % 100 := own_last hv0 (by decide) (by have := own_nn hv0; have := Int32.lt_iff_toInt_lt.mp hhi; simp only [show (100 : Int32).toInt = 100 from rfl] at this; omega) hq0
  obtain ⟨cl2, Ar2, q2, S2, M2, Hs2, G2⟩ := id Vr1
  have hin2 : ¬ ((-q0) < 0 ∨ cl2.slots.size ≤ ((-q0)).toNatClampNeg) := inb_of S2 (own_in hr0')
  have hat2 : cl2.slots[((-q0)).toNatClampNeg]? = some (.int (own_dig pv 1)) := Has.at Hs2 hin2 (own_one hv0 (by decide : (0 : Int) < 1) (by decide) hr0')
  refine Go.pull (V := T1.setTop (mkF m 84 #[iv q0, iv 4, rv ar, .unset, .unset, iv 3, iv 0] [(.int (own_dig pv 1)), (.int 3), (.ref ar)])) (fun t k => X1.baloadBytes hx (j := (-q0)) (v := (.int (own_dig pv 1))) (by rw [e1]; exact Ar2.1) (State.isArrayOf_alike hZ.alike Ar2.2.1) Ar2.2.2 hin2 hat2 (g := (mkF m 83 #[iv q0, iv 4, rv ar, .unset, .unset, iv 3, iv 0] [(.int (-q0)), (.ref r1), (.int 3), (.ref ar)])) rfl rfl (hb hby z20_83) _ k) ?_
  obtain ⟨cl3, Ar3, q3, S3, M3, Hs3, G3⟩ := id Va
  have hin3 : ¬ ((3 : Int32) < 0 ∨ cl3.slots.size ≤ ((3 : Int32)).toNatClampNeg) := inb_of S3 ⟨by decide, by decide⟩
  obtain ⟨T4, h4, X4, e4, W4, st4⟩ := stB X1 hx hZ e1 Ar3 (j := (3 : Int32)) hin3 (g := (mkF m 84 #[iv q0, iv 4, rv ar, .unset, .unset, iv 3, iv 0] [(.int (own_dig pv 1)), (.int 3), (.ref ar)])) rfl rfl (hb hby z20_84)
  rw [own_narb (pv := pv) (pc := 1) (c := 1) hv0 (by decide) (by decide)] at W4
  have V4 : Arv Z h4 ar kA .byte (16 : Int32) [(.int 36), (.int 91), (.int 0), (.int (own_dig pv 1)), (.int 0), (.int 0), (.int 0), (.int 0), (.int 0), (.int 0), (.int 0), (.int 0), (.int 0), (.int 0), (.int 0), (.int 0)] (.int 0) := Arv.set Ar3 q3 S3 M3 Hs3 G3 (own_narb (pv := pv) (pc := 1) (c := 1) hv0 (by decide) (by decide) ▸ fits_nar_byte _) W4 3 rfl (Nat.le_of_ble_eq_true rfl)
  have K4 : Keep h0 h4 [ar] := (Keep.refl h0 [ar]).wr W4 (Or.inl (List.mem_of_getElem? (i := 0) rfl))
  have N4 := Fr.snoc X4 N0 g_ar
  refine Go.pull (V := T4.setTop (mkF m 85 #[iv q0, iv 4, rv ar, .unset, .unset, iv 3, iv 0] [])) st4 ?_
  refine Go.pull (V := T4.setTop (mkF m 95 #[iv q0, iv 4, rv ar, .unset, .unset, iv 2, iv 0] [(.ref ar)])) (fun t k => XS.iloadN X4.here hx rfl (hb hby z20_85) rfl  (XS.bipush X4.here hx rfl (hb hby z20_86) (XS.icmpNo X4.here hx rfl (hb hby z20_88) rfl (XT.ii_ge_f (own_b88t hq0 (own_10 hlo (by decide) (by decide)))) (XS.aloadN X4.here hx rfl (hb hby z20_91) rfl rfl (XS.iinc X4.here hx rfl (hb hby z20_92) rfl (l' := #[iv q0, iv 4, rv ar, .unset, .unset, iv 2, iv 0]) rfl k))))) ?_
  refine Go.pull (V := T4.setTop (mkF m 97 #[iv q0, iv 4, rv ar, .unset, .unset, iv 2, iv 0] [(.int 2), (.ref ar)])) (fun t k => XS.iload X4.here hx rfl (hb hby z20_95) rfl  k) ?_
  obtain ⟨T5, X5, e5, st5⟩ := getS2 X4 hx hZ hown (host := "") (Or.inl (hw _ (List.mem_of_getElem? (i := 153) rfl))) Via.refl e4 (Sr2.wr W4) (g := (mkF m 97 #[iv q0, iv 4, rv ar, .unset, .unset, iv 2, iv 0] [(.int 2), (.ref ar)])) rfl (hb hby z20_97)
  refine Go.pull (V := T5.setTop (mkF m 100 #[iv q0, iv 4, rv ar, .unset, .unset, iv 2, iv 0] [(.ref r2), (.int 2), (.ref ar)])) st5 ?_
  refine Go.pull (V := T5.setTop (mkF m 102 #[iv q0, iv 4, rv ar, .unset, .unset, iv 2, iv 0] [(.int (-q0)), (.ref r2), (.int 2), (.ref ar)])) (fun t k => XS.iloadN X5.here hx rfl (hb hby z20_100) rfl  (XS.ineg X5.here hx rfl (hb hby z20_101) rfl k)) ?_
  obtain ⟨cl6, Ar6, q6, S6, M6, Hs6, G6⟩ := id (Vr2.other W4 hr2)
  have hin6 : ¬ ((-q0) < 0 ∨ cl6.slots.size ≤ ((-q0)).toNatClampNeg) := inb_of S6 (own_in hr0')
  have hat6 : cl6.slots[((-q0)).toNatClampNeg]? = some (.int (own_dig pv 10)) := Has.at Hs6 hin6 (own_ten hv0 (by decide : (0 : Int) < 1) rfl (by decide) hr0')
  refine Go.pull (V := T5.setTop (mkF m 103 #[iv q0, iv 4, rv ar, .unset, .unset, iv 2, iv 0] [(.int (own_dig pv 10)), (.int 2), (.ref ar)])) (fun t k => X5.baloadBytes hx (j := (-q0)) (v := (.int (own_dig pv 10))) (by rw [e5]; exact Ar6.1) (State.isArrayOf_alike hZ.alike Ar6.2.1) Ar6.2.2 hin6 hat6 (g := (mkF m 102 #[iv q0, iv 4, rv ar, .unset, .unset, iv 2, iv 0] [(.int (-q0)), (.ref r2), (.int 2), (.ref ar)])) rfl rfl (hb hby z20_102) _ k) ?_
  obtain ⟨cl7, Ar7, q7, S7, M7, Hs7, G7⟩ := id V4
  have hin7 : ¬ ((2 : Int32) < 0 ∨ cl7.slots.size ≤ ((2 : Int32)).toNatClampNeg) := inb_of S7 ⟨by decide, by decide⟩
  obtain ⟨T8, h8, X8, e8, W8, st8⟩ := stB X5 hx hZ e5 Ar7 (j := (2 : Int32)) hin7 (g := (mkF m 103 #[iv q0, iv 4, rv ar, .unset, .unset, iv 2, iv 0] [(.int (own_dig pv 10)), (.int 2), (.ref ar)])) rfl rfl (hb hby z20_103)
  rw [own_narb (pv := pv) (pc := 10) (c := 10) hv0 (by decide) (by decide)] at W8
  have V8 : Arv Z h8 ar kA .byte (16 : Int32) [(.int 36), (.int 91), (.int (own_dig pv 10)), (.int (own_dig pv 1)), (.int 0), (.int 0), (.int 0), (.int 0), (.int 0), (.int 0), (.int 0), (.int 0), (.int 0), (.int 0), (.int 0), (.int 0)] (.int 0) := Arv.set Ar7 q7 S7 M7 Hs7 G7 (own_narb (pv := pv) (pc := 10) (c := 10) hv0 (by decide) (by decide) ▸ fits_nar_byte _) W8 2 rfl (Nat.le_of_ble_eq_true rfl)
  have K8 : Keep h0 h8 [ar] := K4.wr W8 (Or.inl (List.mem_of_getElem? (i := 0) rfl))
  have N8 := Fr.snoc X8 N4 g_ar
  refine Go.pull (V := T8.setTop (mkF m 104 #[iv q0, iv 4, rv ar, .unset, .unset, iv 2, iv 0] [])) st8 ?_
  refine Go.pull (V := T8.setTop (mkF m 120 #[iv q0, iv 4, rv ar, .unset, .unset, iv 2, iv 0] [(.int 2)])) (fun t k => XS.iload X8.here hx rfl (hb hby z20_104) rfl  (XS.ifYes X8.here hx rfl (pc0 := 106) (pc' := 118) rfl (hb hby z20_106) rfl (XT.i0_eq_t (by decide)) (by decide) (by decide) (XS.iload X8.here hx rfl (hb hby z20_118) rfl  k))) ?_
  exact Go.retI X8 hx Bd.notSynchronized Bd.returns (hb hby z20_120) (by rw [e8]; exact ⟨rfl, N8, K8, V8⟩) (by decide) (by decide)
theorem z20_28 : decode jdk_33_method_12_code 28 = .ok (.iload_n 0, 1) := by decide +kernel
theorem z20_29 : decode jdk_33_method_12_code 29 = .ok (.bipush 100, 2) := by decide +kernel
theorem z20_31 : decode jdk_33_method_12_code 31 = .ok (.idiv, 1) := by decide +kernel
theorem z20_32 : decode jdk_33_method_12_code 32 = .ok (.istore_n 3, 1) := by decide +kernel
theorem z20_33 : decode jdk_33_method_12_code 33 = .ok (.iload_n 3, 1) := by decide +kernel
theorem z20_34 : decode jdk_33_method_12_code 34 = .ok (.bipush 100, 2) := by decide +kernel
theorem z20_36 : decode jdk_33_method_12_code 36 = .ok (.imul, 1) := by decide +kernel
theorem z20_37 : decode jdk_33_method_12_code 37 = .ok (.iload_n 0, 1) := by decide +kernel
theorem z20_38 : decode jdk_33_method_12_code 38 = .ok (.isub, 1) := by decide +kernel
theorem z20_39 : decode jdk_33_method_12_code 39 = .ok (.istore 4, 2) := by decide +kernel
theorem z20_41 : decode jdk_33_method_12_code 41 = .ok (.iload_n 3, 1) := by decide +kernel
theorem z20_42 : decode jdk_33_method_12_code 42 = .ok (.istore_n 0, 1) := by decide +kernel
theorem z20_43 : decode jdk_33_method_12_code 43 = .ok (.aload_n 2, 1) := by decide +kernel
theorem z20_44 : decode jdk_33_method_12_code 44 = .ok (.iinc 5 (-1), 3) := by decide +kernel
theorem z20_47 : decode jdk_33_method_12_code 47 = .ok (.iload 5, 2) := by decide +kernel
theorem z20_49 : decode jdk_33_method_12_code 49 = .ok (.getstatic 83, 3) := by decide +kernel
theorem z20_52 : decode jdk_33_method_12_code 52 = .ok (.iload 4, 2) := by decide +kernel
theorem z20_54 : decode jdk_33_method_12_code 54 = .ok (.baload, 1) := by decide +kernel
theorem z20_55 : decode jdk_33_method_12_code 55 = .ok (.bastore, 1) := by decide +kernel
theorem z20_56 : decode jdk_33_method_12_code 56 = .ok (.aload_n 2, 1) := by decide +kernel
theorem z20_57 : decode jdk_33_method_12_code 57 = .ok (.iinc 5 (-1), 3) := by decide +kernel
theorem z20_60 : decode jdk_33_method_12_code 60 = .ok (.iload 5, 2) := by decide +kernel
theorem z20_62 : decode jdk_33_method_12_code 62 = .ok (.getstatic 87, 3) := by decide +kernel
theorem z20_65 : decode jdk_33_method_12_code 65 = .ok (.iload 4, 2) := by decide +kernel
theorem z20_67 : decode jdk_33_method_12_code 67 = .ok (.baload, 1) := by decide +kernel
theorem z20_68 : decode jdk_33_method_12_code 68 = .ok (.bastore, 1) := by decide +kernel
theorem z20_69 : decode jdk_33_method_12_code 69 = .ok (.goto (-47), 3) := by decide +kernel
theorem efGc3 (m : MethodId) (x0 : Int32) (x2 : Addr) : entryFrame m #[(.int x0), (.int 5), (.ref x2)] 7 = mkF m 0 #[iv x0, iv 5, rv x2, .unset, .unset, .unset, .unset] [] := by first | (simp [entryFrame, mkF, argsToLocals, Value.category]; done) | rfl
def QGc3 (Z : State) (pv : Int32) (ar : Addr) (r1 : Addr) (r2 : Addr) (kr1 : ClassId) (kr2 : ClassId) (kA : ClassId) (h0 : Heap) (n0 : Nat) (v : Option Value) (h : Heap) (L : List Loc) : Prop := v = some (.int 2) ∧ Fr n0 L ∧ Keep h0 h [ar] ∧ Arv Z h ar kA .byte (16 : Int32) [(.int 36), (.int 91), (.int (own_dig pv 100)), (.int (own_dig pv 10)), (.int (own_dig pv 1)), (.int 0), (.int 0), (.int 0), (.int 0), (.int 0), (.int 0), (.int 0), (.int 0), (.int 0), (.int 0), (.int 0)] (.int 0)
set_option maxRecDepth 65536 in
set_option maxHeartbeats 40000000 in
theorem rmGc3 (l : Launch) (Z : State) (a0 : Array Value) (hw : ∀ d ∈ tables_1, d.before a0 Z = true) (ws : List Jvm.Cond) (pv : Int32) (ar : Addr) (r1 : Addr) (r2 : Addr) (kr1 : ClassId) (kr2 : ClassId) (kA : ClassId) (h0 : Heap) (n0 : Nat) (Z0 : n0 ≤ h0.size) (g_ar : n0 ≤ ar) (Sr1 : Sta Z h0 "java/lang/Integer" "DigitOnes" "[B" (.ref r1)) (Sr2 : Sta Z h0 "java/lang/Integer" "DigitTens" "[B" (.ref r2)) (Vr1 : Arv Z h0 r1 kr1 .byte (100 : Int32) own_ones (.int 0)) (Vr2 : Arv Z h0 r2 kr2 .byte (100 : Int32) own_tens (.int 0)) (Va : Arv Z h0 ar kA .byte (16 : Int32) [(.int 36), (.int 91), (.int 0), (.int 0), (.int 0), (.int 0), (.int 0), (.int 0), (.int 0), (.int 0), (.int 0), (.int 0), (.int 0), (.int 0), (.int 0), (.int 0)] (.int 0)) (hv0 : ¬ pv < 0) (hlo : ¬ pv < 100) (hhi : pv < 1000) (hr1 : r1 ≠ ar) (hr2 : r2 ≠ ar) :
    MetFree l (⟨"java/lang/Integer", "getChars", "(II[B)I"⟩ : MethodName) (head1 (Jvm.Cond.code (⟨"java/lang/Integer", "getChars", "(II[B)I"⟩ : MethodName) jdk_33_method_12_code 7 (some .int) :: ws) ({ frames := 0, cells := 0, slots := 0, locals := 0 } : Room)) (fun as' U => as' = #[(.int pv), (.int 5), (.ref ar)] ∧ Z.Warmed39 U.vm ∧ U.heap = h0) (fun _ _ _ _ _ => True) (fun _ U o U' => ∃ v L, o = .returned v ∧ QGc3 Z pv ar r1 r2 kr1 kr2 kA h0 n0 v U'.heap L ∧ FrameEnd U o U' L ({ frames := 0, cells := 0, slots := 0, locals := 0 } : Room).cells ({ frames := 0, cells := 0, slots := 0, locals := 0 } : Room).slots) := by
  refine MetFree.of_bodySF (plainFor_of_name pn_java_lang_Integer) hisR ?_
  intro p e s m args below meth c s₁ Bd hml0 hP hK
  obtain ⟨rfl, hZ, hh⟩ := hP
  have hx := Bd.exec
  have hby := Bd.bytes
  have hml : c.maxLocals = 7 := hml0
  have hown : s.vm.findClass "java/lang/Integer" = some m.cls := findClass_of_methodNamed Bd.named
  have hnm := (name_of_methodNamed Bd.named Bd.method).1
  have X0 : Stand p l e ({ frames := 0, cells := 0, slots := 0, locals := 0 } : Room) s m #[(.int pv), (.int 5), (.ref ar)] below meth c s₁ [] 0 0 := Stand.of_body Bd
  have e0 : s₁.heap = h0 := by rw [← hh, Bd.state]; rfl
  have N0 := Fr.nil n0
  show Go p e below s (fun v h L => QGc3 Z pv ar r1 r2 kr1 kr2 kA h0 n0 v h L) 0 0 _
  refine Go.pull (V := s₁.setTop (mkF m 0 #[iv pv, iv 5, rv ar, .unset, .unset, .unset, .unset] [])) (fun t k => castTop (efGc3 m pv ar) k) ?_
  refine Go.pull (V := s₁.setTop (mkF m 12 #[iv pv, iv 5, rv ar, .unset, .unset, iv 5, .unset] [(.int 0)])) (fun t k => XS.iloadN X0.here hx rfl (hb hby z20_0) rfl  (XS.istore X0.here hx rfl (hb hby z20_1) rfl (l' := #[iv pv, iv 5, rv ar, .unset, .unset, iv 5, .unset]) rfl (XS.iloadN X0.here hx rfl (hb hby z20_3) rfl  (XS.ifYes X0.here hx rfl (pc0 := 4) (pc' := 11) rfl (hb hby z20_4) rfl (XT.i0_ge_t hv0) (by decide) (by decide) (XS.iconst X0.here hx rfl (hb hby z20_11) k))))) ?_
  refine Go.pull (V := s₁.setTop (mkF m 21 #[iv pv, iv 5, rv ar, .unset, .unset, iv 5, iv 0] [(.int (-pv))])) (fun t k => XS.istore X0.here hx rfl (hb hby z20_12) rfl (l' := #[iv pv, iv 5, rv ar, .unset, .unset, iv 5, iv 0]) rfl (XS.iload X0.here hx rfl (hb hby z20_14) rfl  (XS.ifNo X0.here hx rfl (hb hby z20_16) rfl (XT.i0_ne_f (by decide)) (XS.iloadN X0.here hx rfl (hb hby z20_19) rfl  (XS.ineg X0.here hx rfl (hb hby z20_20) rfl k))))) ?_
  refine Go.pull (V := s₁.setTop (mkF m 22 #[iv (-pv), iv 5, rv ar, .unset, .unset, iv 5, iv 0] [])) (fun t k => XS.istoreN X0.here hx rfl (hb hby z20_21) rfl (l' := #[iv (-pv), iv 5, rv ar, .unset, .unset, iv 5, iv 0]) rfl k) ?_
  generalize hg0 : (-pv) = q0
  have hq0 : q0.toInt = -(pv.toInt / 1) := hg0 ▸ own_turn0 hv0
  refine Go.pull (V := s₁.setTop (mkF m 31 #[iv q0, iv 5, rv ar, .unset, .unset, iv 5, iv 0] [(.int 100), (.int q0)])) (fun t k => XS.iloadN X0.here hx rfl (hb hby z20_22) rfl  (XS.bipush X0.here hx rfl (hb hby z20_23) (XS.icmpNo X0.here hx rfl (hb hby z20_25) rfl (XT.ii_gt_f (own_b25f hv0 (by decide) hq0 (own_lo hlo (by decide)))) (XS.iloadN X0.here hx rfl (hb hby z20_28) rfl  (XS.bipush X0.here hx rfl (hb hby z20_29) k))))) ?_
  refine Go.pull (V := s₁.setTop (mkF m 37 #[iv q0, iv 5, rv ar, iv (q0 / (100 : Int32)), .unset, iv 5, iv 0] [(.int ((q0 / (100 : Int32)) * (100 : Int32)))])) (fun t k => XS.idiv X0.here hx rfl (hb hby z20_31) rfl (by decide) (XS.istoreN X0.here hx rfl (hb hby z20_32) rfl (l' := #[iv q0, iv 5, rv ar, iv (q0 / (100 : Int32)), .unset, iv 5, iv 0]) rfl (XS.iloadN X0.here hx rfl (hb hby z20_33) rfl  (XS.bipush X0.here hx rfl (hb hby z20_34) (XS.imul X0.here hx rfl (hb hby z20_36) rfl k))))) ?_
  refine Go.pull (V := s₁.setTop (mkF m 43 #[iv (q0 / (100 : Int32)), iv 5, rv ar, iv (q0 / (100 : Int32)), iv (((q0 / (100 : Int32)) * (100 : Int32)) - q0), iv 5, iv 0] [])) (fun t k => XS.iloadN X0.here hx rfl (hb hby z20_37) rfl  (XS.isub X0.here hx rfl (hb hby z20_38) rfl (XS.istore X0.here hx rfl (hb hby z20_39) rfl (l' := #[iv q0, iv 5, rv ar, iv (q0 / (100 : Int32)), iv (((q0 / (100 : Int32)) * (100 : Int32)) - q0), iv 5, iv 0]) rfl (XS.iloadN X0.here hx rfl (hb hby z20_41) rfl  (XS.istoreN X0.here hx rfl (hb hby z20_42) rfl (l' := #[iv (q0 / (100 : Int32)), iv 5, rv ar, iv (q0 / (100 : Int32)), iv (((q0 / (100 : Int32)) * (100 : Int32)) - q0), iv 5, iv 0]) rfl k))))) ?_
  generalize hh0 : (((q0 / (100 : Int32)) * (100 : Int32)) - q0) = w0
  have hr0' : w0.toInt = (pv.toInt / 1) % 100 := hh0 ▸ own_rem hv0 (by decide) hq0
  refine Go.pull (V := s₁.setTop (mkF m 49 #[iv (q0 / (100 : Int32)), iv 5, rv ar, iv (q0 / (100 : Int32)), iv w0, iv 4, iv 0] [(.int 4), (.ref ar)])) (fun t k => XS.aloadN X0.here hx rfl (hb hby z20_43) rfl rfl (XS.iinc X0.here hx rfl (hb hby z20_44) rfl (l' := #[iv (q0 / (100 : Int32)), iv 5, rv ar, iv (q0 / (100 : Int32)), iv w0, iv 4, iv 0]) rfl (XS.iload X0.here hx rfl (hb hby z20_47) rfl  k))) ?_
  obtain ⟨T1, X1, e1, st1⟩ := getS2 X0 hx hZ hown (host := "") (Or.inl (hw _ (List.mem_of_getElem? (i := 152) rfl))) Via.refl e0 Sr1 (g := (mkF m 49 #[iv (q0 / (100 : Int32)), iv 5, rv ar, iv (q0 / (100 : Int32)), iv w0, iv 4, iv 0] [(.int 4), (.ref ar)])) rfl (hb hby z20_49)
  refine Go.pull (V := T1.setTop (mkF m 52 #[iv (q0 / (100 : Int32)), iv 5, rv ar, iv (q0 / (100 : Int32)), iv w0, iv 4, iv 0] [(.ref r1), (.int 4), (.ref ar)])) st1 ?_
  refine Go.pull (V := T1.setTop (mkF m 54 #[iv (q0 / (100 : Int32)), iv 5, rv ar, iv (q0 / (100 : Int32)), iv w0, iv 4, iv 0] [(.int w0), (.ref r1), (.int 4), (.ref ar)])) (fun t k => XS.iload X1.here hx rfl (hb hby z20_52) rfl  k) ?_
  obtain ⟨cl2, Ar2, q2, S2, M2, Hs2, G2⟩ := id Vr1
  have hin2 : ¬ (w0 < 0 ∨ cl2.slots.size ≤ (w0).toNatClampNeg) := inb_of S2 (own_in hr0')
  have hat2 : cl2.slots[(w0).toNatClampNeg]? = some (.int (own_dig pv 1)) := Has.at Hs2 hin2 (own_one hv0 (by decide : (0 : Int) < 1) (by decide) hr0')
  refine Go.pull (V := T1.setTop (mkF m 55 #[iv (q0 / (100 : Int32)), iv 5, rv ar, iv (q0 / (100 : Int32)), iv w0, iv 4, iv 0] [(.int (own_dig pv 1)), (.int 4), (.ref ar)])) (fun t k => X1.baloadBytes hx (j := w0) (v := (.int (own_dig pv 1))) (by rw [e1]; exact Ar2.1) (State.isArrayOf_alike hZ.alike Ar2.2.1) Ar2.2.2 hin2 hat2 (g := (mkF m 54 #[iv (q0 / (100 : Int32)), iv 5, rv ar, iv (q0 / (100 : Int32)), iv w0, iv 4, iv 0] [(.int w0), (.ref r1), (.int 4), (.ref ar)])) rfl rfl (hb hby z20_54) _ k) ?_
  obtain ⟨cl3, Ar3, q3, S3, M3, Hs3, G3⟩ := id Va
  have hin3 : ¬ ((4 : Int32) < 0 ∨ cl3.slots.size ≤ ((4 : Int32)).toNatClampNeg) := inb_of S3 ⟨by decide, by decide⟩
  obtain ⟨T4, h4, X4, e4, W4, st4⟩ := stB X1 hx hZ e1 Ar3 (j := (4 : Int32)) hin3 (g := (mkF m 55 #[iv (q0 / (100 : Int32)), iv 5, rv ar, iv (q0 / (100 : Int32)), iv w0, iv 4, iv 0] [(.int (own_dig pv 1)), (.int 4), (.ref ar)])) rfl rfl (hb hby z20_55)
  rw [own_narb (pv := pv) (pc := 1) (c := 1) hv0 (by decide) (by decide)] at W4
  have V4 : Arv Z h4 ar kA .byte (16 : Int32) [(.int 36), (.int 91), (.int 0), (.int 0), (.int (own_dig pv 1)), (.int 0), (.int 0), (.int 0), (.int 0), (.int 0), (.int 0), (.int 0), (.int 0), (.int 0), (.int 0), (.int 0)] (.int 0) := Arv.set Ar3 q3 S3 M3 Hs3 G3 (own_narb (pv := pv) (pc := 1) (c := 1) hv0 (by decide) (by decide) ▸ fits_nar_byte _) W4 4 rfl (Nat.le_of_ble_eq_true rfl)
  have K4 : Keep h0 h4 [ar] := (Keep.refl h0 [ar]).wr W4 (Or.inl (List.mem_of_getElem? (i := 0) rfl))
  have N4 := Fr.snoc X4 N0 g_ar
  refine Go.pull (V := T4.setTop (mkF m 56 #[iv (q0 / (100 : Int32)), iv 5, rv ar, iv (q0 / (100 : Int32)), iv w0, iv 4, iv 0] [])) st4 ?_
  refine Go.pull (V := T4.setTop (mkF m 62 #[iv (q0 / (100 : Int32)), iv 5, rv ar, iv (q0 / (100 : Int32)), iv w0, iv 3, iv 0] [(.int 3), (.ref ar)])) (fun t k => XS.aloadN X4.here hx rfl (hb hby z20_56) rfl rfl (XS.iinc X4.here hx rfl (hb hby z20_57) rfl (l' := #[iv (q0 / (100 : Int32)), iv 5, rv ar, iv (q0 / (100 : Int32)), iv w0, iv 3, iv 0]) rfl (XS.iload X4.here hx rfl (hb hby z20_60) rfl  k))) ?_
  obtain ⟨T5, X5, e5, st5⟩ := getS2 X4 hx hZ hown (host := "") (Or.inl (hw _ (List.mem_of_getElem? (i := 153) rfl))) Via.refl e4 (Sr2.wr W4) (g := (mkF m 62 #[iv (q0 / (100 : Int32)), iv 5, rv ar, iv (q0 / (100 : Int32)), iv w0, iv 3, iv 0] [(.int 3), (.ref ar)])) rfl (hb hby z20_62)
  refine Go.pull (V := T5.setTop (mkF m 65 #[iv (q0 / (100 : Int32)), iv 5, rv ar, iv (q0 / (100 : Int32)), iv w0, iv 3, iv 0] [(.ref r2), (.int 3), (.ref ar)])) st5 ?_
  refine Go.pull (V := T5.setTop (mkF m 67 #[iv (q0 / (100 : Int32)), iv 5, rv ar, iv (q0 / (100 : Int32)), iv w0, iv 3, iv 0] [(.int w0), (.ref r2), (.int 3), (.ref ar)])) (fun t k => XS.iload X5.here hx rfl (hb hby z20_65) rfl  k) ?_
  obtain ⟨cl6, Ar6, q6, S6, M6, Hs6, G6⟩ := id (Vr2.other W4 hr2)
  have hin6 : ¬ (w0 < 0 ∨ cl6.slots.size ≤ (w0).toNatClampNeg) := inb_of S6 (own_in hr0')
  have hat6 : cl6.slots[(w0).toNatClampNeg]? = some (.int (own_dig pv 10)) := Has.at Hs6 hin6 (own_ten hv0 (by decide : (0 : Int) < 1) rfl (by decide) hr0')
  refine Go.pull (V := T5.setTop (mkF m 68 #[iv (q0 / (100 : Int32)), iv 5, rv ar, iv (q0 / (100 : Int32)), iv w0, iv 3, iv 0] [(.int (own_dig pv 10)), (.int 3), (.ref ar)])) (fun t k => X5.baloadBytes hx (j := w0) (v := (.int (own_dig pv 10))) (by rw [e5]; exact Ar6.1) (State.isArrayOf_alike hZ.alike Ar6.2.1) Ar6.2.2 hin6 hat6 (g := (mkF m 67 #[iv (q0 / (100 : Int32)), iv 5, rv ar, iv (q0 / (100 : Int32)), iv w0, iv 3, iv 0] [(.int w0), (.ref r2), (.int 3), (.ref ar)])) rfl rfl (hb hby z20_67) _ k) ?_
  obtain ⟨cl7, Ar7, q7, S7, M7, Hs7, G7⟩ := id V4
  have hin7 : ¬ ((3 : Int32) < 0 ∨ cl7.slots.size ≤ ((3 : Int32)).toNatClampNeg) := inb_of S7 ⟨by decide, by decide⟩
  obtain ⟨T8, h8, X8, e8, W8, st8⟩ := stB X5 hx hZ e5 Ar7 (j := (3 : Int32)) hin7 (g := (mkF m 68 #[iv (q0 / (100 : Int32)), iv 5, rv ar, iv (q0 / (100 : Int32)), iv w0, iv 3, iv 0] [(.int (own_dig pv 10)), (.int 3), (.ref ar)])) rfl rfl (hb hby z20_68)
  rw [own_narb (pv := pv) (pc := 10) (c := 10) hv0 (by decide) (by decide)] at W8
  have V8 : Arv Z h8 ar kA .byte (16 : Int32) [(.int 36), (.int 91), (.int 0), (.int (own_dig pv 10)), (.int (own_dig pv 1)), (.int 0), (.int 0), (.int 0), (.int 0), (.int 0), (.int 0), (.int 0), (.int 0), (.int 0), (.int 0), (.int 0)] (.int 0) := Arv.set Ar7 q7 S7 M7 Hs7 G7 (own_narb (pv := pv) (pc := 10) (c := 10) hv0 (by decide) (by decide) ▸ fits_nar_byte _) W8 3 rfl (Nat.le_of_ble_eq_true rfl)
  have K8 : Keep h0 h8 [ar] := K4.wr W8 (Or.inl (List.mem_of_getElem? (i := 0) rfl))
  have N8 := Fr.snoc X8 N4 g_ar
  refine Go.pull (V := T8.setTop (mkF m 69 #[iv (q0 / (100 : Int32)), iv 5, rv ar, iv (q0 / (100 : Int32)), iv w0, iv 3, iv 0] [])) st8 ?_
  refine Go.pull (V := T8.setTop (mkF m 22 #[iv (q0 / (100 : Int32)), iv 5, rv ar, iv (q0 / (100 : Int32)), iv w0, iv 3, iv 0] [])) (fun t k => XS.goto X8.here hx rfl (pc0 := 69) (pc' := 22) rfl (hb hby z20_69) (by decide) (by decide) k) ?_
  generalize hg1 : (q0 / (100 : Int32)) = q1
  have hq1 : q1.toInt = -(pv.toInt / 100) := hg1 ▸ own_turn (c := 1) hv0 (by decide) rfl hq0
  refine Go.pull (V := T8.setTop (mkF m 76 #[iv q1, iv 5, rv ar, iv q1, iv w0, iv 2, iv 0] [(.ref ar)])) (fun t k => XS.iloadN X8.here hx rfl (hb hby z20_22) rfl  (XS.bipush X8.here hx rfl (hb hby z20_23) (XS.icmpYes X8.here hx rfl (pc0 := 25) (pc' := 72) rfl (hb hby z20_25) rfl (XT.ii_gt_t (own_b25t hq1 (by have := own_nn hv0; have := Int32.lt_iff_toInt_lt.mp hhi; simp only [show (1000 : Int32).toInt = 1000 from rfl] at this; omega))) (by decide) (by decide) (XS.aloadN X8.here hx rfl (hb hby z20_72) rfl rfl (XS.iinc X8.here hx rfl (hb hby z20_73) rfl (l' := #[iv q1, iv 5, rv ar, iv q1, iv w0, iv 2, iv 0]) rfl k))))) ?_
  refine Go.pull (V := T8.setTop (mkF m 78 #[iv q1, iv 5, rv ar, iv q1, iv w0, iv 2, iv 0] [(.int 2), (.ref ar)])) (fun t k => XS.iload X8.here hx rfl (hb hby z20_76) rfl  k) ?_
  obtain ⟨T9, X9, e9, st9⟩ := getS2 X8 hx hZ hown (host := "") (Or.inl (hw _ (List.mem_of_getElem? (i := 152) rfl))) Via.refl e8 ((Sr1.wr W4).wr W8) (g := (mkF m 78 #[iv q1, iv 5, rv ar, iv q1, iv w0, iv 2, iv 0] [(.int 2), (.ref ar)])) rfl (hb hby z20_78)
  refine Go.pull (V := T9.setTop (mkF m 81 #[iv q1, iv 5, rv ar, iv q1, iv w0, iv 2, iv 0] [(.ref r1), (.int 2), (.ref ar)])) st9 ?_
  refine Go.pull (V := T9.setTop (mkF m 83 #[iv q1, iv 5, rv ar, iv q1, iv w0, iv 2, iv 0] [(.int (-q1)), (.ref r1), (.int 2), (.ref ar)])) (fun t k => XS.iloadN X9.here hx rfl (hb hby z20_81) rfl  (XS.ineg X9.here hx rfl (hb hby z20_82) rfl k)) ?_
  have hr1' : (-q1).toInt = (pv.toInt / 100) % 100 := own_last hv0 (by decide) (by have := own_nn hv0; have := Int32.lt_iff_toInt_lt.mp hhi; simp only [show (1000 : Int32).toInt = 1000 from rfl] at this; omega) hq1
  obtain ⟨cl10, Ar10, q10, S10, M10, Hs10, G10⟩ := id ((Vr1.other W4 hr1).other W8 hr1)
  have hin10 : ¬ ((-q1) < 0 ∨ cl10.slots.size ≤ ((-q1)).toNatClampNeg) := inb_of S10 (own_in hr1')
  have hat10 : cl10.slots[((-q1)).toNatClampNeg]? = some (.int (own_dig pv 100)) := Has.at Hs10 hin10 (own_one hv0 (by decide : (0 : Int) < 100) (by decide) hr1')
  refine Go.pull (V := T9.setTop (mkF m 84 #[iv q1, iv 5, rv ar, iv q1, iv w0, iv 2, iv 0] [(.int (own_dig pv 100)), (.int 2), (.ref ar)])) (fun t k => X9.baloadBytes hx (j := (-q1)) (v := (.int (own_dig pv 100))) (by rw [e9]; exact Ar10.1) (State.isArrayOf_alike hZ.alike Ar10.2.1) Ar10.2.2 hin10 hat10 (g := (mkF m 83 #[iv q1, iv 5, rv ar, iv q1, iv w0, iv 2, iv 0] [(.int (-q1)), (.ref r1), (.int 2), (.ref ar)])) rfl rfl (hb hby z20_83) _ k) ?_
  obtain ⟨cl11, Ar11, q11, S11, M11, Hs11, G11⟩ := id V8
  have hin11 : ¬ ((2 : Int32) < 0 ∨ cl11.slots.size ≤ ((2 : Int32)).toNatClampNeg) := inb_of S11 ⟨by decide, by decide⟩
  obtain ⟨T12, h12, X12, e12, W12, st12⟩ := stB X9 hx hZ e9 Ar11 (j := (2 : Int32)) hin11 (g := (mkF m 84 #[iv q1, iv 5, rv ar, iv q1, iv w0, iv 2, iv 0] [(.int (own_dig pv 100)), (.int 2), (.ref ar)])) rfl rfl (hb hby z20_84)
  rw [own_narb (pv := pv) (pc := 100) (c := 100) hv0 (by decide) (by decide)] at W12
  have V12 : Arv Z h12 ar kA .byte (16 : Int32) [(.int 36), (.int 91), (.int (own_dig pv 100)), (.int (own_dig pv 10)), (.int (own_dig pv 1)), (.int 0), (.int 0), (.int 0), (.int 0), (.int 0), (.int 0), (.int 0), (.int 0), (.int 0), (.int 0), (.int 0)] (.int 0) := Arv.set Ar11 q11 S11 M11 Hs11 G11 (own_narb (pv := pv) (pc := 100) (c := 100) hv0 (by decide) (by decide) ▸ fits_nar_byte _) W12 2 rfl (Nat.le_of_ble_eq_true rfl)
  have K12 : Keep h0 h12 [ar] := K8.wr W12 (Or.inl (List.mem_of_getElem? (i := 0) rfl))
  have N12 := Fr.snoc X12 N8 g_ar
  refine Go.pull (V := T12.setTop (mkF m 85 #[iv q1, iv 5, rv ar, iv q1, iv w0, iv 2, iv 0] [])) st12 ?_
  refine Go.pull (V := T12.setTop (mkF m 118 #[iv q1, iv 5, rv ar, iv q1, iv w0, iv 2, iv 0] [])) (fun t k => XS.iloadN X12.here hx rfl (hb hby z20_85) rfl  (XS.bipush X12.here hx rfl (hb hby z20_86) (XS.icmpYes X12.here hx rfl (pc0 := 88) (pc' := 104) rfl (hb hby z20_88) rfl (XT.ii_ge_t (own_b88f hq1 (by have := own_nn hv0; have := Int32.lt_iff_toInt_lt.mp hhi; simp only [show (1000 : Int32).toInt = 1000 from rfl] at this; omega))) (by decide) (by decide) (XS.iload X12.here hx rfl (hb hby z20_104) rfl  (XS.ifYes X12.here hx rfl (pc0 := 106) (pc' := 118) rfl (hb hby z20_106) rfl (XT.i0_eq_t (by decide)) (by decide) (by decide) k))))) ?_
  refine Go.pull (V := T12.setTop (mkF m 120 #[iv q1, iv 5, rv ar, iv q1, iv w0, iv 2, iv 0] [(.int 2)])) (fun t k => XS.iload X12.here hx rfl (hb hby z20_118) rfl  k) ?_
  exact Go.retI X12 hx Bd.notSynchronized Bd.returns (hb hby z20_120) (by rw [e12]; exact ⟨rfl, N12, K12, V12⟩) (by decide) (by decide)
theorem efGc4 (m : MethodId) (x0 : Int32) (x2 : Addr) : entryFrame m #[(.int x0), (.int 6), (.ref x2)] 7 = mkF m 0 #[iv x0, iv 6, rv x2, .unset, .unset, .unset, .unset] [] := by first | (simp [entryFrame, mkF, argsToLocals, Value.category]; done) | rfl
def QGc4 (Z : State) (pv : Int32) (ar : Addr) (r1 : Addr) (r2 : Addr) (kr1 : ClassId) (kr2 : ClassId) (kA : ClassId) (h0 : Heap) (n0 : Nat) (v : Option Value) (h : Heap) (L : List Loc) : Prop := v = some (.int 2) ∧ Fr n0 L ∧ Keep h0 h [ar] ∧ Arv Z h ar kA .byte (16 : Int32) [(.int 36), (.int 91), (.int (own_dig pv 1000)), (.int (own_dig pv 100)), (.int (own_dig pv 10)), (.int (own_dig pv 1)), (.int 0), (.int 0), (.int 0), (.int 0), (.int 0), (.int 0), (.int 0), (.int 0), (.int 0), (.int 0)] (.int 0)
set_option maxRecDepth 65536 in
set_option maxHeartbeats 40000000 in
theorem rmGc4 (l : Launch) (Z : State) (a0 : Array Value) (hw : ∀ d ∈ tables_1, d.before a0 Z = true) (ws : List Jvm.Cond) (pv : Int32) (ar : Addr) (r1 : Addr) (r2 : Addr) (kr1 : ClassId) (kr2 : ClassId) (kA : ClassId) (h0 : Heap) (n0 : Nat) (Z0 : n0 ≤ h0.size) (g_ar : n0 ≤ ar) (Sr1 : Sta Z h0 "java/lang/Integer" "DigitOnes" "[B" (.ref r1)) (Sr2 : Sta Z h0 "java/lang/Integer" "DigitTens" "[B" (.ref r2)) (Vr1 : Arv Z h0 r1 kr1 .byte (100 : Int32) own_ones (.int 0)) (Vr2 : Arv Z h0 r2 kr2 .byte (100 : Int32) own_tens (.int 0)) (Va : Arv Z h0 ar kA .byte (16 : Int32) [(.int 36), (.int 91), (.int 0), (.int 0), (.int 0), (.int 0), (.int 0), (.int 0), (.int 0), (.int 0), (.int 0), (.int 0), (.int 0), (.int 0), (.int 0), (.int 0)] (.int 0)) (hv0 : ¬ pv < 0) (hlo : ¬ pv < 1000) (hhi : pv < 10000) (hr1 : r1 ≠ ar) (hr2 : r2 ≠ ar) :
    MetFree l (⟨"java/lang/Integer", "getChars", "(II[B)I"⟩ : MethodName) (head1 (Jvm.Cond.code (⟨"java/lang/Integer", "getChars", "(II[B)I"⟩ : MethodName) jdk_33_method_12_code 7 (some .int) :: ws) ({ frames := 0, cells := 0, slots := 0, locals := 0 } : Room)) (fun as' U => as' = #[(.int pv), (.int 6), (.ref ar)] ∧ Z.Warmed39 U.vm ∧ U.heap = h0) (fun _ _ _ _ _ => True) (fun _ U o U' => ∃ v L, o = .returned v ∧ QGc4 Z pv ar r1 r2 kr1 kr2 kA h0 n0 v U'.heap L ∧ FrameEnd U o U' L ({ frames := 0, cells := 0, slots := 0, locals := 0 } : Room).cells ({ frames := 0, cells := 0, slots := 0, locals := 0 } : Room).slots) := by
  refine MetFree.of_bodySF (plainFor_of_name pn_java_lang_Integer) hisR ?_
  intro p e s m args below meth c s₁ Bd hml0 hP hK
  obtain ⟨rfl, hZ, hh⟩ := hP
  have hx := Bd.exec
  have hby := Bd.bytes
  have hml : c.maxLocals = 7 := hml0
  have hown : s.vm.findClass "java/lang/Integer" = some m.cls := findClass_of_methodNamed Bd.named
  have hnm := (name_of_methodNamed Bd.named Bd.method).1
  have X0 : Stand p l e ({ frames := 0, cells := 0, slots := 0, locals := 0 } : Room) s m #[(.int pv), (.int 6), (.ref ar)] below meth c s₁ [] 0 0 := Stand.of_body Bd
  have e0 : s₁.heap = h0 := by rw [← hh, Bd.state]; rfl
  have N0 := Fr.nil n0
  show Go p e below s (fun v h L => QGc4 Z pv ar r1 r2 kr1 kr2 kA h0 n0 v h L) 0 0 _
  refine Go.pull (V := s₁.setTop (mkF m 0 #[iv pv, iv 6, rv ar, .unset, .unset, .unset, .unset] [])) (fun t k => castTop (efGc4 m pv ar) k) ?_
  refine Go.pull (V := s₁.setTop (mkF m 12 #[iv pv, iv 6, rv ar, .unset, .unset, iv 6, .unset] [(.int 0)])) (fun t k => XS.iloadN X0.here hx rfl (hb hby z20_0) rfl  (XS.istore X0.here hx rfl (hb hby z20_1) rfl (l' := #[iv pv, iv 6, rv ar, .unset, .unset, iv 6, .unset]) rfl (XS.iloadN X0.here hx rfl (hb hby z20_3) rfl  (XS.ifYes X0.here hx rfl (pc0 := 4) (pc' := 11) rfl (hb hby z20_4) rfl (XT.i0_ge_t hv0) (by decide) (by decide) (XS.iconst X0.here hx rfl (hb hby z20_11) k))))) ?_
  refine Go.pull (V := s₁.setTop (mkF m 21 #[iv pv, iv 6, rv ar, .unset, .unset, iv 6, iv 0] [(.int (-pv))])) (fun t k => XS.istore X0.here hx rfl (hb hby z20_12) rfl (l' := #[iv pv, iv 6, rv ar, .unset, .unset, iv 6, iv 0]) rfl (XS.iload X0.here hx rfl (hb hby z20_14) rfl  (XS.ifNo X0.here hx rfl (hb hby z20_16) rfl (XT.i0_ne_f (by decide)) (XS.iloadN X0.here hx rfl (hb hby z20_19) rfl  (XS.ineg X0.here hx rfl (hb hby z20_20) rfl k))))) ?_
  refine Go.pull (V := s₁.setTop (mkF m 22 #[iv (-pv), iv 6, rv ar, .unset, .unset, iv 6, iv 0] [])) (fun t k => XS.istoreN X0.here hx rfl (hb hby z20_21) rfl (l' := #[iv (-pv), iv 6, rv ar, .unset, .unset, iv 6, iv 0]) rfl k) ?_
  generalize hg0 : (-pv) = q0
  have hq0 : q0.toInt = -(pv.toInt / 1) := hg0 ▸ own_turn0 hv0
  refine Go.pull (V := s₁.setTop (mkF m 31 #[iv q0, iv 6, rv ar, .unset, .unset, iv 6, iv 0] [(.int 100), (.int q0)])) (fun t k => XS.iloadN X0.here hx rfl (hb hby z20_22) rfl  (XS.bipush X0.here hx rfl (hb hby z20_23) (XS.icmpNo X0.here hx rfl (hb hby z20_25) rfl (XT.ii_gt_f (own_b25f hv0 (by decide) hq0 (own_lo hlo (by decide)))) (XS.iloadN X0.here hx rfl (hb hby z20_28) rfl  (XS.bipush X0.here hx rfl (hb hby z20_29) k))))) ?_
  refine Go.pull (V := s₁.setTop (mkF m 37 #[iv q0, iv 6, rv ar, iv (q0 / (100 : Int32)), .unset, iv 6, iv 0] [(.int ((q0 / (100 : Int32)) * (100 : Int32)))])) (fun t k => XS.idiv X0.here hx rfl (hb hby z20_31) rfl (by decide) (XS.istoreN X0.here hx rfl (hb hby z20_32) rfl (l' := #[iv q0, iv 6, rv ar, iv (q0 / (100 : Int32)), .unset, iv 6, iv 0]) rfl (XS.iloadN X0.here hx rfl (hb hby z20_33) rfl  (XS.bipush X0.here hx rfl (hb hby z20_34) (XS.imul X0.here hx rfl (hb hby z20_36) rfl k))))) ?_
  refine Go.pull (V := s₁.setTop (mkF m 43 #[iv (q0 / (100 : Int32)), iv 6, rv ar, iv (q0 / (100 : Int32)), iv (((q0 / (100 : Int32)) * (100 : Int32)) - q0), iv 6, iv 0] [])) (fun t k => XS.iloadN X0.here hx rfl (hb hby z20_37) rfl  (XS.isub X0.here hx rfl (hb hby z20_38) rfl (XS.istore X0.here hx rfl (hb hby z20_39) rfl (l' := #[iv q0, iv 6, rv ar, iv (q0 / (100 : Int32)), iv (((q0 / (100 : Int32)) * (100 : Int32)) - q0), iv 6, iv 0]) rfl (XS.iloadN X0.here hx rfl (hb hby z20_41) rfl  (XS.istoreN X0.here hx rfl (hb hby z20_42) rfl (l' := #[iv (q0 / (100 : Int32)), iv 6, rv ar, iv (q0 / (100 : Int32)), iv (((q0 / (100 : Int32)) * (100 : Int32)) - q0), iv 6, iv 0]) rfl k))))) ?_
  generalize hh0 : (((q0 / (100 : Int32)) * (100 : Int32)) - q0) = w0
  have hr0' : w0.toInt = (pv.toInt / 1) % 100 := hh0 ▸ own_rem hv0 (by decide) hq0
  refine Go.pull (V := s₁.setTop (mkF m 49 #[iv (q0 / (100 : Int32)), iv 6, rv ar, iv (q0 / (100 : Int32)), iv w0, iv 5, iv 0] [(.int 5), (.ref ar)])) (fun t k => XS.aloadN X0.here hx rfl (hb hby z20_43) rfl rfl (XS.iinc X0.here hx rfl (hb hby z20_44) rfl (l' := #[iv (q0 / (100 : Int32)), iv 6, rv ar, iv (q0 / (100 : Int32)), iv w0, iv 5, iv 0]) rfl (XS.iload X0.here hx rfl (hb hby z20_47) rfl  k))) ?_
  obtain ⟨T1, X1, e1, st1⟩ := getS2 X0 hx hZ hown (host := "") (Or.inl (hw _ (List.mem_of_getElem? (i := 152) rfl))) Via.refl e0 Sr1 (g := (mkF m 49 #[iv (q0 / (100 : Int32)), iv 6, rv ar, iv (q0 / (100 : Int32)), iv w0, iv 5, iv 0] [(.int 5), (.ref ar)])) rfl (hb hby z20_49)
  refine Go.pull (V := T1.setTop (mkF m 52 #[iv (q0 / (100 : Int32)), iv 6, rv ar, iv (q0 / (100 : Int32)), iv w0, iv 5, iv 0] [(.ref r1), (.int 5), (.ref ar)])) st1 ?_
  refine Go.pull (V := T1.setTop (mkF m 54 #[iv (q0 / (100 : Int32)), iv 6, rv ar, iv (q0 / (100 : Int32)), iv w0, iv 5, iv 0] [(.int w0), (.ref r1), (.int 5), (.ref ar)])) (fun t k => XS.iload X1.here hx rfl (hb hby z20_52) rfl  k) ?_
  obtain ⟨cl2, Ar2, q2, S2, M2, Hs2, G2⟩ := id Vr1
  have hin2 : ¬ (w0 < 0 ∨ cl2.slots.size ≤ (w0).toNatClampNeg) := inb_of S2 (own_in hr0')
  have hat2 : cl2.slots[(w0).toNatClampNeg]? = some (.int (own_dig pv 1)) := Has.at Hs2 hin2 (own_one hv0 (by decide : (0 : Int) < 1) (by decide) hr0')
  refine Go.pull (V := T1.setTop (mkF m 55 #[iv (q0 / (100 : Int32)), iv 6, rv ar, iv (q0 / (100 : Int32)), iv w0, iv 5, iv 0] [(.int (own_dig pv 1)), (.int 5), (.ref ar)])) (fun t k => X1.baloadBytes hx (j := w0) (v := (.int (own_dig pv 1))) (by rw [e1]; exact Ar2.1) (State.isArrayOf_alike hZ.alike Ar2.2.1) Ar2.2.2 hin2 hat2 (g := (mkF m 54 #[iv (q0 / (100 : Int32)), iv 6, rv ar, iv (q0 / (100 : Int32)), iv w0, iv 5, iv 0] [(.int w0), (.ref r1), (.int 5), (.ref ar)])) rfl rfl (hb hby z20_54) _ k) ?_
  obtain ⟨cl3, Ar3, q3, S3, M3, Hs3, G3⟩ := id Va
  have hin3 : ¬ ((5 : Int32) < 0 ∨ cl3.slots.size ≤ ((5 : Int32)).toNatClampNeg) := inb_of S3 ⟨by decide, by decide⟩
  obtain ⟨T4, h4, X4, e4, W4, st4⟩ := stB X1 hx hZ e1 Ar3 (j := (5 : Int32)) hin3 (g := (mkF m 55 #[iv (q0 / (100 : Int32)), iv 6, rv ar, iv (q0 / (100 : Int32)), iv w0, iv 5, iv 0] [(.int (own_dig pv 1)), (.int 5), (.ref ar)])) rfl rfl (hb hby z20_55)
  rw [own_narb (pv := pv) (pc := 1) (c := 1) hv0 (by decide) (by decide)] at W4
  have V4 : Arv Z h4 ar kA .byte (16 : Int32) [(.int 36), (.int 91), (.int 0), (.int 0), (.int 0), (.int (own_dig pv 1)), (.int 0), (.int 0), (.int 0), (.int 0), (.int 0), (.int 0), (.int 0), (.int 0), (.int 0), (.int 0)] (.int 0) := Arv.set Ar3 q3 S3 M3 Hs3 G3 (own_narb (pv := pv) (pc := 1) (c := 1) hv0 (by decide) (by decide) ▸ fits_nar_byte _) W4 5 rfl (Nat.le_of_ble_eq_true rfl)
  have K4 : Keep h0 h4 [ar] := (Keep.refl h0 [ar]).wr W4 (Or.inl (List.mem_of_getElem? (i := 0) rfl))
  have N4 := Fr.snoc X4 N0 g_ar
  refine Go.pull (V := T4.setTop (mkF m 56 #[iv (q0 / (100 : Int32)), iv 6, rv ar, iv (q0 / (100 : Int32)), iv w0, iv 5, iv 0] [])) st4 ?_
  refine Go.pull (V := T4.setTop (mkF m 62 #[iv (q0 / (100 : Int32)), iv 6, rv ar, iv (q0 / (100 : Int32)), iv w0, iv 4, iv 0] [(.int 4), (.ref ar)])) (fun t k => XS.aloadN X4.here hx rfl (hb hby z20_56) rfl rfl (XS.iinc X4.here hx rfl (hb hby z20_57) rfl (l' := #[iv (q0 / (100 : Int32)), iv 6, rv ar, iv (q0 / (100 : Int32)), iv w0, iv 4, iv 0]) rfl (XS.iload X4.here hx rfl (hb hby z20_60) rfl  k))) ?_
  obtain ⟨T5, X5, e5, st5⟩ := getS2 X4 hx hZ hown (host := "") (Or.inl (hw _ (List.mem_of_getElem? (i := 153) rfl))) Via.refl e4 (Sr2.wr W4) (g := (mkF m 62 #[iv (q0 / (100 : Int32)), iv 6, rv ar, iv (q0 / (100 : Int32)), iv w0, iv 4, iv 0] [(.int 4), (.ref ar)])) rfl (hb hby z20_62)
  refine Go.pull (V := T5.setTop (mkF m 65 #[iv (q0 / (100 : Int32)), iv 6, rv ar, iv (q0 / (100 : Int32)), iv w0, iv 4, iv 0] [(.ref r2), (.int 4), (.ref ar)])) st5 ?_
  refine Go.pull (V := T5.setTop (mkF m 67 #[iv (q0 / (100 : Int32)), iv 6, rv ar, iv (q0 / (100 : Int32)), iv w0, iv 4, iv 0] [(.int w0), (.ref r2), (.int 4), (.ref ar)])) (fun t k => XS.iload X5.here hx rfl (hb hby z20_65) rfl  k) ?_
  obtain ⟨cl6, Ar6, q6, S6, M6, Hs6, G6⟩ := id (Vr2.other W4 hr2)
  have hin6 : ¬ (w0 < 0 ∨ cl6.slots.size ≤ (w0).toNatClampNeg) := inb_of S6 (own_in hr0')
  have hat6 : cl6.slots[(w0).toNatClampNeg]? = some (.int (own_dig pv 10)) := Has.at Hs6 hin6 (own_ten hv0 (by decide : (0 : Int) < 1) rfl (by decide) hr0')
  refine Go.pull (V := T5.setTop (mkF m 68 #[iv (q0 / (100 : Int32)), iv 6, rv ar, iv (q0 / (100 : Int32)), iv w0, iv 4, iv 0] [(.int (own_dig pv 10)), (.int 4), (.ref ar)])) (fun t k => X5.baloadBytes hx (j := w0) (v := (.int (own_dig pv 10))) (by rw [e5]; exact Ar6.1) (State.isArrayOf_alike hZ.alike Ar6.2.1) Ar6.2.2 hin6 hat6 (g := (mkF m 67 #[iv (q0 / (100 : Int32)), iv 6, rv ar, iv (q0 / (100 : Int32)), iv w0, iv 4, iv 0] [(.int w0), (.ref r2), (.int 4), (.ref ar)])) rfl rfl (hb hby z20_67) _ k) ?_
  obtain ⟨cl7, Ar7, q7, S7, M7, Hs7, G7⟩ := id V4
  have hin7 : ¬ ((4 : Int32) < 0 ∨ cl7.slots.size ≤ ((4 : Int32)).toNatClampNeg) := inb_of S7 ⟨by decide, by decide⟩
  obtain ⟨T8, h8, X8, e8, W8, st8⟩ := stB X5 hx hZ e5 Ar7 (j := (4 : Int32)) hin7 (g := (mkF m 68 #[iv (q0 / (100 : Int32)), iv 6, rv ar, iv (q0 / (100 : Int32)), iv w0, iv 4, iv 0] [(.int (own_dig pv 10)), (.int 4), (.ref ar)])) rfl rfl (hb hby z20_68)
  rw [own_narb (pv := pv) (pc := 10) (c := 10) hv0 (by decide) (by decide)] at W8
  have V8 : Arv Z h8 ar kA .byte (16 : Int32) [(.int 36), (.int 91), (.int 0), (.int 0), (.int (own_dig pv 10)), (.int (own_dig pv 1)), (.int 0), (.int 0), (.int 0), (.int 0), (.int 0), (.int 0), (.int 0), (.int 0), (.int 0), (.int 0)] (.int 0) := Arv.set Ar7 q7 S7 M7 Hs7 G7 (own_narb (pv := pv) (pc := 10) (c := 10) hv0 (by decide) (by decide) ▸ fits_nar_byte _) W8 4 rfl (Nat.le_of_ble_eq_true rfl)
  have K8 : Keep h0 h8 [ar] := K4.wr W8 (Or.inl (List.mem_of_getElem? (i := 0) rfl))
  have N8 := Fr.snoc X8 N4 g_ar
  refine Go.pull (V := T8.setTop (mkF m 69 #[iv (q0 / (100 : Int32)), iv 6, rv ar, iv (q0 / (100 : Int32)), iv w0, iv 4, iv 0] [])) st8 ?_
  refine Go.pull (V := T8.setTop (mkF m 22 #[iv (q0 / (100 : Int32)), iv 6, rv ar, iv (q0 / (100 : Int32)), iv w0, iv 4, iv 0] [])) (fun t k => XS.goto X8.here hx rfl (pc0 := 69) (pc' := 22) rfl (hb hby z20_69) (by decide) (by decide) k) ?_
  generalize hg1 : (q0 / (100 : Int32)) = q1
  have hq1 : q1.toInt = -(pv.toInt / 100) := hg1 ▸ own_turn (c := 1) hv0 (by decide) rfl hq0
  refine Go.pull (V := T8.setTop (mkF m 76 #[iv q1, iv 6, rv ar, iv q1, iv w0, iv 3, iv 0] [(.ref ar)])) (fun t k => XS.iloadN X8.here hx rfl (hb hby z20_22) rfl  (XS.bipush X8.here hx rfl (hb hby z20_23) (XS.icmpYes X8.here hx rfl (pc0 := 25) (pc' := 72) rfl (hb hby z20_25) rfl (XT.ii_gt_t (own_b25t hq1 (by have := own_nn hv0; have := Int32.lt_iff_toInt_lt.mp hhi; simp only [show (10000 : Int32).toInt = 10000 from rfl] at this; omega))) (by decide) (by decide) (XS.aloadN X8.here hx rfl (hb hby z20_72) rfl rfl (XS.iinc X8.here hx rfl (hb hby z20_73) rfl (l' := #[iv q1, iv 6, rv ar, iv q1, iv w0, iv 3, iv 0]) rfl k))))) ?_
  refine Go.pull (V := T8.setTop (mkF m 78 #[iv q1, iv 6, rv ar, iv q1, iv w0, iv 3, iv 0] [(.int 3), (.ref ar)])) (fun t k => XS.iload X8.here hx rfl (hb hby z20_76) rfl  k) ?_
  obtain ⟨T9, X9, e9, st9⟩ := getS2 X8 hx hZ hown (host := "") (Or.inl (hw _ (List.mem_of_getElem? (i := 152) rfl))) Via.refl e8 ((Sr1.wr W4).wr W8) (g := (mkF m 78 #[iv q1, iv 6, rv ar, iv q1, iv w0, iv 3, iv 0] [(.int 3), (.ref ar)])) rfl (hb hby z20_78)
  refine Go.pull (V := T9.setTop (mkF m 81 #[iv q1, iv 6, rv ar, iv q1, iv w0, iv 3, iv 0] [(.ref r1), (.int 3), (.ref ar)])) st9 ?_
  refine Go.pull (V := T9.setTop (mkF m 83 #[iv q1, iv 6, rv ar, iv q1, iv w0, iv 3, iv 0] [(.int (-q1)), (.ref r1), (.int 3), (.ref ar)])) (fun t k => XS.iloadN X9.here hx rfl (hb hby z20_81) rfl  (XS.ineg X9.here hx rfl (hb hby z20_82) rfl k)) ?_
  have hr1' : (-q1).toInt = (pv.toInt / 100) % 100 := own_last hv0 (by decide) (by have := own_nn hv0; have := Int32.lt_iff_toInt_lt.mp hhi; simp only [show (10000 : Int32).toInt = 10000 from rfl] at this; omega) hq1
  obtain ⟨cl10, Ar10, q10, S10, M10, Hs10, G10⟩ := id ((Vr1.other W4 hr1).other W8 hr1)
  have hin10 : ¬ ((-q1) < 0 ∨ cl10.slots.size ≤ ((-q1)).toNatClampNeg) := inb_of S10 (own_in hr1')
  have hat10 : cl10.slots[((-q1)).toNatClampNeg]? = some (.int (own_dig pv 100)) := Has.at Hs10 hin10 (own_one hv0 (by decide : (0 : Int) < 100) (by decide) hr1')
  refine Go.pull (V := T9.setTop (mkF m 84 #[iv q1, iv 6, rv ar, iv q1, iv w0, iv 3, iv 0] [(.int (own_dig pv 100)), (.int 3), (.ref ar)])) (fun t k => X9.baloadBytes hx (j := (-q1)) (v := (.int (own_dig pv 100))) (by rw [e9]; exact Ar10.1) (State.isArrayOf_alike hZ.alike Ar10.2.1) Ar10.2.2 hin10 hat10 (g := (mkF m 83 #[iv q1, iv 6, rv ar, iv q1, iv w0, iv 3, iv 0] [(.int (-q1)), (.ref r1), (.int 3), (.ref ar)])) rfl rfl (hb hby z20_83) _ k) ?_
  obtain ⟨cl11, Ar11, q11, S11, M11, Hs11, G11⟩ := id V8
  have hin11 : ¬ ((3 : Int32) < 0 ∨ cl11.slots.size ≤ ((3 : Int32)).toNatClampNeg) := inb_of S11 ⟨by decide, by decide⟩
  obtain ⟨T12, h12, X12, e12, W12, st12⟩ := stB X9 hx hZ e9 Ar11 (j := (3 : Int32)) hin11 (g := (mkF m 84 #[iv q1, iv 6, rv ar, iv q1, iv w0, iv 3, iv 0] [(.int (own_dig pv 100)), (.int 3), (.ref ar)])) rfl rfl (hb hby z20_84)
  rw [own_narb (pv := pv) (pc := 100) (c := 100) hv0 (by decide) (by decide)] at W12
  have V12 : Arv Z h12 ar kA .byte (16 : Int32) [(.int 36), (.int 91), (.int 0), (.int (own_dig pv 100)), (.int (own_dig pv 10)), (.int (own_dig pv 1)), (.int 0), (.int 0), (.int 0), (.int 0), (.int 0), (.int 0), (.int 0), (.int 0), (.int 0), (.int 0)] (.int 0) := Arv.set Ar11 q11 S11 M11 Hs11 G11 (own_narb (pv := pv) (pc := 100) (c := 100) hv0 (by decide) (by decide) ▸ fits_nar_byte _) W12 3 rfl (Nat.le_of_ble_eq_true rfl)
  have K12 : Keep h0 h12 [ar] := K8.wr W12 (Or.inl (List.mem_of_getElem? (i := 0) rfl))
  have N12 := Fr.snoc X12 N8 g_ar
  refine Go.pull (V := T12.setTop (mkF m 85 #[iv q1, iv 6, rv ar, iv q1, iv w0, iv 3, iv 0] [])) st12 ?_
  refine Go.pull (V := T12.setTop (mkF m 95 #[iv q1, iv 6, rv ar, iv q1, iv w0, iv 2, iv 0] [(.ref ar)])) (fun t k => XS.iloadN X12.here hx rfl (hb hby z20_85) rfl  (XS.bipush X12.here hx rfl (hb hby z20_86) (XS.icmpNo X12.here hx rfl (hb hby z20_88) rfl (XT.ii_ge_f (own_b88t hq1 (own_10 hlo (by decide) (by decide)))) (XS.aloadN X12.here hx rfl (hb hby z20_91) rfl rfl (XS.iinc X12.here hx rfl (hb hby z20_92) rfl (l' := #[iv q1, iv 6, rv ar, iv q1, iv w0, iv 2, iv 0]) rfl k))))) ?_
  refine Go.pull (V := T12.setTop (mkF m 97 #[iv q1, iv 6, rv ar, iv q1, iv w0, iv 2, iv 0] [(.int 2), (.ref ar)])) (fun t k => XS.iload X12.here hx rfl (hb hby z20_95) rfl  k) ?_
  obtain ⟨T13, X13, e13, st13⟩ := getS2 X12 hx hZ hown (host := "") (Or.inl (hw _ (List.mem_of_getElem? (i := 153) rfl))) Via.refl e12 (((Sr2.wr W4).wr W8).wr W12) (g := (mkF m 97 #[iv q1, iv 6, rv ar, iv q1, iv w0, iv 2, iv 0] [(.int 2), (.ref ar)])) rfl (hb hby z20_97)
  refine Go.pull (V := T13.setTop (mkF m 100 #[iv q1, iv 6, rv ar, iv q1, iv w0, iv 2, iv 0] [(.ref r2), (.int 2), (.ref ar)])) st13 ?_
  refine Go.pull (V := T13.setTop (mkF m 102 #[iv q1, iv 6, rv ar, iv q1, iv w0, iv 2, iv 0] [(.int (-q1)), (.ref r2), (.int 2), (.ref ar)])) (fun t k => XS.iloadN X13.here hx rfl (hb hby z20_100) rfl  (XS.ineg X13.here hx rfl (hb hby z20_101) rfl k)) ?_
  obtain ⟨cl14, Ar14, q14, S14, M14, Hs14, G14⟩ := id (((Vr2.other W4 hr2).other W8 hr2).other W12 hr2)
  have hin14 : ¬ ((-q1) < 0 ∨ cl14.slots.size ≤ ((-q1)).toNatClampNeg) := inb_of S14 (own_in hr1')
  have hat14 : cl14.slots[((-q1)).toNatClampNeg]? = some (.int (own_dig pv 1000)) := Has.at Hs14 hin14 (own_ten hv0 (by decide : (0 : Int) < 100) rfl (by decide) hr1')
  refine Go.pull (V := T13.setTop (mkF m 103 #[iv q1, iv 6, rv ar, iv q1, iv w0, iv 2, iv 0] [(.int (own_dig pv 1000)), (.int 2), (.ref ar)])) (fun t k => X13.baloadBytes hx (j := (-q1)) (v := (.int (own_dig pv 1000))) (by rw [e13]; exact Ar14.1) (State.isArrayOf_alike hZ.alike Ar14.2.1) Ar14.2.2 hin14 hat14 (g := (mkF m 102 #[iv q1, iv 6, rv ar, iv q1, iv w0, iv 2, iv 0] [(.int (-q1)), (.ref r2), (.int 2), (.ref ar)])) rfl rfl (hb hby z20_102) _ k) ?_
  obtain ⟨cl15, Ar15, q15, S15, M15, Hs15, G15⟩ := id V12
  have hin15 : ¬ ((2 : Int32) < 0 ∨ cl15.slots.size ≤ ((2 : Int32)).toNatClampNeg) := inb_of S15 ⟨by decide, by decide⟩
  obtain ⟨T16, h16, X16, e16, W16, st16⟩ := stB X13 hx hZ e13 Ar15 (j := (2 : Int32)) hin15 (g := (mkF m 103 #[iv q1, iv 6, rv ar, iv q1, iv w0, iv 2, iv 0] [(.int (own_dig pv 1000)), (.int 2), (.ref ar)])) rfl rfl (hb hby z20_103)
  rw [own_narb (pv := pv) (pc := 1000) (c := 1000) hv0 (by decide) (by decide)] at W16
  have V16 : Arv Z h16 ar kA .byte (16 : Int32) [(.int 36), (.int 91), (.int (own_dig pv 1000)), (.int (own_dig pv 100)), (.int (own_dig pv 10)), (.int (own_dig pv 1)), (.int 0), (.int 0), (.int 0), (.int 0), (.int 0), (.int 0), (.int 0), (.int 0), (.int 0), (.int 0)] (.int 0) := Arv.set Ar15 q15 S15 M15 Hs15 G15 (own_narb (pv := pv) (pc := 1000) (c := 1000) hv0 (by decide) (by decide) ▸ fits_nar_byte _) W16 2 rfl (Nat.le_of_ble_eq_true rfl)
  have K16 : Keep h0 h16 [ar] := K12.wr W16 (Or.inl (List.mem_of_getElem? (i := 0) rfl))
  have N16 := Fr.snoc X16 N12 g_ar
  refine Go.pull (V := T16.setTop (mkF m 104 #[iv q1, iv 6, rv ar, iv q1, iv w0, iv 2, iv 0] [])) st16 ?_
  refine Go.pull (V := T16.setTop (mkF m 120 #[iv q1, iv 6, rv ar, iv q1, iv w0, iv 2, iv 0] [(.int 2)])) (fun t k => XS.iload X16.here hx rfl (hb hby z20_104) rfl  (XS.ifYes X16.here hx rfl (pc0 := 106) (pc' := 118) rfl (hb hby z20_106) rfl (XT.i0_eq_t (by decide)) (by decide) (by decide) (XS.iload X16.here hx rfl (hb hby z20_118) rfl  k))) ?_
  exact Go.retI X16 hx Bd.notSynchronized Bd.returns (hb hby z20_120) (by rw [e16]; exact ⟨rfl, N16, K16, V16⟩) (by decide) (by decide)
theorem efGc5 (m : MethodId) (x0 : Int32) (x2 : Addr) : entryFrame m #[(.int x0), (.int 7), (.ref x2)] 7 = mkF m 0 #[iv x0, iv 7, rv x2, .unset, .unset, .unset, .unset] [] := by first | (simp [entryFrame, mkF, argsToLocals, Value.category]; done) | rfl
def QGc5 (Z : State) (pv : Int32) (ar : Addr) (r1 : Addr) (r2 : Addr) (kr1 : ClassId) (kr2 : ClassId) (kA : ClassId) (h0 : Heap) (n0 : Nat) (v : Option Value) (h : Heap) (L : List Loc) : Prop := v = some (.int 2) ∧ Fr n0 L ∧ Keep h0 h [ar] ∧ Arv Z h ar kA .byte (16 : Int32) [(.int 36), (.int 91), (.int (own_dig pv 10000)), (.int (own_dig pv 1000)), (.int (own_dig pv 100)), (.int (own_dig pv 10)), (.int (own_dig pv 1)), (.int 0), (.int 0), (.int 0), (.int 0), (.int 0), (.int 0), (.int 0), (.int 0), (.int 0)] (.int 0)
set_option maxRecDepth 65536 in
set_option maxHeartbeats 40000000 in
theorem rmGc5 (l : Launch) (Z : State) (a0 : Array Value) (hw : ∀ d ∈ tables_1, d.before a0 Z = true) (ws : List Jvm.Cond) (pv : Int32) (ar : Addr) (r1 : Addr) (r2 : Addr) (kr1 : ClassId) (kr2 : ClassId) (kA : ClassId) (h0 : Heap) (n0 : Nat) (Z0 : n0 ≤ h0.size) (g_ar : n0 ≤ ar) (Sr1 : Sta Z h0 "java/lang/Integer" "DigitOnes" "[B" (.ref r1)) (Sr2 : Sta Z h0 "java/lang/Integer" "DigitTens" "[B" (.ref r2)) (Vr1 : Arv Z h0 r1 kr1 .byte (100 : Int32) own_ones (.int 0)) (Vr2 : Arv Z h0 r2 kr2 .byte (100 : Int32) own_tens (.int 0)) (Va : Arv Z h0 ar kA .byte (16 : Int32) [(.int 36), (.int 91), (.int 0), (.int 0), (.int 0), (.int 0), (.int 0), (.int 0), (.int 0), (.int 0), (.int 0), (.int 0), (.int 0), (.int 0), (.int 0), (.int 0)] (.int 0)) (hv0 : ¬ pv < 0) (hlo : ¬ pv < 10000) (hhi : pv < 100000) (hr1 : r1 ≠ ar) (hr2 : r2 ≠ ar) :
    MetFree l (⟨"java/lang/Integer", "getChars", "(II[B)I"⟩ : MethodName) (head1 (Jvm.Cond.code (⟨"java/lang/Integer", "getChars", "(II[B)I"⟩ : MethodName) jdk_33_method_12_code 7 (some .int) :: ws) ({ frames := 0, cells := 0, slots := 0, locals := 0 } : Room)) (fun as' U => as' = #[(.int pv), (.int 7), (.ref ar)] ∧ Z.Warmed39 U.vm ∧ U.heap = h0) (fun _ _ _ _ _ => True) (fun _ U o U' => ∃ v L, o = .returned v ∧ QGc5 Z pv ar r1 r2 kr1 kr2 kA h0 n0 v U'.heap L ∧ FrameEnd U o U' L ({ frames := 0, cells := 0, slots := 0, locals := 0 } : Room).cells ({ frames := 0, cells := 0, slots := 0, locals := 0 } : Room).slots) := by
  refine MetFree.of_bodySF (plainFor_of_name pn_java_lang_Integer) hisR ?_
  intro p e s m args below meth c s₁ Bd hml0 hP hK
  obtain ⟨rfl, hZ, hh⟩ := hP
  have hx := Bd.exec
  have hby := Bd.bytes
  have hml : c.maxLocals = 7 := hml0
  have hown : s.vm.findClass "java/lang/Integer" = some m.cls := findClass_of_methodNamed Bd.named
  have hnm := (name_of_methodNamed Bd.named Bd.method).1
  have X0 : Stand p l e ({ frames := 0, cells := 0, slots := 0, locals := 0 } : Room) s m #[(.int pv), (.int 7), (.ref ar)] below meth c s₁ [] 0 0 := Stand.of_body Bd
  have e0 : s₁.heap = h0 := by rw [← hh, Bd.state]; rfl
  have N0 := Fr.nil n0
  show Go p e below s (fun v h L => QGc5 Z pv ar r1 r2 kr1 kr2 kA h0 n0 v h L) 0 0 _
  refine Go.pull (V := s₁.setTop (mkF m 0 #[iv pv, iv 7, rv ar, .unset, .unset, .unset, .unset] [])) (fun t k => castTop (efGc5 m pv ar) k) ?_
  refine Go.pull (V := s₁.setTop (mkF m 12 #[iv pv, iv 7, rv ar, .unset, .unset, iv 7, .unset] [(.int 0)])) (fun t k => XS.iloadN X0.here hx rfl (hb hby z20_0) rfl  (XS.istore X0.here hx rfl (hb hby z20_1) rfl (l' := #[iv pv, iv 7, rv ar, .unset, .unset, iv 7, .unset]) rfl (XS.iloadN X0.here hx rfl (hb hby z20_3) rfl  (XS.ifYes X0.here hx rfl (pc0 := 4) (pc' := 11) rfl (hb hby z20_4) rfl (XT.i0_ge_t hv0) (by decide) (by decide) (XS.iconst X0.here hx rfl (hb hby z20_11) k))))) ?_
  refine Go.pull (V := s₁.setTop (mkF m 21 #[iv pv, iv 7, rv ar, .unset, .unset, iv 7, iv 0] [(.int (-pv))])) (fun t k => XS.istore X0.here hx rfl (hb hby z20_12) rfl (l' := #[iv pv, iv 7, rv ar, .unset, .unset, iv 7, iv 0]) rfl (XS.iload X0.here hx rfl (hb hby z20_14) rfl  (XS.ifNo X0.here hx rfl (hb hby z20_16) rfl (XT.i0_ne_f (by decide)) (XS.iloadN X0.here hx rfl (hb hby z20_19) rfl  (XS.ineg X0.here hx rfl (hb hby z20_20) rfl k))))) ?_
  refine Go.pull (V := s₁.setTop (mkF m 22 #[iv (-pv), iv 7, rv ar, .unset, .unset, iv 7, iv 0] [])) (fun t k => XS.istoreN X0.here hx rfl (hb hby z20_21) rfl (l' := #[iv (-pv), iv 7, rv ar, .unset, .unset, iv 7, iv 0]) rfl k) ?_
  generalize hg0 : (-pv) = q0
  have hq0 : q0.toInt = -(pv.toInt / 1) := hg0 ▸ own_turn0 hv0
  refine Go.pull (V := s₁.setTop (mkF m 31 #[iv q0, iv 7, rv ar, .unset, .unset, iv 7, iv 0] [(.int 100), (.int q0)])) (fun t k => XS.iloadN X0.here hx rfl (hb hby z20_22) rfl  (XS.bipush X0.here hx rfl (hb hby z20_23) (XS.icmpNo X0.here hx rfl (hb hby z20_25) rfl (XT.ii_gt_f (own_b25f hv0 (by decide) hq0 (own_lo hlo (by decide)))) (XS.iloadN X0.here hx rfl (hb hby z20_28) rfl  (XS.bipush X0.here hx rfl (hb hby z20_29) k))))) ?_
  refine Go.pull (V := s₁.setTop (mkF m 37 #[iv q0, iv 7, rv ar, iv (q0 / (100 : Int32)), .unset, iv 7, iv 0] [(.int ((q0 / (100 : Int32)) * (100 : Int32)))])) (fun t k => XS.idiv X0.here hx rfl (hb hby z20_31) rfl (by decide) (XS.istoreN X0.here hx rfl (hb hby z20_32) rfl (l' := #[iv q0, iv 7, rv ar, iv (q0 / (100 : Int32)), .unset, iv 7, iv 0]) rfl (XS.iloadN X0.here hx rfl (hb hby z20_33) rfl  (XS.bipush X0.here hx rfl (hb hby z20_34) (XS.imul X0.here hx rfl (hb hby z20_36) rfl k))))) ?_
  refine Go.pull (V := s₁.setTop (mkF m 43 #[iv (q0 / (100 : Int32)), iv 7, rv ar, iv (q0 / (100 : Int32)), iv (((q0 / (100 : Int32)) * (100 : Int32)) - q0), iv 7, iv 0] [])) (fun t k => XS.iloadN X0.here hx rfl (hb hby z20_37) rfl  (XS.isub X0.here hx rfl (hb hby z20_38) rfl (XS.istore X0.here hx rfl (hb hby z20_39) rfl (l' := #[iv q0, iv 7, rv ar, iv (q0 / (100 : Int32)), iv (((q0 / (100 : Int32)) * (100 : Int32)) - q0), iv 7, iv 0]) rfl (XS.iloadN X0.here hx rfl (hb hby z20_41) rfl  (XS.istoreN X0.here hx rfl (hb hby z20_42) rfl (l' := #[iv (q0 / (100 : Int32)), iv 7, rv ar, iv (q0 / (100 : Int32)), iv (((q0 / (100 : Int32)) * (100 : Int32)) - q0), iv 7, iv 0]) rfl k))))) ?_
  generalize hh0 : (((q0 / (100 : Int32)) * (100 : Int32)) - q0) = w0
  have hr0' : w0.toInt = (pv.toInt / 1) % 100 := hh0 ▸ own_rem hv0 (by decide) hq0
  refine Go.pull (V := s₁.setTop (mkF m 49 #[iv (q0 / (100 : Int32)), iv 7, rv ar, iv (q0 / (100 : Int32)), iv w0, iv 6, iv 0] [(.int 6), (.ref ar)])) (fun t k => XS.aloadN X0.here hx rfl (hb hby z20_43) rfl rfl (XS.iinc X0.here hx rfl (hb hby z20_44) rfl (l' := #[iv (q0 / (100 : Int32)), iv 7, rv ar, iv (q0 / (100 : Int32)), iv w0, iv 6, iv 0]) rfl (XS.iload X0.here hx rfl (hb hby z20_47) rfl  k))) ?_
  obtain ⟨T1, X1, e1, st1⟩ := getS2 X0 hx hZ hown (host := "") (Or.inl (hw _ (List.mem_of_getElem? (i := 152) rfl))) Via.refl e0 Sr1 (g := (mkF m 49 #[iv (q0 / (100 : Int32)), iv 7, rv ar, iv (q0 / (100 : Int32)), iv w0, iv 6, iv 0] [(.int 6), (.ref ar)])) rfl (hb hby z20_49)
  refine Go.pull (V := T1.setTop (mkF m 52 #[iv (q0 / (100 : Int32)), iv 7, rv ar, iv (q0 / (100 : Int32)), iv w0, iv 6, iv 0] [(.ref r1), (.int 6), (.ref ar)])) st1 ?_
  refine Go.pull (V := T1.setTop (mkF m 54 #[iv (q0 / (100 : Int32)), iv 7, rv ar, iv (q0 / (100 : Int32)), iv w0, iv 6, iv 0] [(.int w0), (.ref r1), (.int 6), (.ref ar)])) (fun t k => XS.iload X1.here hx rfl (hb hby z20_52) rfl  k) ?_
  obtain ⟨cl2, Ar2, q2, S2, M2, Hs2, G2⟩ := id Vr1
  have hin2 : ¬ (w0 < 0 ∨ cl2.slots.size ≤ (w0).toNatClampNeg) := inb_of S2 (own_in hr0')
  have hat2 : cl2.slots[(w0).toNatClampNeg]? = some (.int (own_dig pv 1)) := Has.at Hs2 hin2 (own_one hv0 (by decide : (0 : Int) < 1) (by decide) hr0')
  refine Go.pull (V := T1.setTop (mkF m 55 #[iv (q0 / (100 : Int32)), iv 7, rv ar, iv (q0 / (100 : Int32)), iv w0, iv 6, iv 0] [(.int (own_dig pv 1)), (.int 6), (.ref ar)])) (fun t k => X1.baloadBytes hx (j := w0) (v := (.int (own_dig pv 1))) (by rw [e1]; exact Ar2.1) (State.isArrayOf_alike hZ.alike Ar2.2.1) Ar2.2.2 hin2 hat2 (g := (mkF m 54 #[iv (q0 / (100 : Int32)), iv 7, rv ar, iv (q0 / (100 : Int32)), iv w0, iv 6, iv 0] [(.int w0), (.ref r1), (.int 6), (.ref ar)])) rfl rfl (hb hby z20_54) _ k) ?_
  obtain ⟨cl3, Ar3, q3, S3, M3, Hs3, G3⟩ := id Va
  have hin3 : ¬ ((6 : Int32) < 0 ∨ cl3.slots.size ≤ ((6 : Int32)).toNatClampNeg) := inb_of S3 ⟨by decide, by decide⟩
  obtain ⟨T4, h4, X4, e4, W4, st4⟩ := stB X1 hx hZ e1 Ar3 (j := (6 : Int32)) hin3 (g := (mkF m 55 #[iv (q0 / (100 : Int32)), iv 7, rv ar, iv (q0 / (100 : Int32)), iv w0, iv 6, iv 0] [(.int (own_dig pv 1)), (.int 6), (.ref ar)])) rfl rfl (hb hby z20_55)
  rw [own_narb (pv := pv) (pc := 1) (c := 1) hv0 (by decide) (by decide)] at W4
  have V4 : Arv Z h4 ar kA .byte (16 : Int32) [(.int 36), (.int 91), (.int 0), (.int 0), (.int 0), (.int 0), (.int (own_dig pv 1)), (.int 0), (.int 0), (.int 0), (.int 0), (.int 0), (.int 0), (.int 0), (.int 0), (.int 0)] (.int 0) := Arv.set Ar3 q3 S3 M3 Hs3 G3 (own_narb (pv := pv) (pc := 1) (c := 1) hv0 (by decide) (by decide) ▸ fits_nar_byte _) W4 6 rfl (Nat.le_of_ble_eq_true rfl)
  have K4 : Keep h0 h4 [ar] := (Keep.refl h0 [ar]).wr W4 (Or.inl (List.mem_of_getElem? (i := 0) rfl))
  have N4 := Fr.snoc X4 N0 g_ar
  refine Go.pull (V := T4.setTop (mkF m 56 #[iv (q0 / (100 : Int32)), iv 7, rv ar, iv (q0 / (100 : Int32)), iv w0, iv 6, iv 0] [])) st4 ?_
  refine Go.pull (V := T4.setTop (mkF m 62 #[iv (q0 / (100 : Int32)), iv 7, rv ar, iv (q0 / (100 : Int32)), iv w0, iv 5, iv 0] [(.int 5), (.ref ar)])) (fun t k => XS.aloadN X4.here hx rfl (hb hby z20_56) rfl rfl (XS.iinc X4.here hx rfl (hb hby z20_57) rfl (l' := #[iv (q0 / (100 : Int32)), iv 7, rv ar, iv (q0 / (100 : Int32)), iv w0, iv 5, iv 0]) rfl (XS.iload X4.here hx rfl (hb hby z20_60) rfl  k))) ?_
  obtain ⟨T5, X5, e5, st5⟩ := getS2 X4 hx hZ hown (host := "") (Or.inl (hw _ (List.mem_of_getElem? (i := 153) rfl))) Via.refl e4 (Sr2.wr W4) (g := (mkF m 62 #[iv (q0 / (100 : Int32)), iv 7, rv ar, iv (q0 / (100 : Int32)), iv w0, iv 5, iv 0] [(.int 5), (.ref ar)])) rfl (hb hby z20_62)
  refine Go.pull (V := T5.setTop (mkF m 65 #[iv (q0 / (100 : Int32)), iv 7, rv ar, iv (q0 / (100 : Int32)), iv w0, iv 5, iv 0] [(.ref r2), (.int 5), (.ref ar)])) st5 ?_
  refine Go.pull (V := T5.setTop (mkF m 67 #[iv (q0 / (100 : Int32)), iv 7, rv ar, iv (q0 / (100 : Int32)), iv w0, iv 5, iv 0] [(.int w0), (.ref r2), (.int 5), (.ref ar)])) (fun t k => XS.iload X5.here hx rfl (hb hby z20_65) rfl  k) ?_
  obtain ⟨cl6, Ar6, q6, S6, M6, Hs6, G6⟩ := id (Vr2.other W4 hr2)
  have hin6 : ¬ (w0 < 0 ∨ cl6.slots.size ≤ (w0).toNatClampNeg) := inb_of S6 (own_in hr0')
  have hat6 : cl6.slots[(w0).toNatClampNeg]? = some (.int (own_dig pv 10)) := Has.at Hs6 hin6 (own_ten hv0 (by decide : (0 : Int) < 1) rfl (by decide) hr0')
  refine Go.pull (V := T5.setTop (mkF m 68 #[iv (q0 / (100 : Int32)), iv 7, rv ar, iv (q0 / (100 : Int32)), iv w0, iv 5, iv 0] [(.int (own_dig pv 10)), (.int 5), (.ref ar)])) (fun t k => X5.baloadBytes hx (j := w0) (v := (.int (own_dig pv 10))) (by rw [e5]; exact Ar6.1) (State.isArrayOf_alike hZ.alike Ar6.2.1) Ar6.2.2 hin6 hat6 (g := (mkF m 67 #[iv (q0 / (100 : Int32)), iv 7, rv ar, iv (q0 / (100 : Int32)), iv w0, iv 5, iv 0] [(.int w0), (.ref r2), (.int 5), (.ref ar)])) rfl rfl (hb hby z20_67) _ k) ?_
  obtain ⟨cl7, Ar7, q7, S7, M7, Hs7, G7⟩ := id V4
  have hin7 : ¬ ((5 : Int32) < 0 ∨ cl7.slots.size ≤ ((5 : Int32)).toNatClampNeg) := inb_of S7 ⟨by decide, by decide⟩
  obtain ⟨T8, h8, X8, e8, W8, st8⟩ := stB X5 hx hZ e5 Ar7 (j := (5 : Int32)) hin7 (g := (mkF m 68 #[iv (q0 / (100 : Int32)), iv 7, rv ar, iv (q0 / (100 : Int32)), iv w0, iv 5, iv 0] [(.int (own_dig pv 10)), (.int 5), (.ref ar)])) rfl rfl (hb hby z20_68)
  rw [own_narb (pv := pv) (pc := 10) (c := 10) hv0 (by decide) (by decide)] at W8
  have V8 : Arv Z h8 ar kA .byte (16 : Int32) [(.int 36), (.int 91), (.int 0), (.int 0), (.int 0), (.int (own_dig pv 10)), (.int (own_dig pv 1)), (.int 0), (.int 0), (.int 0), (.int 0), (.int 0), (.int 0), (.int 0), (.int 0), (.int 0)] (.int 0) := Arv.set Ar7 q7 S7 M7 Hs7 G7 (own_narb (pv := pv) (pc := 10) (c := 10) hv0 (by decide) (by decide) ▸ fits_nar_byte _) W8 5 rfl (Nat.le_of_ble_eq_true rfl)
  have K8 : Keep h0 h8 [ar] := K4.wr W8 (Or.inl (List.mem_of_getElem? (i := 0) rfl))
  have N8 := Fr.snoc X8 N4 g_ar
  refine Go.pull (V := T8.setTop (mkF m 69 #[iv (q0 / (100 : Int32)), iv 7, rv ar, iv (q0 / (100 : Int32)), iv w0, iv 5, iv 0] [])) st8 ?_
  refine Go.pull (V := T8.setTop (mkF m 22 #[iv (q0 / (100 : Int32)), iv 7, rv ar, iv (q0 / (100 : Int32)), iv w0, iv 5, iv 0] [])) (fun t k => XS.goto X8.here hx rfl (pc0 := 69) (pc' := 22) rfl (hb hby z20_69) (by decide) (by decide) k) ?_
  generalize hg1 : (q0 / (100 : Int32)) = q1
  have hq1 : q1.toInt = -(pv.toInt / 100) := hg1 ▸ own_turn (c := 1) hv0 (by decide) rfl hq0
  refine Go.pull (V := T8.setTop (mkF m 31 #[iv q1, iv 7, rv ar, iv q1, iv w0, iv 5, iv 0] [(.int 100), (.int q1)])) (fun t k => XS.iloadN X8.here hx rfl (hb hby z20_22) rfl  (XS.bipush X8.here hx rfl (hb hby z20_23) (XS.icmpNo X8.here hx rfl (hb hby z20_25) rfl (XT.ii_gt_f (own_b25f hv0 (by decide) hq1 (own_lo hlo (by decide)))) (XS.iloadN X8.here hx rfl (hb hby z20_28) rfl  (XS.bipush X8.here hx rfl (hb hby z20_29) k))))) ?_
  refine Go.pull (V := T8.setTop (mkF m 37 #[iv q1, iv 7, rv ar, iv (q1 / (100 : Int32)), iv w0, iv 5, iv 0] [(.int ((q1 / (100 : Int32)) * (100 : Int32)))])) (fun t k => XS.idiv X8.here hx rfl (hb hby z20_31) rfl (by decide) (XS.istoreN X8.here hx rfl (hb hby z20_32) rfl (l' := #[iv q1, iv 7, rv ar, iv (q1 / (100 : Int32)), iv w0, iv 5, iv 0]) rfl (XS.iloadN X8.here hx rfl (hb hby z20_33) rfl  (XS.bipush X8.here hx rfl (hb hby z20_34) (XS.imul X8.here hx rfl (hb hby z20_36) rfl k))))) ?_
  refine Go.pull (V := T8.setTop (mkF m 43 #[iv (q1 / (100 : Int32)), iv 7, rv ar, iv (q1 / (100 : Int32)), iv (((q1 / (100 : Int32)) * (100 : Int32)) - q1), iv 5, iv 0] [])) (fun t k => XS.iloadN X8.here hx rfl (hb hby z20_37) rfl  (XS.isub X8.here hx rfl (hb hby z20_38) rfl (XS.istore X8.here hx rfl (hb hby z20_39) rfl (l' := #[iv q1, iv 7, rv ar, iv (q1 / (100 : Int32)), iv (((q1 / (100 : Int32)) * (100 : Int32)) - q1), iv 5, iv 0]) rfl (XS.iloadN X8.here hx rfl (hb hby z20_41) rfl  (XS.istoreN X8.here hx rfl (hb hby z20_42) rfl (l' := #[iv (q1 / (100 : Int32)), iv 7, rv ar, iv (q1 / (100 : Int32)), iv (((q1 / (100 : Int32)) * (100 : Int32)) - q1), iv 5, iv 0]) rfl k))))) ?_
  generalize hh1 : (((q1 / (100 : Int32)) * (100 : Int32)) - q1) = w1
  have hr1' : w1.toInt = (pv.toInt / 100) % 100 := hh1 ▸ own_rem hv0 (by decide) hq1
  refine Go.pull (V := T8.setTop (mkF m 49 #[iv (q1 / (100 : Int32)), iv 7, rv ar, iv (q1 / (100 : Int32)), iv w1, iv 4, iv 0] [(.int 4), (.ref ar)])) (fun t k => XS.aloadN X8.here hx rfl (hb hby z20_43) rfl rfl (XS.iinc X8.here hx rfl (hb hby z20_44) rfl (l' := #[iv (q1 / (100 : Int32)), iv 7, rv ar, iv (q1 / (100 : Int32)), iv w1, iv 4, iv 0]) rfl (XS.iload X8.here hx rfl (hb hby z20_47) rfl  k))) ?_
  obtain ⟨T9, X9, e9, st9⟩ := getS2 X8 hx hZ hown (host := "") (Or.inl (hw _ (List.mem_of_getElem? (i := 152) rfl))) Via.refl e8 ((Sr1.wr W4).wr W8) (g := (mkF m 49 #[iv (q1 / (100 : Int32)), iv 7, rv ar, iv (q1 / (100 : Int32)), iv w1, iv 4, iv 0] [(.int 4), (.ref ar)])) rfl (hb hby z20_49)
  refine Go.pull (V := T9.setTop (mkF m 52 #[iv (q1 / (100 : Int32)), iv 7, rv ar, iv (q1 / (100 : Int32)), iv w1, iv 4, iv 0] [(.ref r1), (.int 4), (.ref ar)])) st9 ?_
  refine Go.pull (V := T9.setTop (mkF m 54 #[iv (q1 / (100 : Int32)), iv 7, rv ar, iv (q1 / (100 : Int32)), iv w1, iv 4, iv 0] [(.int w1), (.ref r1), (.int 4), (.ref ar)])) (fun t k => XS.iload X9.here hx rfl (hb hby z20_52) rfl  k) ?_
  obtain ⟨cl10, Ar10, q10, S10, M10, Hs10, G10⟩ := id ((Vr1.other W4 hr1).other W8 hr1)
  have hin10 : ¬ (w1 < 0 ∨ cl10.slots.size ≤ (w1).toNatClampNeg) := inb_of S10 (own_in hr1')
  have hat10 : cl10.slots[(w1).toNatClampNeg]? = some (.int (own_dig pv 100)) := Has.at Hs10 hin10 (own_one hv0 (by decide : (0 : Int) < 100) (by decide) hr1')
  refine Go.pull (V := T9.setTop (mkF m 55 #[iv (q1 / (100 : Int32)), iv 7, rv ar, iv (q1 / (100 : Int32)), iv w1, iv 4, iv 0] [(.int (own_dig pv 100)), (.int 4), (.ref ar)])) (fun t k => X9.baloadBytes hx (j := w1) (v := (.int (own_dig pv 100))) (by rw [e9]; exact Ar10.1) (State.isArrayOf_alike hZ.alike Ar10.2.1) Ar10.2.2 hin10 hat10 (g := (mkF m 54 #[iv (q1 / (100 : Int32)), iv 7, rv ar, iv (q1 / (100 : Int32)), iv w1, iv 4, iv 0] [(.int w1), (.ref r1), (.int 4), (.ref ar)])) rfl rfl (hb hby z20_54) _ k) ?_
  obtain ⟨cl11, Ar11, q11, S11, M11, Hs11, G11⟩ := id V8
  have hin11 : ¬ ((4 : Int32) < 0 ∨ cl11.slots.size ≤ ((4 : Int32)).toNatClampNeg) := inb_of S11 ⟨by decide, by decide⟩
  obtain ⟨T12, h12, X12, e12, W12, st12⟩ := stB X9 hx hZ e9 Ar11 (j := (4 : Int32)) hin11 (g := (mkF m 55 #[iv (q1 / (100 : Int32)), iv 7, rv ar, iv (q1 / (100 : Int32)), iv w1, iv 4, iv 0] [(.int (own_dig pv 100)), (.int 4), (.ref ar)])) rfl rfl (hb hby z20_55)
  rw [own_narb (pv := pv) (pc := 100) (c := 100) hv0 (by decide) (by decide)] at W12
  have V12 : Arv Z h12 ar kA .byte (16 : Int32) [(.int 36), (.int 91), (.int 0), (.int 0), (.int (own_dig pv 100)), (.int (own_dig pv 10)), (.int (own_dig pv 1)), (.int 0), (.int 0), (.int 0), (.int 0), (.int 0), (.int 0), (.int 0), (.int 0), (.int 0)] (.int 0) := Arv.set Ar11 q11 S11 M11 Hs11 G11 (own_narb (pv := pv) (pc := 100) (c := 100) hv0 (by decide) (by decide) ▸ fits_nar_byte _) W12 4 rfl (Nat.le_of_ble_eq_true rfl)
  have K12 : Keep h0 h12 [ar] := K8.wr W12 (Or.inl (List.mem_of_getElem? (i := 0) rfl))
  have N12 := Fr.snoc X12 N8 g_ar
  refine Go.pull (V := T12.setTop (mkF m 56 #[iv (q1 / (100 : Int32)), iv 7, rv ar, iv (q1 / (100 : Int32)), iv w1, iv 4, iv 0] [])) st12 ?_
  refine Go.pull (V := T12.setTop (mkF m 62 #[iv (q1 / (100 : Int32)), iv 7, rv ar, iv (q1 / (100 : Int32)), iv w1, iv 3, iv 0] [(.int 3), (.ref ar)])) (fun t k => XS.aloadN X12.here hx rfl (hb hby z20_56) rfl rfl (XS.iinc X12.here hx rfl (hb hby z20_57) rfl (l' := #[iv (q1 / (100 : Int32)), iv 7, rv ar, iv (q1 / (100 : Int32)), iv w1, iv 3, iv 0]) rfl (XS.iload X12.here hx rfl (hb hby z20_60) rfl  k))) ?_
  obtain ⟨T13, X13, e13, st13⟩ := getS2 X12 hx hZ hown (host := "") (Or.inl (hw _ (List.mem_of_getElem? (i := 153) rfl))) Via.refl e12 (((Sr2.wr W4).wr W8).wr W12) (g := (mkF m 62 #[iv (q1 / (100 : Int32)), iv 7, rv ar, iv (q1 / (100 : Int32)), iv w1, iv 3, iv 0] [(.int 3), (.ref ar)])) rfl (hb hby z20_62)
  refine Go.pull (V := T13.setTop (mkF m 65 #[iv (q1 / (100 : Int32)), iv 7, rv ar, iv (q1 / (100 : Int32)), iv w1, iv 3, iv 0] [(.ref r2), (.int 3), (.ref ar)])) st13 ?_
  refine Go.pull (V := T13.setTop (mkF m 67 #[iv (q1 / (100 : Int32)), iv 7, rv ar, iv (q1 / (100 : Int32)), iv w1, iv 3, iv 0] [(.int w1), (.ref r2), (.int 3), (.ref ar)])) (fun t k => XS.iload X13.here hx rfl (hb hby z20_65) rfl  k) ?_
  obtain ⟨cl14, Ar14, q14, S14, M14, Hs14, G14⟩ := id (((Vr2.other W4 hr2).other W8 hr2).other W12 hr2)
  have hin14 : ¬ (w1 < 0 ∨ cl14.slots.size ≤ (w1).toNatClampNeg) := inb_of S14 (own_in hr1')
  have hat14 : cl14.slots[(w1).toNatClampNeg]? = some (.int (own_dig pv 1000)) := Has.at Hs14 hin14 (own_ten hv0 (by decide : (0 : Int) < 100) rfl (by decide) hr1')
  refine Go.pull (V := T13.setTop (mkF m 68 #[iv (q1 / (100 : Int32)), iv 7, rv ar, iv (q1 / (100 : Int32)), iv w1, iv 3, iv 0] [(.int (own_dig pv 1000)), (.int 3), (.ref ar)])) (fun t k => X13.baloadBytes hx (j := w1) (v := (.int (own_dig pv 1000))) (by rw [e13]; exact Ar14.1) (State.isArrayOf_alike hZ.alike Ar14.2.1) Ar14.2.2 hin14 hat14 (g := (mkF m 67 #[iv (q1 / (100 : Int32)), iv 7, rv ar, iv (q1 / (100 : Int32)), iv w1, iv 3, iv 0] [(.int w1), (.ref r2), (.int 3), (.ref ar)])) rfl rfl (hb hby z20_67) _ k) ?_
  obtain ⟨cl15, Ar15, q15, S15, M15, Hs15, G15⟩ := id V12
  have hin15 : ¬ ((3 : Int32) < 0 ∨ cl15.slots.size ≤ ((3 : Int32)).toNatClampNeg) := inb_of S15 ⟨by decide, by decide⟩
  obtain ⟨T16, h16, X16, e16, W16, st16⟩ := stB X13 hx hZ e13 Ar15 (j := (3 : Int32)) hin15 (g := (mkF m 68 #[iv (q1 / (100 : Int32)), iv 7, rv ar, iv (q1 / (100 : Int32)), iv w1, iv 3, iv 0] [(.int (own_dig pv 1000)), (.int 3), (.ref ar)])) rfl rfl (hb hby z20_68)
  rw [own_narb (pv := pv) (pc := 1000) (c := 1000) hv0 (by decide) (by decide)] at W16
  have V16 : Arv Z h16 ar kA .byte (16 : Int32) [(.int 36), (.int 91), (.int 0), (.int (own_dig pv 1000)), (.int (own_dig pv 100)), (.int (own_dig pv 10)), (.int (own_dig pv 1)), (.int 0), (.int 0), (.int 0), (.int 0), (.int 0), (.int 0), (.int 0), (.int 0), (.int 0)] (.int 0) := Arv.set Ar15 q15 S15 M15 Hs15 G15 (own_narb (pv := pv) (pc := 1000) (c := 1000) hv0 (by decide) (by decide) ▸ fits_nar_byte _) W16 3 rfl (Nat.le_of_ble_eq_true rfl)
  have K16 : Keep h0 h16 [ar] := K12.wr W16 (Or.inl (List.mem_of_getElem? (i := 0) rfl))
  have N16 := Fr.snoc X16 N12 g_ar
  refine Go.pull (V := T16.setTop (mkF m 69 #[iv (q1 / (100 : Int32)), iv 7, rv ar, iv (q1 / (100 : Int32)), iv w1, iv 3, iv 0] [])) st16 ?_
  refine Go.pull (V := T16.setTop (mkF m 22 #[iv (q1 / (100 : Int32)), iv 7, rv ar, iv (q1 / (100 : Int32)), iv w1, iv 3, iv 0] [])) (fun t k => XS.goto X16.here hx rfl (pc0 := 69) (pc' := 22) rfl (hb hby z20_69) (by decide) (by decide) k) ?_
  generalize hg2 : (q1 / (100 : Int32)) = q2
  have hq2 : q2.toInt = -(pv.toInt / 10000) := hg2 ▸ own_turn (c := 100) hv0 (by decide) rfl hq1
  refine Go.pull (V := T16.setTop (mkF m 76 #[iv q2, iv 7, rv ar, iv q2, iv w1, iv 2, iv 0] [(.ref ar)])) (fun t k => XS.iloadN X16.here hx rfl (hb hby z20_22) rfl  (XS.bipush X16.here hx rfl (hb hby z20_23) (XS.icmpYes X16.here hx rfl (pc0 := 25) (pc' := 72) rfl (hb hby z20_25) rfl (XT.ii_gt_t (own_b25t hq2 (by have := own_nn hv0; have := Int32.lt_iff_toInt_lt.mp hhi; simp only [show (100000 : Int32).toInt = 100000 from rfl] at this; omega))) (by decide) (by decide) (XS.aloadN X16.here hx rfl (hb hby z20_72) rfl rfl (XS.iinc X16.here hx rfl (hb hby z20_73) rfl (l' := #[iv q2, iv 7, rv ar, iv q2, iv w1, iv 2, iv 0]) rfl k))))) ?_
  refine Go.pull (V := T16.setTop (mkF m 78 #[iv q2, iv 7, rv ar, iv q2, iv w1, iv 2, iv 0] [(.int 2), (.ref ar)])) (fun t k => XS.iload X16.here hx rfl (hb hby z20_76) rfl  k) ?_
  obtain ⟨T17, X17, e17, st17⟩ := getS2 X16 hx hZ hown (host := "") (Or.inl (hw _ (List.mem_of_getElem? (i := 152) rfl))) Via.refl e16 ((((Sr1.wr W4).wr W8).wr W12).wr W16) (g := (mkF m 78 #[iv q2, iv 7, rv ar, iv q2, iv w1, iv 2, iv 0] [(.int 2), (.ref ar)])) rfl (hb hby z20_78)
  refine Go.pull (V := T17.setTop (mkF m 81 #[iv q2, iv 7, rv ar, iv q2, iv w1, iv 2, iv 0] [(.ref r1), (.int 2), (.ref ar)])) st17 ?_
  refine Go.pull (V := T17.setTop (mkF m 83 #[iv q2, iv 7, rv ar, iv q2, iv w1, iv 2, iv 0] [(.int (-q2)), (.ref r1), (.int 2), (.ref ar)])) (fun t k => XS.iloadN X17.here hx rfl (hb hby z20_81) rfl  (XS.ineg X17.here hx rfl (hb hby z20_82) rfl k)) ?_
  have hr2' : (-q2).toInt = (pv.toInt / 10000) % 100 := own_last hv0 (by decide) (by have := own_nn hv0; have := Int32.lt_iff_toInt_lt.mp hhi; simp only [show (100000 : Int32).toInt = 100000 from rfl] at this; omega) hq2
  obtain ⟨cl18, Ar18, q18, S18, M18, Hs18, G18⟩ := id ((((Vr1.other W4 hr1).other W8 hr1).other W12 hr1).other W16 hr1)
  have hin18 : ¬ ((-q2) < 0 ∨ cl18.slots.size ≤ ((-q2)).toNatClampNeg) := inb_of S18 (own_in hr2')
  have hat18 : cl18.slots[((-q2)).toNatClampNeg]? = some (.int (own_dig pv 10000)) := Has.at Hs18 hin18 (own_one hv0 (by decide : (0 : Int) < 10000) (by decide) hr2')
  refine Go.pull (V := T17.setTop (mkF m 84 #[iv q2, iv 7, rv ar, iv q2, iv w1, iv 2, iv 0] [(.int (own_dig pv 10000)), (.int 2), (.ref ar)])) (fun t k => X17.baloadBytes hx (j := (-q2)) (v := (.int (own_dig pv 10000))) (by rw [e17]; exact Ar18.1) (State.isArrayOf_alike hZ.alike Ar18.2.1) Ar18.2.2 hin18 hat18 (g := (mkF m 83 #[iv q2, iv 7, rv ar, iv q2, iv w1, iv 2, iv 0] [(.int (-q2)), (.ref r1), (.int 2), (.ref ar)])) rfl rfl (hb hby z20_83) _ k) ?_
  obtain ⟨cl19, Ar19, q19, S19, M19, Hs19, G19⟩ := id V16
  have hin19 : ¬ ((2 : Int32) < 0 ∨ cl19.slots.size ≤ ((2 : Int32)).toNatClampNeg) := inb_of S19 ⟨by decide, by decide⟩
  obtain ⟨T20, h20, X20, e20, W20, st20⟩ := stB X17 hx hZ e17 Ar19 (j := (2 : Int32)) hin19 (g := (mkF m 84 #[iv q2, iv 7, rv ar, iv q2, iv w1, iv 2, iv 0] [(.int (own_dig pv 10000)), (.int 2), (.ref ar)])) rfl rfl (hb hby z20_84)
  rw [own_narb (pv := pv) (pc := 10000) (c := 10000) hv0 (by decide) (by decide)] at W20
  have V20 : Arv Z h20 ar kA .byte (16 : Int32) [(.int 36), (.int 91), (.int (own_dig pv 10000)), (.int (own_dig pv 1000)), (.int (own_dig pv 100)), (.int (own_dig pv 10)), (.int (own_dig pv 1)), (.int 0), (.int 0), (.int 0), (.int 0), (.int 0), (.int 0), (.int 0), (.int 0), (.int 0)] (.int 0) := Arv.set Ar19 q19 S19 M19 Hs19 G19 (own_narb (pv := pv) (pc := 10000) (c := 10000) hv0 (by decide) (by decide) ▸ fits_nar_byte _) W20 2 rfl (Nat.le_of_ble_eq_true rfl)
  have K20 : Keep h0 h20 [ar] := K16.wr W20 (Or.inl (List.mem_of_getElem? (i := 0) rfl))
  have N20 := Fr.snoc X20 N16 g_ar
  refine Go.pull (V := T20.setTop (mkF m 85 #[iv q2, iv 7, rv ar, iv q2, iv w1, iv 2, iv 0] [])) st20 ?_
  refine Go.pull (V := T20.setTop (mkF m 118 #[iv q2, iv 7, rv ar, iv q2, iv w1, iv 2, iv 0] [])) (fun t k => XS.iloadN X20.here hx rfl (hb hby z20_85) rfl  (XS.bipush X20.here hx rfl (hb hby z20_86) (XS.icmpYes X20.here hx rfl (pc0 := 88) (pc' := 104) rfl (hb hby z20_88) rfl (XT.ii_ge_t (own_b88f hq2 (by have := own_nn hv0; have := Int32.lt_iff_toInt_lt.mp hhi; simp only [show (100000 : Int32).toInt = 100000 from rfl] at this; omega))) (by decide) (by decide) (XS.iload X20.here hx rfl (hb hby z20_104) rfl  (XS.ifYes X20.here hx rfl (pc0 := 106) (pc' := 118) rfl (hb hby z20_106) rfl (XT.i0_eq_t (by decide)) (by decide) (by decide) k))))) ?_
  refine Go.pull (V := T20.setTop (mkF m 120 #[iv q2, iv 7, rv ar, iv q2, iv w1, iv 2, iv 0] [(.int 2)])) (fun t k => XS.iload X20.here hx rfl (hb hby z20_118) rfl  k) ?_
  exact Go.retI X20 hx Bd.notSynchronized Bd.returns (hb hby z20_120) (by rw [e20]; exact ⟨rfl, N20, K20, V20⟩) (by decide) (by decide)
theorem efGc6 (m : MethodId) (x0 : Int32) (x2 : Addr) : entryFrame m #[(.int x0), (.int 8), (.ref x2)] 7 = mkF m 0 #[iv x0, iv 8, rv x2, .unset, .unset, .unset, .unset] [] := by first | (simp [entryFrame, mkF, argsToLocals, Value.category]; done) | rfl
def QGc6 (Z : State) (pv : Int32) (ar : Addr) (r1 : Addr) (r2 : Addr) (kr1 : ClassId) (kr2 : ClassId) (kA : ClassId) (h0 : Heap) (n0 : Nat) (v : Option Value) (h : Heap) (L : List Loc) : Prop := v = some (.int 2) ∧ Fr n0 L ∧ Keep h0 h [ar] ∧ Arv Z h ar kA .byte (16 : Int32) [(.int 36), (.int 91), (.int (own_dig pv 100000)), (.int (own_dig pv 10000)), (.int (own_dig pv 1000)), (.int (own_dig pv 100)), (.int (own_dig pv 10)), (.int (own_dig pv 1)), (.int 0), (.int 0), (.int 0), (.int 0), (.int 0), (.int 0), (.int 0), (.int 0)] (.int 0)
set_option maxRecDepth 65536 in
set_option maxHeartbeats 40000000 in
theorem rmGc6 (l : Launch) (Z : State) (a0 : Array Value) (hw : ∀ d ∈ tables_1, d.before a0 Z = true) (ws : List Jvm.Cond) (pv : Int32) (ar : Addr) (r1 : Addr) (r2 : Addr) (kr1 : ClassId) (kr2 : ClassId) (kA : ClassId) (h0 : Heap) (n0 : Nat) (Z0 : n0 ≤ h0.size) (g_ar : n0 ≤ ar) (Sr1 : Sta Z h0 "java/lang/Integer" "DigitOnes" "[B" (.ref r1)) (Sr2 : Sta Z h0 "java/lang/Integer" "DigitTens" "[B" (.ref r2)) (Vr1 : Arv Z h0 r1 kr1 .byte (100 : Int32) own_ones (.int 0)) (Vr2 : Arv Z h0 r2 kr2 .byte (100 : Int32) own_tens (.int 0)) (Va : Arv Z h0 ar kA .byte (16 : Int32) [(.int 36), (.int 91), (.int 0), (.int 0), (.int 0), (.int 0), (.int 0), (.int 0), (.int 0), (.int 0), (.int 0), (.int 0), (.int 0), (.int 0), (.int 0), (.int 0)] (.int 0)) (hv0 : ¬ pv < 0) (hlo : ¬ pv < 100000) (hhi : pv < 1000000) (hr1 : r1 ≠ ar) (hr2 : r2 ≠ ar) :
    MetFree l (⟨"java/lang/Integer", "getChars", "(II[B)I"⟩ : MethodName) (head1 (Jvm.Cond.code (⟨"java/lang/Integer", "getChars", "(II[B)I"⟩ : MethodName) jdk_33_method_12_code 7 (some .int) :: ws) ({ frames := 0, cells := 0, slots := 0, locals := 0 } : Room)) (fun as' U => as' = #[(.int pv), (.int 8), (.ref ar)] ∧ Z.Warmed39 U.vm ∧ U.heap = h0) (fun _ _ _ _ _ => True) (fun _ U o U' => ∃ v L, o = .returned v ∧ QGc6 Z pv ar r1 r2 kr1 kr2 kA h0 n0 v U'.heap L ∧ FrameEnd U o U' L ({ frames := 0, cells := 0, slots := 0, locals := 0 } : Room).cells ({ frames := 0, cells := 0, slots := 0, locals := 0 } : Room).slots) := by
  refine MetFree.of_bodySF (plainFor_of_name pn_java_lang_Integer) hisR ?_
  intro p e s m args below meth c s₁ Bd hml0 hP hK
  obtain ⟨rfl, hZ, hh⟩ := hP
  have hx := Bd.exec
  have hby := Bd.bytes
  have hml : c.maxLocals = 7 := hml0
  have hown : s.vm.findClass "java/lang/Integer" = some m.cls := findClass_of_methodNamed Bd.named
  have hnm := (name_of_methodNamed Bd.named Bd.method).1
  have X0 : Stand p l e ({ frames := 0, cells := 0, slots := 0, locals := 0 } : Room) s m #[(.int pv), (.int 8), (.ref ar)] below meth c s₁ [] 0 0 := Stand.of_body Bd
  have e0 : s₁.heap = h0 := by rw [← hh, Bd.state]; rfl
  have N0 := Fr.nil n0
  show Go p e below s (fun v h L => QGc6 Z pv ar r1 r2 kr1 kr2 kA h0 n0 v h L) 0 0 _
  refine Go.pull (V := s₁.setTop (mkF m 0 #[iv pv, iv 8, rv ar, .unset, .unset, .unset, .unset] [])) (fun t k => castTop (efGc6 m pv ar) k) ?_
  refine Go.pull (V := s₁.setTop (mkF m 12 #[iv pv, iv 8, rv ar, .unset, .unset, iv 8, .unset] [(.int 0)])) (fun t k => XS.iloadN X0.here hx rfl (hb hby z20_0) rfl  (XS.istore X0.here hx rfl (hb hby z20_1) rfl (l' := #[iv pv, iv 8, rv ar, .unset, .unset, iv 8, .unset]) rfl (XS.iloadN X0.here hx rfl (hb hby z20_3) rfl  (XS.ifYes X0.here hx rfl (pc0 := 4) (pc' := 11) rfl (hb hby z20_4) rfl (XT.i0_ge_t hv0) (by decide) (by decide) (XS.iconst X0.here hx rfl (hb hby z20_11) k))))) ?_
  refine Go.pull (V := s₁.setTop (mkF m 21 #[iv pv, iv 8, rv ar, .unset, .unset, iv 8, iv 0] [(.int (-pv))])) (fun t k => XS.istore X0.here hx rfl (hb hby z20_12) rfl (l' := #[iv pv, iv 8, rv ar, .unset, .unset, iv 8, iv 0]) rfl (XS.iload X0.here hx rfl (hb hby z20_14) rfl  (XS.ifNo X0.here hx rfl (hb hby z20_16) rfl (XT.i0_ne_f (by decide)) (XS.iloadN X0.here hx rfl (hb hby z20_19) rfl  (XS.ineg X0.here hx rfl (hb hby z20_20) rfl k))))) ?_
  refine Go.pull (V := s₁.setTop (mkF m 22 #[iv (-pv), iv 8, rv ar, .unset, .unset, iv 8, iv 0] [])) (fun t k => XS.istoreN X0.here hx rfl (hb hby z20_21) rfl (l' := #[iv (-pv), iv 8, rv ar, .unset, .unset, iv 8, iv 0]) rfl k) ?_
  generalize hg0 : (-pv) = q0
  have hq0 : q0.toInt = -(pv.toInt / 1) := hg0 ▸ own_turn0 hv0
  refine Go.pull (V := s₁.setTop (mkF m 31 #[iv q0, iv 8, rv ar, .unset, .unset, iv 8, iv 0] [(.int 100), (.int q0)])) (fun t k => XS.iloadN X0.here hx rfl (hb hby z20_22) rfl  (XS.bipush X0.here hx rfl (hb hby z20_23) (XS.icmpNo X0.here hx rfl (hb hby z20_25) rfl (XT.ii_gt_f (own_b25f hv0 (by decide) hq0 (own_lo hlo (by decide)))) (XS.iloadN X0.here hx rfl (hb hby z20_28) rfl  (XS.bipush X0.here hx rfl (hb hby z20_29) k))))) ?_
  refine Go.pull (V := s₁.setTop (mkF m 37 #[iv q0, iv 8, rv ar, iv (q0 / (100 : Int32)), .unset, iv 8, iv 0] [(.int ((q0 / (100 : Int32)) * (100 : Int32)))])) (fun t k => XS.idiv X0.here hx rfl (hb hby z20_31) rfl (by decide) (XS.istoreN X0.here hx rfl (hb hby z20_32) rfl (l' := #[iv q0, iv 8, rv ar, iv (q0 / (100 : Int32)), .unset, iv 8, iv 0]) rfl (XS.iloadN X0.here hx rfl (hb hby z20_33) rfl  (XS.bipush X0.here hx rfl (hb hby z20_34) (XS.imul X0.here hx rfl (hb hby z20_36) rfl k))))) ?_
  refine Go.pull (V := s₁.setTop (mkF m 43 #[iv (q0 / (100 : Int32)), iv 8, rv ar, iv (q0 / (100 : Int32)), iv (((q0 / (100 : Int32)) * (100 : Int32)) - q0), iv 8, iv 0] [])) (fun t k => XS.iloadN X0.here hx rfl (hb hby z20_37) rfl  (XS.isub X0.here hx rfl (hb hby z20_38) rfl (XS.istore X0.here hx rfl (hb hby z20_39) rfl (l' := #[iv q0, iv 8, rv ar, iv (q0 / (100 : Int32)), iv (((q0 / (100 : Int32)) * (100 : Int32)) - q0), iv 8, iv 0]) rfl (XS.iloadN X0.here hx rfl (hb hby z20_41) rfl  (XS.istoreN X0.here hx rfl (hb hby z20_42) rfl (l' := #[iv (q0 / (100 : Int32)), iv 8, rv ar, iv (q0 / (100 : Int32)), iv (((q0 / (100 : Int32)) * (100 : Int32)) - q0), iv 8, iv 0]) rfl k))))) ?_
  generalize hh0 : (((q0 / (100 : Int32)) * (100 : Int32)) - q0) = w0
  have hr0' : w0.toInt = (pv.toInt / 1) % 100 := hh0 ▸ own_rem hv0 (by decide) hq0
  refine Go.pull (V := s₁.setTop (mkF m 49 #[iv (q0 / (100 : Int32)), iv 8, rv ar, iv (q0 / (100 : Int32)), iv w0, iv 7, iv 0] [(.int 7), (.ref ar)])) (fun t k => XS.aloadN X0.here hx rfl (hb hby z20_43) rfl rfl (XS.iinc X0.here hx rfl (hb hby z20_44) rfl (l' := #[iv (q0 / (100 : Int32)), iv 8, rv ar, iv (q0 / (100 : Int32)), iv w0, iv 7, iv 0]) rfl (XS.iload X0.here hx rfl (hb hby z20_47) rfl  k))) ?_
  obtain ⟨T1, X1, e1, st1⟩ := getS2 X0 hx hZ hown (host := "") (Or.inl (hw _ (List.mem_of_getElem? (i := 152) rfl))) Via.refl e0 Sr1 (g := (mkF m 49 #[iv (q0 / (100 : Int32)), iv 8, rv ar, iv (q0 / (100 : Int32)), iv w0, iv 7, iv 0] [(.int 7), (.ref ar)])) rfl (hb hby z20_49)
  refine Go.pull (V := T1.setTop (mkF m 52 #[iv (q0 / (100 : Int32)), iv 8, rv ar, iv (q0 / (100 : Int32)), iv w0, iv 7, iv 0] [(.ref r1), (.int 7), (.ref ar)])) st1 ?_
  refine Go.pull (V := T1.setTop (mkF m 54 #[iv (q0 / (100 : Int32)), iv 8, rv ar, iv (q0 / (100 : Int32)), iv w0, iv 7, iv 0] [(.int w0), (.ref r1), (.int 7), (.ref ar)])) (fun t k => XS.iload X1.here hx rfl (hb hby z20_52) rfl  k) ?_
  obtain ⟨cl2, Ar2, q2, S2, M2, Hs2, G2⟩ := id Vr1
  have hin2 : ¬ (w0 < 0 ∨ cl2.slots.size ≤ (w0).toNatClampNeg) := inb_of S2 (own_in hr0')
  have hat2 : cl2.slots[(w0).toNatClampNeg]? = some (.int (own_dig pv 1)) := Has.at Hs2 hin2 (own_one hv0 (by decide : (0 : Int) < 1) (by decide) hr0')
  refine Go.pull (V := T1.setTop (mkF m 55 #[iv (q0 / (100 : Int32)), iv 8, rv ar, iv (q0 / (100 : Int32)), iv w0, iv 7, iv 0] [(.int (own_dig pv 1)), (.int 7), (.ref ar)])) (fun t k => X1.baloadBytes hx (j := w0) (v := (.int (own_dig pv 1))) (by rw [e1]; exact Ar2.1) (State.isArrayOf_alike hZ.alike Ar2.2.1) Ar2.2.2 hin2 hat2 (g := (mkF m 54 #[iv (q0 / (100 : Int32)), iv 8, rv ar, iv (q0 / (100 : Int32)), iv w0, iv 7, iv 0] [(.int w0), (.ref r1), (.int 7), (.ref ar)])) rfl rfl (hb hby z20_54) _ k) ?_
  obtain ⟨cl3, Ar3, q3, S3, M3, Hs3, G3⟩ := id Va
  have hin3 : ¬ ((7 : Int32) < 0 ∨ cl3.slots.size ≤ ((7 : Int32)).toNatClampNeg) := inb_of S3 ⟨by decide, by decide⟩
  obtain ⟨T4, h4, X4, e4, W4, st4⟩ := stB X1 hx hZ e1 Ar3 (j := (7 : Int32)) hin3 (g := (mkF m 55 #[iv (q0 / (100 : Int32)), iv 8, rv ar, iv (q0 / (100 : Int32)), iv w0, iv 7, iv 0] [(.int (own_dig pv 1)), (.int 7), (.ref ar)])) rfl rfl (hb hby z20_55)
  rw [own_narb (pv := pv) (pc := 1) (c := 1) hv0 (by decide) (by decide)] at W4
  have V4 : Arv Z h4 ar kA .byte (16 : Int32) [(.int 36), (.int 91), (.int 0), (.int 0), (.int 0), (.int 0), (.int 0), (.int (own_dig pv 1)), (.int 0), (.int 0), (.int 0), (.int 0), (.int 0), (.int 0), (.int 0), (.int 0)] (.int 0) := Arv.set Ar3 q3 S3 M3 Hs3 G3 (own_narb (pv := pv) (pc := 1) (c := 1) hv0 (by decide) (by decide) ▸ fits_nar_byte _) W4 7 rfl (Nat.le_of_ble_eq_true rfl)
  have K4 : Keep h0 h4 [ar] := (Keep.refl h0 [ar]).wr W4 (Or.inl (List.mem_of_getElem? (i := 0) rfl))
  have N4 := Fr.snoc X4 N0 g_ar
  refine Go.pull (V := T4.setTop (mkF m 56 #[iv (q0 / (100 : Int32)), iv 8, rv ar, iv (q0 / (100 : Int32)), iv w0, iv 7, iv 0] [])) st4 ?_
  refine Go.pull (V := T4.setTop (mkF m 62 #[iv (q0 / (100 : Int32)), iv 8, rv ar, iv (q0 / (100 : Int32)), iv w0, iv 6, iv 0] [(.int 6), (.ref ar)])) (fun t k => XS.aloadN X4.here hx rfl (hb hby z20_56) rfl rfl (XS.iinc X4.here hx rfl (hb hby z20_57) rfl (l' := #[iv (q0 / (100 : Int32)), iv 8, rv ar, iv (q0 / (100 : Int32)), iv w0, iv 6, iv 0]) rfl (XS.iload X4.here hx rfl (hb hby z20_60) rfl  k))) ?_
  obtain ⟨T5, X5, e5, st5⟩ := getS2 X4 hx hZ hown (host := "") (Or.inl (hw _ (List.mem_of_getElem? (i := 153) rfl))) Via.refl e4 (Sr2.wr W4) (g := (mkF m 62 #[iv (q0 / (100 : Int32)), iv 8, rv ar, iv (q0 / (100 : Int32)), iv w0, iv 6, iv 0] [(.int 6), (.ref ar)])) rfl (hb hby z20_62)
  refine Go.pull (V := T5.setTop (mkF m 65 #[iv (q0 / (100 : Int32)), iv 8, rv ar, iv (q0 / (100 : Int32)), iv w0, iv 6, iv 0] [(.ref r2), (.int 6), (.ref ar)])) st5 ?_
  refine Go.pull (V := T5.setTop (mkF m 67 #[iv (q0 / (100 : Int32)), iv 8, rv ar, iv (q0 / (100 : Int32)), iv w0, iv 6, iv 0] [(.int w0), (.ref r2), (.int 6), (.ref ar)])) (fun t k => XS.iload X5.here hx rfl (hb hby z20_65) rfl  k) ?_
  obtain ⟨cl6, Ar6, q6, S6, M6, Hs6, G6⟩ := id (Vr2.other W4 hr2)
  have hin6 : ¬ (w0 < 0 ∨ cl6.slots.size ≤ (w0).toNatClampNeg) := inb_of S6 (own_in hr0')
  have hat6 : cl6.slots[(w0).toNatClampNeg]? = some (.int (own_dig pv 10)) := Has.at Hs6 hin6 (own_ten hv0 (by decide : (0 : Int) < 1) rfl (by decide) hr0')
  refine Go.pull (V := T5.setTop (mkF m 68 #[iv (q0 / (100 : Int32)), iv 8, rv ar, iv (q0 / (100 : Int32)), iv w0, iv 6, iv 0] [(.int (own_dig pv 10)), (.int 6), (.ref ar)])) (fun t k => X5.baloadBytes hx (j := w0) (v := (.int (own_dig pv 10))) (by rw [e5]; exact Ar6.1) (State.isArrayOf_alike hZ.alike Ar6.2.1) Ar6.2.2 hin6 hat6 (g := (mkF m 67 #[iv (q0 / (100 : Int32)), iv 8, rv ar, iv (q0 / (100 : Int32)), iv w0, iv 6, iv 0] [(.int w0), (.ref r2), (.int 6), (.ref ar)])) rfl rfl (hb hby z20_67) _ k) ?_
  obtain ⟨cl7, Ar7, q7, S7, M7, Hs7, G7⟩ := id V4
  have hin7 : ¬ ((6 : Int32) < 0 ∨ cl7.slots.size ≤ ((6 : Int32)).toNatClampNeg) := inb_of S7 ⟨by decide, by decide⟩
  obtain ⟨T8, h8, X8, e8, W8, st8⟩ := stB X5 hx hZ e5 Ar7 (j := (6 : Int32)) hin7 (g := (mkF m 68 #[iv (q0 / (100 : Int32)), iv 8, rv ar, iv (q0 / (100 : Int32)), iv w0, iv 6, iv 0] [(.int (own_dig pv 10)), (.int 6), (.ref ar)])) rfl rfl (hb hby z20_68)
  rw [own_narb (pv := pv) (pc := 10) (c := 10) hv0 (by decide) (by decide)] at W8
  have V8 : Arv Z h8 ar kA .byte (16 : Int32) [(.int 36), (.int 91), (.int 0), (.int 0), (.int 0), (.int 0), (.int (own_dig pv 10)), (.int (own_dig pv 1)), (.int 0), (.int 0), (.int 0), (.int 0), (.int 0), (.int 0), (.int 0), (.int 0)] (.int 0) := Arv.set Ar7 q7 S7 M7 Hs7 G7 (own_narb (pv := pv) (pc := 10) (c := 10) hv0 (by decide) (by decide) ▸ fits_nar_byte _) W8 6 rfl (Nat.le_of_ble_eq_true rfl)
  have K8 : Keep h0 h8 [ar] := K4.wr W8 (Or.inl (List.mem_of_getElem? (i := 0) rfl))
  have N8 := Fr.snoc X8 N4 g_ar
  refine Go.pull (V := T8.setTop (mkF m 69 #[iv (q0 / (100 : Int32)), iv 8, rv ar, iv (q0 / (100 : Int32)), iv w0, iv 6, iv 0] [])) st8 ?_
  refine Go.pull (V := T8.setTop (mkF m 22 #[iv (q0 / (100 : Int32)), iv 8, rv ar, iv (q0 / (100 : Int32)), iv w0, iv 6, iv 0] [])) (fun t k => XS.goto X8.here hx rfl (pc0 := 69) (pc' := 22) rfl (hb hby z20_69) (by decide) (by decide) k) ?_
  generalize hg1 : (q0 / (100 : Int32)) = q1
  have hq1 : q1.toInt = -(pv.toInt / 100) := hg1 ▸ own_turn (c := 1) hv0 (by decide) rfl hq0
  refine Go.pull (V := T8.setTop (mkF m 31 #[iv q1, iv 8, rv ar, iv q1, iv w0, iv 6, iv 0] [(.int 100), (.int q1)])) (fun t k => XS.iloadN X8.here hx rfl (hb hby z20_22) rfl  (XS.bipush X8.here hx rfl (hb hby z20_23) (XS.icmpNo X8.here hx rfl (hb hby z20_25) rfl (XT.ii_gt_f (own_b25f hv0 (by decide) hq1 (own_lo hlo (by decide)))) (XS.iloadN X8.here hx rfl (hb hby z20_28) rfl  (XS.bipush X8.here hx rfl (hb hby z20_29) k))))) ?_
  refine Go.pull (V := T8.setTop (mkF m 37 #[iv q1, iv 8, rv ar, iv (q1 / (100 : Int32)), iv w0, iv 6, iv 0] [(.int ((q1 / (100 : Int32)) * (100 : Int32)))])) (fun t k => XS.idiv X8.here hx rfl (hb hby z20_31) rfl (by decide) (XS.istoreN X8.here hx rfl (hb hby z20_32) rfl (l' := #[iv q1, iv 8, rv ar, iv (q1 / (100 : Int32)), iv w0, iv 6, iv 0]) rfl (XS.iloadN X8.here hx rfl (hb hby z20_33) rfl  (XS.bipush X8.here hx rfl (hb hby z20_34) (XS.imul X8.here hx rfl (hb hby z20_36) rfl k))))) ?_
  refine Go.pull (V := T8.setTop (mkF m 43 #[iv (q1 / (100 : Int32)), iv 8, rv ar, iv (q1 / (100 : Int32)), iv (((q1 / (100 : Int32)) * (100 : Int32)) - q1), iv 6, iv 0] [])) (fun t k => XS.iloadN X8.here hx rfl (hb hby z20_37) rfl  (XS.isub X8.here hx rfl (hb hby z20_38) rfl (XS.istore X8.here hx rfl (hb hby z20_39) rfl (l' := #[iv q1, iv 8, rv ar, iv (q1 / (100 : Int32)), iv (((q1 / (100 : Int32)) * (100 : Int32)) - q1), iv 6, iv 0]) rfl (XS.iloadN X8.here hx rfl (hb hby z20_41) rfl  (XS.istoreN X8.here hx rfl (hb hby z20_42) rfl (l' := #[iv (q1 / (100 : Int32)), iv 8, rv ar, iv (q1 / (100 : Int32)), iv (((q1 / (100 : Int32)) * (100 : Int32)) - q1), iv 6, iv 0]) rfl k))))) ?_
  generalize hh1 : (((q1 / (100 : Int32)) * (100 : Int32)) - q1) = w1
  have hr1' : w1.toInt = (pv.toInt / 100) % 100 := hh1 ▸ own_rem hv0 (by decide) hq1
  refine Go.pull (V := T8.setTop (mkF m 49 #[iv (q1 / (100 : Int32)), iv 8, rv ar, iv (q1 / (100 : Int32)), iv w1, iv 5, iv 0] [(.int 5), (.ref ar)])) (fun t k => XS.aloadN X8.here hx rfl (hb hby z20_43) rfl rfl (XS.iinc X8.here hx rfl (hb hby z20_44) rfl (l' := #[iv (q1 / (100 : Int32)), iv 8, rv ar, iv (q1 / (100 : Int32)), iv w1, iv 5, iv 0]) rfl (XS.iload X8.here hx rfl (hb hby z20_47) rfl  k))) ?_
  obtain ⟨T9, X9, e9, st9⟩ := getS2 X8 hx hZ hown (host := "") (Or.inl (hw _ (List.mem_of_getElem? (i := 152) rfl))) Via.refl e8 ((Sr1.wr W4).wr W8) (g := (mkF m 49 #[iv (q1 / (100 : Int32)), iv 8, rv ar, iv (q1 / (100 : Int32)), iv w1, iv 5, iv 0] [(.int 5), (.ref ar)])) rfl (hb hby z20_49)
  refine Go.pull (V := T9.setTop (mkF m 52 #[iv (q1 / (100 : Int32)), iv 8, rv ar, iv (q1 / (100 : Int32)), iv w1, iv 5, iv 0] [(.ref r1), (.int 5), (.ref ar)])) st9 ?_
  refine Go.pull (V := T9.setTop (mkF m 54 #[iv (q1 / (100 : Int32)), iv 8, rv ar, iv (q1 / (100 : Int32)), iv w1, iv 5, iv 0] [(.int w1), (.ref r1), (.int 5), (.ref ar)])) (fun t k => XS.iload X9.here hx rfl (hb hby z20_52) rfl  k) ?_
  obtain ⟨cl10, Ar10, q10, S10, M10, Hs10, G10⟩ := id ((Vr1.other W4 hr1).other W8 hr1)
  have hin10 : ¬ (w1 < 0 ∨ cl10.slots.size ≤ (w1).toNatClampNeg) := inb_of S10 (own_in hr1')
  have hat10 : cl10.slots[(w1).toNatClampNeg]? = some (.int (own_dig pv 100)) := Has.at Hs10 hin10 (own_one hv0 (by decide : (0 : Int) < 100) (by decide) hr1')
  refine Go.pull (V := T9.setTop (mkF m 55 #[iv (q1 / (100 : Int32)), iv 8, rv ar, iv (q1 / (100 : Int32)), iv w1, iv 5, iv 0] [(.int (own_dig pv 100)), (.int 5), (.ref ar)])) (fun t k => X9.baloadBytes hx (j := w1) (v := (.int (own_dig pv 100))) (by rw [e9]; exact Ar10.1) (State.isArrayOf_alike hZ.alike Ar10.2.1) Ar10.2.2 hin10 hat10 (g := (mkF m 54 #[iv (q1 / (100 : Int32)), iv 8, rv ar, iv (q1 / (100 : Int32)), iv w1, iv 5, iv 0] [(.int w1), (.ref r1), (.int 5), (.ref ar)])) rfl rfl (hb hby z20_54) _ k) ?_
  obtain ⟨cl11, Ar11, q11, S11, M11, Hs11, G11⟩ := id V8
  have hin11 : ¬ ((5 : Int32) < 0 ∨ cl11.slots.size ≤ ((5 : Int32)).toNatClampNeg) := inb_of S11 ⟨by decide, by decide⟩
  obtain ⟨T12, h12, X12, e12, W12, st12⟩ := stB X9 hx hZ e9 Ar11 (j := (5 : Int32)) hin11 (g := (mkF m 55 #[iv (q1 / (100 : Int32)), iv 8, rv ar, iv (q1 / (100 : Int32)), iv w1, iv 5, iv 0] [(.int (own_dig pv 100)), (.int 5), (.ref ar)])) rfl rfl (hb hby z20_55)
  rw [own_narb (pv := pv) (pc := 100) (c := 100) hv0 (by decide) (by decide)] at W12
  have V12 : Arv Z h12 ar kA .byte (16 : Int32) [(.int 36), (.int 91), (.int 0), (.int 0), (.int 0), (.int (own_dig pv 100)), (.int (own_dig pv 10)), (.int (own_dig pv 1)), (.int 0), (.int 0), (.int 0), (.int 0), (.int 0), (.int 0), (.int 0), (.int 0)] (.int 0) := Arv.set Ar11 q11 S11 M11 Hs11 G11 (own_narb (pv := pv) (pc := 100) (c := 100) hv0 (by decide) (by decide) ▸ fits_nar_byte _) W12 5 rfl (Nat.le_of_ble_eq_true rfl)
  have K12 : Keep h0 h12 [ar] := K8.wr W12 (Or.inl (List.mem_of_getElem? (i := 0) rfl))
  have N12 := Fr.snoc X12 N8 g_ar
  refine Go.pull (V := T12.setTop (mkF m 56 #[iv (q1 / (100 : Int32)), iv 8, rv ar, iv (q1 / (100 : Int32)), iv w1, iv 5, iv 0] [])) st12 ?_
  refine Go.pull (V := T12.setTop (mkF m 62 #[iv (q1 / (100 : Int32)), iv 8, rv ar, iv (q1 / (100 : Int32)), iv w1, iv 4, iv 0] [(.int 4), (.ref ar)])) (fun t k => XS.aloadN X12.here hx rfl (hb hby z20_56) rfl rfl (XS.iinc X12.here hx rfl (hb hby z20_57) rfl (l' := #[iv (q1 / (100 : Int32)), iv 8, rv ar, iv (q1 / (100 : Int32)), iv w1, iv 4, iv 0]) rfl (XS.iload X12.here hx rfl (hb hby z20_60) rfl  k))) ?_
  obtain ⟨T13, X13, e13, st13⟩ := getS2 X12 hx hZ hown (host := "") (Or.inl (hw _ (List.mem_of_getElem? (i := 153) rfl))) Via.refl e12 (((Sr2.wr W4).wr W8).wr W12) (g := (mkF m 62 #[iv (q1 / (100 : Int32)), iv 8, rv ar, iv (q1 / (100 : Int32)), iv w1, iv 4, iv 0] [(.int 4), (.ref ar)])) rfl (hb hby z20_62)
  refine Go.pull (V := T13.setTop (mkF m 65 #[iv (q1 / (100 : Int32)), iv 8, rv ar, iv (q1 / (100 : Int32)), iv w1, iv 4, iv 0] [(.ref r2), (.int 4), (.ref ar)])) st13 ?_
  refine Go.pull (V := T13.setTop (mkF m 67 #[iv (q1 / (100 : Int32)), iv 8, rv ar, iv (q1 / (100 : Int32)), iv w1, iv 4, iv 0] [(.int w1), (.ref r2), (.int 4), (.ref ar)])) (fun t k => XS.iload X13.here hx rfl (hb hby z20_65) rfl  k) ?_
  obtain ⟨cl14, Ar14, q14, S14, M14, Hs14, G14⟩ := id (((Vr2.other W4 hr2).other W8 hr2).other W12 hr2)
  have hin14 : ¬ (w1 < 0 ∨ cl14.slots.size ≤ (w1).toNatClampNeg) := inb_of S14 (own_in hr1')
  have hat14 : cl14.slots[(w1).toNatClampNeg]? = some (.int (own_dig pv 1000)) := Has.at Hs14 hin14 (own_ten hv0 (by decide : (0 : Int) < 100) rfl (by decide) hr1')
  refine Go.pull (V := T13.setTop (mkF m 68 #[iv (q1 / (100 : Int32)), iv 8, rv ar, iv (q1 / (100 : Int32)), iv w1, iv 4, iv 0] [(.int (own_dig pv 1000)), (.int 4), (.ref ar)])) (fun t k => X13.baloadBytes hx (j := w1) (v := (.int (own_dig pv 1000))) (by rw [e13]; exact Ar14.1) (State.isArrayOf_alike hZ.alike Ar14.2.1) Ar14.2.2 hin14 hat14 (g := (mkF m 67 #[iv (q1 / (100 : Int32)), iv 8, rv ar, iv (q1 / (100 : Int32)), iv w1, iv 4, iv 0] [(.int w1), (.ref r2), (.int 4), (.ref ar)])) rfl rfl (hb hby z20_67) _ k) ?_
  obtain ⟨cl15, Ar15, q15, S15, M15, Hs15, G15⟩ := id V12
  have hin15 : ¬ ((4 : Int32) < 0 ∨ cl15.slots.size ≤ ((4 : Int32)).toNatClampNeg) := inb_of S15 ⟨by decide, by decide⟩
  obtain ⟨T16, h16, X16, e16, W16, st16⟩ := stB X13 hx hZ e13 Ar15 (j := (4 : Int32)) hin15 (g := (mkF m 68 #[iv (q1 / (100 : Int32)), iv 8, rv ar, iv (q1 / (100 : Int32)), iv w1, iv 4, iv 0] [(.int (own_dig pv 1000)), (.int 4), (.ref ar)])) rfl rfl (hb hby z20_68)
  rw [own_narb (pv := pv) (pc := 1000) (c := 1000) hv0 (by decide) (by decide)] at W16
  have V16 : Arv Z h16 ar kA .byte (16 : Int32) [(.int 36), (.int 91), (.int 0), (.int 0), (.int (own_dig pv 1000)), (.int (own_dig pv 100)), (.int (own_dig pv 10)), (.int (own_dig pv 1)), (.int 0), (.int 0), (.int 0), (.int 0), (.int 0), (.int 0), (.int 0), (.int 0)] (.int 0) := Arv.set Ar15 q15 S15 M15 Hs15 G15 (own_narb (pv := pv) (pc := 1000) (c := 1000) hv0 (by decide) (by decide) ▸ fits_nar_byte _) W16 4 rfl (Nat.le_of_ble_eq_true rfl)
  have K16 : Keep h0 h16 [ar] := K12.wr W16 (Or.inl (List.mem_of_getElem? (i := 0) rfl))
  have N16 := Fr.snoc X16 N12 g_ar
  refine Go.pull (V := T16.setTop (mkF m 69 #[iv (q1 / (100 : Int32)), iv 8, rv ar, iv (q1 / (100 : Int32)), iv w1, iv 4, iv 0] [])) st16 ?_
  refine Go.pull (V := T16.setTop (mkF m 22 #[iv (q1 / (100 : Int32)), iv 8, rv ar, iv (q1 / (100 : Int32)), iv w1, iv 4, iv 0] [])) (fun t k => XS.goto X16.here hx rfl (pc0 := 69) (pc' := 22) rfl (hb hby z20_69) (by decide) (by decide) k) ?_
  generalize hg2 : (q1 / (100 : Int32)) = q2
  have hq2 : q2.toInt = -(pv.toInt / 10000) := hg2 ▸ own_turn (c := 100) hv0 (by decide) rfl hq1
  refine Go.pull (V := T16.setTop (mkF m 76 #[iv q2, iv 8, rv ar, iv q2, iv w1, iv 3, iv 0] [(.ref ar)])) (fun t k => XS.iloadN X16.here hx rfl (hb hby z20_22) rfl  (XS.bipush X16.here hx rfl (hb hby z20_23) (XS.icmpYes X16.here hx rfl (pc0 := 25) (pc' := 72) rfl (hb hby z20_25) rfl (XT.ii_gt_t (own_b25t hq2 (by have := own_nn hv0; have := Int32.lt_iff_toInt_lt.mp hhi; simp only [show (1000000 : Int32).toInt = 1000000 from rfl] at this; omega))) (by decide) (by decide) (XS.aloadN X16.here hx rfl (hb hby z20_72) rfl rfl (XS.iinc X16.here hx rfl (hb hby z20_73) rfl (l' := #[iv q2, iv 8, rv ar, iv q2, iv w1, iv 3, iv 0]) rfl k))))) ?_
  refine Go.pull (V := T16.setTop (mkF m 78 #[iv q2, iv 8, rv ar, iv q2, iv w1, iv 3, iv 0] [(.int 3), (.ref ar)])) (fun t k => XS.iload X16.here hx rfl (hb hby z20_76) rfl  k) ?_
  obtain ⟨T17, X17, e17, st17⟩ := getS2 X16 hx hZ hown (host := "") (Or.inl (hw _ (List.mem_of_getElem? (i := 152) rfl))) Via.refl e16 ((((Sr1.wr W4).wr W8).wr W12).wr W16) (g := (mkF m 78 #[iv q2, iv 8, rv ar, iv q2, iv w1, iv 3, iv 0] [(.int 3), (.ref ar)])) rfl (hb hby z20_78)
  refine Go.pull (V := T17.setTop (mkF m 81 #[iv q2, iv 8, rv ar, iv q2, iv w1, iv 3, iv 0] [(.ref r1), (.int 3), (.ref ar)])) st17 ?_
  refine Go.pull (V := T17.setTop (mkF m 83 #[iv q2, iv 8, rv ar, iv q2, iv w1, iv 3, iv 0] [(.int (-q2)), (.ref r1), (.int 3), (.ref ar)])) (fun t k => XS.iloadN X17.here hx rfl (hb hby z20_81) rfl  (XS.ineg X17.here hx rfl (hb hby z20_82) rfl k)) ?_
  have hr2' : (-q2).toInt = (pv.toInt / 10000) % 100 := own_last hv0 (by decide) (by have := own_nn hv0; have := Int32.lt_iff_toInt_lt.mp hhi; simp only [show (1000000 : Int32).toInt = 1000000 from rfl] at this; omega) hq2
  obtain ⟨cl18, Ar18, q18, S18, M18, Hs18, G18⟩ := id ((((Vr1.other W4 hr1).other W8 hr1).other W12 hr1).other W16 hr1)
  have hin18 : ¬ ((-q2) < 0 ∨ cl18.slots.size ≤ ((-q2)).toNatClampNeg) := inb_of S18 (own_in hr2')
  have hat18 : cl18.slots[((-q2)).toNatClampNeg]? = some (.int (own_dig pv 10000)) := Has.at Hs18 hin18 (own_one hv0 (by decide : (0 : Int) < 10000) (by decide) hr2')
  refine Go.pull (V := T17.setTop (mkF m 84 #[iv q2, iv 8, rv ar, iv q2, iv w1, iv 3, iv 0] [(.int (own_dig pv 10000)), (.int 3), (.ref ar)])) (fun t k => X17.baloadBytes hx (j := (-q2)) (v := (.int (own_dig pv 10000))) (by rw [e17]; exact Ar18.1) (State.isArrayOf_alike hZ.alike Ar18.2.1) Ar18.2.2 hin18 hat18 (g := (mkF m 83 #[iv q2, iv 8, rv ar, iv q2, iv w1, iv 3, iv 0] [(.int (-q2)), (.ref r1), (.int 3), (.ref ar)])) rfl rfl (hb hby z20_83) _ k) ?_
  obtain ⟨cl19, Ar19, q19, S19, M19, Hs19, G19⟩ := id V16
  have hin19 : ¬ ((3 : Int32) < 0 ∨ cl19.slots.size ≤ ((3 : Int32)).toNatClampNeg) := inb_of S19 ⟨by decide, by decide⟩
  obtain ⟨T20, h20, X20, e20, W20, st20⟩ := stB X17 hx hZ e17 Ar19 (j := (3 : Int32)) hin19 (g := (mkF m 84 #[iv q2, iv 8, rv ar, iv q2, iv w1, iv 3, iv 0] [(.int (own_dig pv 10000)), (.int 3), (.ref ar)])) rfl rfl (hb hby z20_84)
  rw [own_narb (pv := pv) (pc := 10000) (c := 10000) hv0 (by decide) (by decide)] at W20
  have V20 : Arv Z h20 ar kA .byte (16 : Int32) [(.int 36), (.int 91), (.int 0), (.int (own_dig pv 10000)), (.int (own_dig pv 1000)), (.int (own_dig pv 100)), (.int (own_dig pv 10)), (.int (own_dig pv 1)), (.int 0), (.int 0), (.int 0), (.int 0), (.int 0), (.int 0), (.int 0), (.int 0)] (.int 0) := Arv.set Ar19 q19 S19 M19 Hs19 G19 (own_narb (pv := pv) (pc := 10000) (c := 10000) hv0 (by decide) (by decide) ▸ fits_nar_byte _) W20 3 rfl (Nat.le_of_ble_eq_true rfl)
  have K20 : Keep h0 h20 [ar] := K16.wr W20 (Or.inl (List.mem_of_getElem? (i := 0) rfl))
  have N20 := Fr.snoc X20 N16 g_ar
  refine Go.pull (V := T20.setTop (mkF m 85 #[iv q2, iv 8, rv ar, iv q2, iv w1, iv 3, iv 0] [])) st20 ?_
  refine Go.pull (V := T20.setTop (mkF m 95 #[iv q2, iv 8, rv ar, iv q2, iv w1, iv 2, iv 0] [(.ref ar)])) (fun t k => XS.iloadN X20.here hx rfl (hb hby z20_85) rfl  (XS.bipush X20.here hx rfl (hb hby z20_86) (XS.icmpNo X20.here hx rfl (hb hby z20_88) rfl (XT.ii_ge_f (own_b88t hq2 (own_10 hlo (by decide) (by decide)))) (XS.aloadN X20.here hx rfl (hb hby z20_91) rfl rfl (XS.iinc X20.here hx rfl (hb hby z20_92) rfl (l' := #[iv q2, iv 8, rv ar, iv q2, iv w1, iv 2, iv 0]) rfl k))))) ?_
  refine Go.pull (V := T20.setTop (mkF m 97 #[iv q2, iv 8, rv ar, iv q2, iv w1, iv 2, iv 0] [(.int 2), (.ref ar)])) (fun t k => XS.iload X20.here hx rfl (hb hby z20_95) rfl  k) ?_
  obtain ⟨T21, X21, e21, st21⟩ := getS2 X20 hx hZ hown (host := "") (Or.inl (hw _ (List.mem_of_getElem? (i := 153) rfl))) Via.refl e20 (((((Sr2.wr W4).wr W8).wr W12).wr W16).wr W20) (g := (mkF m 97 #[iv q2, iv 8, rv ar, iv q2, iv w1, iv 2, iv 0] [(.int 2), (.ref ar)])) rfl (hb hby z20_97)
  refine Go.pull (V := T21.setTop (mkF m 100 #[iv q2, iv 8, rv ar, iv q2, iv w1, iv 2, iv 0] [(.ref r2), (.int 2), (.ref ar)])) st21 ?_
  refine Go.pull (V := T21.setTop (mkF m 102 #[iv q2, iv 8, rv ar, iv q2, iv w1, iv 2, iv 0] [(.int (-q2)), (.ref r2), (.int 2), (.ref ar)])) (fun t k => XS.iloadN X21.here hx rfl (hb hby z20_100) rfl  (XS.ineg X21.here hx rfl (hb hby z20_101) rfl k)) ?_
  obtain ⟨cl22, Ar22, q22, S22, M22, Hs22, G22⟩ := id (((((Vr2.other W4 hr2).other W8 hr2).other W12 hr2).other W16 hr2).other W20 hr2)
  have hin22 : ¬ ((-q2) < 0 ∨ cl22.slots.size ≤ ((-q2)).toNatClampNeg) := inb_of S22 (own_in hr2')
  have hat22 : cl22.slots[((-q2)).toNatClampNeg]? = some (.int (own_dig pv 100000)) := Has.at Hs22 hin22 (own_ten hv0 (by decide : (0 : Int) < 10000) rfl (by decide) hr2')
  refine Go.pull (V := T21.setTop (mkF m 103 #[iv q2, iv 8, rv ar, iv q2, iv w1, iv 2, iv 0] [(.int (own_dig pv 100000)), (.int 2), (.ref ar)])) (fun t k => X21.baloadBytes hx (j := (-q2)) (v := (.int (own_dig pv 100000))) (by rw [e21]; exact Ar22.1) (State.isArrayOf_alike hZ.alike Ar22.2.1) Ar22.2.2 hin22 hat22 (g := (mkF m 102 #[iv q2, iv 8, rv ar, iv q2, iv w1, iv 2, iv 0] [(.int (-q2)), (.ref r2), (.int 2), (.ref ar)])) rfl rfl (hb hby z20_102) _ k) ?_
  obtain ⟨cl23, Ar23, q23, S23, M23, Hs23, G23⟩ := id V20
  have hin23 : ¬ ((2 : Int32) < 0 ∨ cl23.slots.size ≤ ((2 : Int32)).toNatClampNeg) := inb_of S23 ⟨by decide, by decide⟩
  obtain ⟨T24, h24, X24, e24, W24, st24⟩ := stB X21 hx hZ e21 Ar23 (j := (2 : Int32)) hin23 (g := (mkF m 103 #[iv q2, iv 8, rv ar, iv q2, iv w1, iv 2, iv 0] [(.int (own_dig pv 100000)), (.int 2), (.ref ar)])) rfl rfl (hb hby z20_103)
  rw [own_narb (pv := pv) (pc := 100000) (c := 100000) hv0 (by decide) (by decide)] at W24
  have V24 : Arv Z h24 ar kA .byte (16 : Int32) [(.int 36), (.int 91), (.int (own_dig pv 100000)), (.int (own_dig pv 10000)), (.int (own_dig pv 1000)), (.int (own_dig pv 100)), (.int (own_dig pv 10)), (.int (own_dig pv 1)), (.int 0), (.int 0), (.int 0), (.int 0), (.int 0), (.int 0), (.int 0), (.int 0)] (.int 0) := Arv.set Ar23 q23 S23 M23 Hs23 G23 (own_narb (pv := pv) (pc := 100000) (c := 100000) hv0 (by decide) (by decide) ▸ fits_nar_byte _) W24 2 rfl (Nat.le_of_ble_eq_true rfl)
  have K24 : Keep h0 h24 [ar] := K20.wr W24 (Or.inl (List.mem_of_getElem? (i := 0) rfl))
  have N24 := Fr.snoc X24 N20 g_ar
  refine Go.pull (V := T24.setTop (mkF m 104 #[iv q2, iv 8, rv ar, iv q2, iv w1, iv 2, iv 0] [])) st24 ?_
  refine Go.pull (V := T24.setTop (mkF m 120 #[iv q2, iv 8, rv ar, iv q2, iv w1, iv 2, iv 0] [(.int 2)])) (fun t k => XS.iload X24.here hx rfl (hb hby z20_104) rfl  (XS.ifYes X24.here hx rfl (pc0 := 106) (pc' := 118) rfl (hb hby z20_106) rfl (XT.i0_eq_t (by decide)) (by decide) (by decide) (XS.iload X24.here hx rfl (hb hby z20_118) rfl  k))) ?_
  exact Go.retI X24 hx Bd.notSynchronized Bd.returns (hb hby z20_120) (by rw [e24]; exact ⟨rfl, N24, K24, V24⟩) (by decide) (by decide)
theorem efGc7 (m : MethodId) (x0 : Int32) (x2 : Addr) : entryFrame m #[(.int x0), (.int 9), (.ref x2)] 7 = mkF m 0 #[iv x0, iv 9, rv x2, .unset, .unset, .unset, .unset] [] := by first | (simp [entryFrame, mkF, argsToLocals, Value.category]; done) | rfl
def QGc7 (Z : State) (pv : Int32) (ar : Addr) (r1 : Addr) (r2 : Addr) (kr1 : ClassId) (kr2 : ClassId) (kA : ClassId) (h0 : Heap) (n0 : Nat) (v : Option Value) (h : Heap) (L : List Loc) : Prop := v = some (.int 2) ∧ Fr n0 L ∧ Keep h0 h [ar] ∧ Arv Z h ar kA .byte (16 : Int32) [(.int 36), (.int 91), (.int (own_dig pv 1000000)), (.int (own_dig pv 100000)), (.int (own_dig pv 10000)), (.int (own_dig pv 1000)), (.int (own_dig pv 100)), (.int (own_dig pv 10)), (.int (own_dig pv 1)), (.int 0), (.int 0), (.int 0), (.int 0), (.int 0), (.int 0), (.int 0)] (.int 0)
set_option maxRecDepth 65536 in
set_option maxHeartbeats 40000000 in
theorem rmGc7 (l : Launch) (Z : State) (a0 : Array Value) (hw : ∀ d ∈ tables_1, d.before a0 Z = true) (ws : List Jvm.Cond) (pv : Int32) (ar : Addr) (r1 : Addr) (r2 : Addr) (kr1 : ClassId) (kr2 : ClassId) (kA : ClassId) (h0 : Heap) (n0 : Nat) (Z0 : n0 ≤ h0.size) (g_ar : n0 ≤ ar) (Sr1 : Sta Z h0 "java/lang/Integer" "DigitOnes" "[B" (.ref r1)) (Sr2 : Sta Z h0 "java/lang/Integer" "DigitTens" "[B" (.ref r2)) (Vr1 : Arv Z h0 r1 kr1 .byte (100 : Int32) own_ones (.int 0)) (Vr2 : Arv Z h0 r2 kr2 .byte (100 : Int32) own_tens (.int 0)) (Va : Arv Z h0 ar kA .byte (16 : Int32) [(.int 36), (.int 91), (.int 0), (.int 0), (.int 0), (.int 0), (.int 0), (.int 0), (.int 0), (.int 0), (.int 0), (.int 0), (.int 0), (.int 0), (.int 0), (.int 0)] (.int 0)) (hv0 : ¬ pv < 0) (hlo : ¬ pv < 1000000) (hhi : pv < 10000000) (hr1 : r1 ≠ ar) (hr2 : r2 ≠ ar) :
    MetFree l (⟨"java/lang/Integer", "getChars", "(II[B)I"⟩ : MethodName) (head1 (Jvm.Cond.code (⟨"java/lang/Integer", "getChars", "(II[B)I"⟩ : MethodName) jdk_33_method_12_code 7 (some .int) :: ws) ({ frames := 0, cells := 0, slots := 0, locals := 0 } : Room)) (fun as' U => as' = #[(.int pv), (.int 9), (.ref ar)] ∧ Z.Warmed39 U.vm ∧ U.heap = h0) (fun _ _ _ _ _ => True) (fun _ U o U' => ∃ v L, o = .returned v ∧ QGc7 Z pv ar r1 r2 kr1 kr2 kA h0 n0 v U'.heap L ∧ FrameEnd U o U' L ({ frames := 0, cells := 0, slots := 0, locals := 0 } : Room).cells ({ frames := 0, cells := 0, slots := 0, locals := 0 } : Room).slots) := by
  refine MetFree.of_bodySF (plainFor_of_name pn_java_lang_Integer) hisR ?_
  intro p e s m args below meth c s₁ Bd hml0 hP hK
  obtain ⟨rfl, hZ, hh⟩ := hP
  have hx := Bd.exec
  have hby := Bd.bytes
  have hml : c.maxLocals = 7 := hml0
  have hown : s.vm.findClass "java/lang/Integer" = some m.cls := findClass_of_methodNamed Bd.named
  have hnm := (name_of_methodNamed Bd.named Bd.method).1
  have X0 : Stand p l e ({ frames := 0, cells := 0, slots := 0, locals := 0 } : Room) s m #[(.int pv), (.int 9), (.ref ar)] below meth c s₁ [] 0 0 := Stand.of_body Bd
  have e0 : s₁.heap = h0 := by rw [← hh, Bd.state]; rfl
  have N0 := Fr.nil n0
  show Go p e below s (fun v h L => QGc7 Z pv ar r1 r2 kr1 kr2 kA h0 n0 v h L) 0 0 _
  refine Go.pull (V := s₁.setTop (mkF m 0 #[iv pv, iv 9, rv ar, .unset, .unset, .unset, .unset] [])) (fun t k => castTop (efGc7 m pv ar) k) ?_
  refine Go.pull (V := s₁.setTop (mkF m 12 #[iv pv, iv 9, rv ar, .unset, .unset, iv 9, .unset] [(.int 0)])) (fun t k => XS.iloadN X0.here hx rfl (hb hby z20_0) rfl  (XS.istore X0.here hx rfl (hb hby z20_1) rfl (l' := #[iv pv, iv 9, rv ar, .unset, .unset, iv 9, .unset]) rfl (XS.iloadN X0.here hx rfl (hb hby z20_3) rfl  (XS.ifYes X0.here hx rfl (pc0 := 4) (pc' := 11) rfl (hb hby z20_4) rfl (XT.i0_ge_t hv0) (by decide) (by decide) (XS.iconst X0.here hx rfl (hb hby z20_11) k))))) ?_
  refine Go.pull (V := s₁.setTop (mkF m 21 #[iv pv, iv 9, rv ar, .unset, .unset, iv 9, iv 0] [(.int (-pv))])) (fun t k => XS.istore X0.here hx rfl (hb hby z20_12) rfl (l' := #[iv pv, iv 9, rv ar, .unset, .unset, iv 9, iv 0]) rfl (XS.iload X0.here hx rfl (hb hby z20_14) rfl  (XS.ifNo X0.here hx rfl (hb hby z20_16) rfl (XT.i0_ne_f (by decide)) (XS.iloadN X0.here hx rfl (hb hby z20_19) rfl  (XS.ineg X0.here hx rfl (hb hby z20_20) rfl k))))) ?_
  refine Go.pull (V := s₁.setTop (mkF m 22 #[iv (-pv), iv 9, rv ar, .unset, .unset, iv 9, iv 0] [])) (fun t k => XS.istoreN X0.here hx rfl (hb hby z20_21) rfl (l' := #[iv (-pv), iv 9, rv ar, .unset, .unset, iv 9, iv 0]) rfl k) ?_
  generalize hg0 : (-pv) = q0
  have hq0 : q0.toInt = -(pv.toInt / 1) := hg0 ▸ own_turn0 hv0
  refine Go.pull (V := s₁.setTop (mkF m 31 #[iv q0, iv 9, rv ar, .unset, .unset, iv 9, iv 0] [(.int 100), (.int q0)])) (fun t k => XS.iloadN X0.here hx rfl (hb hby z20_22) rfl  (XS.bipush X0.here hx rfl (hb hby z20_23) (XS.icmpNo X0.here hx rfl (hb hby z20_25) rfl (XT.ii_gt_f (own_b25f hv0 (by decide) hq0 (own_lo hlo (by decide)))) (XS.iloadN X0.here hx rfl (hb hby z20_28) rfl  (XS.bipush X0.here hx rfl (hb hby z20_29) k))))) ?_
  refine Go.pull (V := s₁.setTop (mkF m 37 #[iv q0, iv 9, rv ar, iv (q0 / (100 : Int32)), .unset, iv 9, iv 0] [(.int ((q0 / (100 : Int32)) * (100 : Int32)))])) (fun t k => XS.idiv X0.here hx rfl (hb hby z20_31) rfl (by decide) (XS.istoreN X0.here hx rfl (hb hby z20_32) rfl (l' := #[iv q0, iv 9, rv ar, iv (q0 / (100 : Int32)), .unset, iv 9, iv 0]) rfl (XS.iloadN X0.here hx rfl (hb hby z20_33) rfl  (XS.bipush X0.here hx rfl (hb hby z20_34) (XS.imul X0.here hx rfl (hb hby z20_36) rfl k))))) ?_
  refine Go.pull (V := s₁.setTop (mkF m 43 #[iv (q0 / (100 : Int32)), iv 9, rv ar, iv (q0 / (100 : Int32)), iv (((q0 / (100 : Int32)) * (100 : Int32)) - q0), iv 9, iv 0] [])) (fun t k => XS.iloadN X0.here hx rfl (hb hby z20_37) rfl  (XS.isub X0.here hx rfl (hb hby z20_38) rfl (XS.istore X0.here hx rfl (hb hby z20_39) rfl (l' := #[iv q0, iv 9, rv ar, iv (q0 / (100 : Int32)), iv (((q0 / (100 : Int32)) * (100 : Int32)) - q0), iv 9, iv 0]) rfl (XS.iloadN X0.here hx rfl (hb hby z20_41) rfl  (XS.istoreN X0.here hx rfl (hb hby z20_42) rfl (l' := #[iv (q0 / (100 : Int32)), iv 9, rv ar, iv (q0 / (100 : Int32)), iv (((q0 / (100 : Int32)) * (100 : Int32)) - q0), iv 9, iv 0]) rfl k))))) ?_
  generalize hh0 : (((q0 / (100 : Int32)) * (100 : Int32)) - q0) = w0
  have hr0' : w0.toInt = (pv.toInt / 1) % 100 := hh0 ▸ own_rem hv0 (by decide) hq0
  refine Go.pull (V := s₁.setTop (mkF m 49 #[iv (q0 / (100 : Int32)), iv 9, rv ar, iv (q0 / (100 : Int32)), iv w0, iv 8, iv 0] [(.int 8), (.ref ar)])) (fun t k => XS.aloadN X0.here hx rfl (hb hby z20_43) rfl rfl (XS.iinc X0.here hx rfl (hb hby z20_44) rfl (l' := #[iv (q0 / (100 : Int32)), iv 9, rv ar, iv (q0 / (100 : Int32)), iv w0, iv 8, iv 0]) rfl (XS.iload X0.here hx rfl (hb hby z20_47) rfl  k))) ?_
  obtain ⟨T1, X1, e1, st1⟩ := getS2 X0 hx hZ hown (host := "") (Or.inl (hw _ (List.mem_of_getElem? (i := 152) rfl))) Via.refl e0 Sr1 (g := (mkF m 49 #[iv (q0 / (100 : Int32)), iv 9, rv ar, iv (q0 / (100 : Int32)), iv w0, iv 8, iv 0] [(.int 8), (.ref ar)])) rfl (hb hby z20_49)
  refine Go.pull (V := T1.setTop (mkF m 52 #[iv (q0 / (100 : Int32)), iv 9, rv ar, iv (q0 / (100 : Int32)), iv w0, iv 8, iv 0] [(.ref r1), (.int 8), (.ref ar)])) st1 ?_
  refine Go.pull (V := T1.setTop (mkF m 54 #[iv (q0 / (100 : Int32)), iv 9, rv ar, iv (q0 / (100 : Int32)), iv w0, iv 8, iv 0] [(.int w0), (.ref r1), (.int 8), (.ref ar)])) (fun t k => XS.iload X1.here hx rfl (hb hby z20_52) rfl  k) ?_
  obtain ⟨cl2, Ar2, q2, S2, M2, Hs2, G2⟩ := id Vr1
  have hin2 : ¬ (w0 < 0 ∨ cl2.slots.size ≤ (w0).toNatClampNeg) := inb_of S2 (own_in hr0')
  have hat2 : cl2.slots[(w0).toNatClampNeg]? = some (.int (own_dig pv 1)) := Has.at Hs2 hin2 (own_one hv0 (by decide : (0 : Int) < 1) (by decide) hr0')
  refine Go.pull (V := T1.setTop (mkF m 55 #[iv (q0 / (100 : Int32)), iv 9, rv ar, iv (q0 / (100 : Int32)), iv w0, iv 8, iv 0] [(.int (own_dig pv 1)), (.int 8), (.ref ar)])) (fun t k => X1.baloadBytes hx (j := w0) (v := (.int (own_dig pv 1))) (by rw [e1]; exact Ar2.1) (State.isArrayOf_alike hZ.alike Ar2.2.1) Ar2.2.2 hin2 hat2 (g := (mkF m 54 #[iv (q0 / (100 : Int32)), iv 9, rv ar, iv (q0 / (100 : Int32)), iv w0, iv 8, iv 0] [(.int w0), (.ref r1), (.int 8), (.ref ar)])) rfl rfl (hb hby z20_54) _ k) ?_
  obtain ⟨cl3, Ar3, q3, S3, M3, Hs3, G3⟩ := id Va
  have hin3 : ¬ ((8 : Int32) < 0 ∨ cl3.slots.size ≤ ((8 : Int32)).toNatClampNeg) := inb_of S3 ⟨by decide, by decide⟩
  obtain ⟨T4, h4, X4, e4, W4, st4⟩ := stB X1 hx hZ e1 Ar3 (j := (8 : Int32)) hin3 (g := (mkF m 55 #[iv (q0 / (100 : Int32)), iv 9, rv ar, iv (q0 / (100 : Int32)), iv w0, iv 8, iv 0] [(.int (own_dig pv 1)), (.int 8), (.ref ar)])) rfl rfl (hb hby z20_55)
  rw [own_narb (pv := pv) (pc := 1) (c := 1) hv0 (by decide) (by decide)] at W4
  have V4 : Arv Z h4 ar kA .byte (16 : Int32) [(.int 36), (.int 91), (.int 0), (.int 0), (.int 0), (.int 0), (.int 0), (.int 0), (.int (own_dig pv 1)), (.int 0), (.int 0), (.int 0), (.int 0), (.int 0), (.int 0), (.int 0)] (.int 0) := Arv.set Ar3 q3 S3 M3 Hs3 G3 (own_narb (pv := pv) (pc := 1) (c := 1) hv0 (by decide) (by decide) ▸ fits_nar_byte _) W4 8 rfl (Nat.le_of_ble_eq_true rfl)
  have K4 : Keep h0 h4 [ar] := (Keep.refl h0 [ar]).wr W4 (Or.inl (List.mem_of_getElem? (i := 0) rfl))
  have N4 := Fr.snoc X4 N0 g_ar
  refine Go.pull (V := T4.setTop (mkF m 56 #[iv (q0 / (100 : Int32)), iv 9, rv ar, iv (q0 / (100 : Int32)), iv w0, iv 8, iv 0] [])) st4 ?_
  refine Go.pull (V := T4.setTop (mkF m 62 #[iv (q0 / (100 : Int32)), iv 9, rv ar, iv (q0 / (100 : Int32)), iv w0, iv 7, iv 0] [(.int 7), (.ref ar)])) (fun t k => XS.aloadN X4.here hx rfl (hb hby z20_56) rfl rfl (XS.iinc X4.here hx rfl (hb hby z20_57) rfl (l' := #[iv (q0 / (100 : Int32)), iv 9, rv ar, iv (q0 / (100 : Int32)), iv w0, iv 7, iv 0]) rfl (XS.iload X4.here hx rfl (hb hby z20_60) rfl  k))) ?_
  obtain ⟨T5, X5, e5, st5⟩ := getS2 X4 hx hZ hown (host := "") (Or.inl (hw _ (List.mem_of_getElem? (i := 153) rfl))) Via.refl e4 (Sr2.wr W4) (g := (mkF m 62 #[iv (q0 / (100 : Int32)), iv 9, rv ar, iv (q0 / (100 : Int32)), iv w0, iv 7, iv 0] [(.int 7), (.ref ar)])) rfl (hb hby z20_62)
  refine Go.pull (V := T5.setTop (mkF m 65 #[iv (q0 / (100 : Int32)), iv 9, rv ar, iv (q0 / (100 : Int32)), iv w0, iv 7, iv 0] [(.ref r2), (.int 7), (.ref ar)])) st5 ?_
  refine Go.pull (V := T5.setTop (mkF m 67 #[iv (q0 / (100 : Int32)), iv 9, rv ar, iv (q0 / (100 : Int32)), iv w0, iv 7, iv 0] [(.int w0), (.ref r2), (.int 7), (.ref ar)])) (fun t k => XS.iload X5.here hx rfl (hb hby z20_65) rfl  k) ?_
  obtain ⟨cl6, Ar6, q6, S6, M6, Hs6, G6⟩ := id (Vr2.other W4 hr2)
  have hin6 : ¬ (w0 < 0 ∨ cl6.slots.size ≤ (w0).toNatClampNeg) := inb_of S6 (own_in hr0')
  have hat6 : cl6.slots[(w0).toNatClampNeg]? = some (.int (own_dig pv 10)) := Has.at Hs6 hin6 (own_ten hv0 (by decide : (0 : Int) < 1) rfl (by decide) hr0')
  refine Go.pull (V := T5.setTop (mkF m 68 #[iv (q0 / (100 : Int32)), iv 9, rv ar, iv (q0 / (100 : Int32)), iv w0, iv 7, iv 0] [(.int (own_dig pv 10)), (.int 7), (.ref ar)])) (fun t k => X5.baloadBytes hx (j := w0) (v := (.int (own_dig pv 10))) (by rw [e5]; exact Ar6.1) (State.isArrayOf_alike hZ.alike Ar6.2.1) Ar6.2.2 hin6 hat6 (g := (mkF m 67 #[iv (q0 / (100 : Int32)), iv 9, rv ar, iv (q0 / (100 : Int32)), iv w0, iv 7, iv 0] [(.int w0), (.ref r2), (.int 7), (.ref ar)])) rfl rfl (hb hby z20_67) _ k) ?_
  obtain ⟨cl7, Ar7, q7, S7, M7, Hs7, G7⟩ := id V4
  have hin7 : ¬ ((7 : Int32) < 0 ∨ cl7.slots.size ≤ ((7 : Int32)).toNatClampNeg) := inb_of S7 ⟨by decide, by decide⟩
  obtain ⟨T8, h8, X8, e8, W8, st8⟩ := stB X5 hx hZ e5 Ar7 (j := (7 : Int32)) hin7 (g := (mkF m 68 #[iv (q0 / (100 : Int32)), iv 9, rv ar, iv (q0 / (100 : Int32)), iv w0, iv 7, iv 0] [(.int (own_dig pv 10)), (.int 7), (.ref ar)])) rfl rfl (hb hby z20_68)
  rw [own_narb (pv := pv) (pc := 10) (c := 10) hv0 (by decide) (by decide)] at W8
  have V8 : Arv Z h8 ar kA .byte (16 : Int32) [(.int 36), (.int 91), (.int 0), (.int 0), (.int 0), (.int 0), (.int 0), (.int (own_dig pv 10)), (.int (own_dig pv 1)), (.int 0), (.int 0), (.int 0), (.int 0), (.int 0), (.int 0), (.int 0)] (.int 0) := Arv.set Ar7 q7 S7 M7 Hs7 G7 (own_narb (pv := pv) (pc := 10) (c := 10) hv0 (by decide) (by decide) ▸ fits_nar_byte _) W8 7 rfl (Nat.le_of_ble_eq_true rfl)
  have K8 : Keep h0 h8 [ar] := K4.wr W8 (Or.inl (List.mem_of_getElem? (i := 0) rfl))
  have N8 := Fr.snoc X8 N4 g_ar
  refine Go.pull (V := T8.setTop (mkF m 69 #[iv (q0 / (100 : Int32)), iv 9, rv ar, iv (q0 / (100 : Int32)), iv w0, iv 7, iv 0] [])) st8 ?_
  refine Go.pull (V := T8.setTop (mkF m 22 #[iv (q0 / (100 : Int32)), iv 9, rv ar, iv (q0 / (100 : Int32)), iv w0, iv 7, iv 0] [])) (fun t k => XS.goto X8.here hx rfl (pc0 := 69) (pc' := 22) rfl (hb hby z20_69) (by decide) (by decide) k) ?_
  generalize hg1 : (q0 / (100 : Int32)) = q1
  have hq1 : q1.toInt = -(pv.toInt / 100) := hg1 ▸ own_turn (c := 1) hv0 (by decide) rfl hq0
  refine Go.pull (V := T8.setTop (mkF m 31 #[iv q1, iv 9, rv ar, iv q1, iv w0, iv 7, iv 0] [(.int 100), (.int q1)])) (fun t k => XS.iloadN X8.here hx rfl (hb hby z20_22) rfl  (XS.bipush X8.here hx rfl (hb hby z20_23) (XS.icmpNo X8.here hx rfl (hb hby z20_25) rfl (XT.ii_gt_f (own_b25f hv0 (by decide) hq1 (own_lo hlo (by decide)))) (XS.iloadN X8.here hx rfl (hb hby z20_28) rfl  (XS.bipush X8.here hx rfl (hb hby z20_29) k))))) ?_
  refine Go.pull (V := T8.setTop (mkF m 37 #[iv q1, iv 9, rv ar, iv (q1 / (100 : Int32)), iv w0, iv 7, iv 0] [(.int ((q1 / (100 : Int32)) * (100 : Int32)))])) (fun t k => XS.idiv X8.here hx rfl (hb hby z20_31) rfl (by decide) (XS.istoreN X8.here hx rfl (hb hby z20_32) rfl (l' := #[iv q1, iv 9, rv ar, iv (q1 / (100 : Int32)), iv w0, iv 7, iv 0]) rfl (XS.iloadN X8.here hx rfl (hb hby z20_33) rfl  (XS.bipush X8.here hx rfl (hb hby z20_34) (XS.imul X8.here hx rfl (hb hby z20_36) rfl k))))) ?_
  refine Go.pull (V := T8.setTop (mkF m 43 #[iv (q1 / (100 : Int32)), iv 9, rv ar, iv (q1 / (100 : Int32)), iv (((q1 / (100 : Int32)) * (100 : Int32)) - q1), iv 7, iv 0] [])) (fun t k => XS.iloadN X8.here hx rfl (hb hby z20_37) rfl  (XS.isub X8.here hx rfl (hb hby z20_38) rfl (XS.istore X8.here hx rfl (hb hby z20_39) rfl (l' := #[iv q1, iv 9, rv ar, iv (q1 / (100 : Int32)), iv (((q1 / (100 : Int32)) * (100 : Int32)) - q1), iv 7, iv 0]) rfl (XS.iloadN X8.here hx rfl (hb hby z20_41) rfl  (XS.istoreN X8.here hx rfl (hb hby z20_42) rfl (l' := #[iv (q1 / (100 : Int32)), iv 9, rv ar, iv (q1 / (100 : Int32)), iv (((q1 / (100 : Int32)) * (100 : Int32)) - q1), iv 7, iv 0]) rfl k))))) ?_
  generalize hh1 : (((q1 / (100 : Int32)) * (100 : Int32)) - q1) = w1
  have hr1' : w1.toInt = (pv.toInt / 100) % 100 := hh1 ▸ own_rem hv0 (by decide) hq1
  refine Go.pull (V := T8.setTop (mkF m 49 #[iv (q1 / (100 : Int32)), iv 9, rv ar, iv (q1 / (100 : Int32)), iv w1, iv 6, iv 0] [(.int 6), (.ref ar)])) (fun t k => XS.aloadN X8.here hx rfl (hb hby z20_43) rfl rfl (XS.iinc X8.here hx rfl (hb hby z20_44) rfl (l' := #[iv (q1 / (100 : Int32)), iv 9, rv ar, iv (q1 / (100 : Int32)), iv w1, iv 6, iv 0]) rfl (XS.iload X8.here hx rfl (hb hby z20_47) rfl  k))) ?_
  obtain ⟨T9, X9, e9, st9⟩ := getS2 X8 hx hZ hown (host := "") (Or.inl (hw _ (List.mem_of_getElem? (i := 152) rfl))) Via.refl e8 ((Sr1.wr W4).wr W8) (g := (mkF m 49 #[iv (q1 / (100 : Int32)), iv 9, rv ar, iv (q1 / (100 : Int32)), iv w1, iv 6, iv 0] [(.int 6), (.ref ar)])) rfl (hb hby z20_49)
  refine Go.pull (V := T9.setTop (mkF m 52 #[iv (q1 / (100 : Int32)), iv 9, rv ar, iv (q1 / (100 : Int32)), iv w1, iv 6, iv 0] [(.ref r1), (.int 6), (.ref ar)])) st9 ?_
  refine Go.pull (V := T9.setTop (mkF m 54 #[iv (q1 / (100 : Int32)), iv 9, rv ar, iv (q1 / (100 : Int32)), iv w1, iv 6, iv 0] [(.int w1), (.ref r1), (.int 6), (.ref ar)])) (fun t k => XS.iload X9.here hx rfl (hb hby z20_52) rfl  k) ?_
  obtain ⟨cl10, Ar10, q10, S10, M10, Hs10, G10⟩ := id ((Vr1.other W4 hr1).other W8 hr1)
  have hin10 : ¬ (w1 < 0 ∨ cl10.slots.size ≤ (w1).toNatClampNeg) := inb_of S10 (own_in hr1')
  have hat10 : cl10.slots[(w1).toNatClampNeg]? = some (.int (own_dig pv 100)) := Has.at Hs10 hin10 (own_one hv0 (by decide : (0 : Int) < 100) (by decide) hr1')
  refine Go.pull (V := T9.setTop (mkF m 55 #[iv (q1 / (100 : Int32)), iv 9, rv ar, iv (q1 / (100 : Int32)), iv w1, iv 6, iv 0] [(.int (own_dig pv 100)), (.int 6), (.ref ar)])) (fun t k => X9.baloadBytes hx (j := w1) (v := (.int (own_dig pv 100))) (by rw [e9]; exact Ar10.1) (State.isArrayOf_alike hZ.alike Ar10.2.1) Ar10.2.2 hin10 hat10 (g := (mkF m 54 #[iv (q1 / (100 : Int32)), iv 9, rv ar, iv (q1 / (100 : Int32)), iv w1, iv 6, iv 0] [(.int w1), (.ref r1), (.int 6), (.ref ar)])) rfl rfl (hb hby z20_54) _ k) ?_
  obtain ⟨cl11, Ar11, q11, S11, M11, Hs11, G11⟩ := id V8
  have hin11 : ¬ ((6 : Int32) < 0 ∨ cl11.slots.size ≤ ((6 : Int32)).toNatClampNeg) := inb_of S11 ⟨by decide, by decide⟩
  obtain ⟨T12, h12, X12, e12, W12, st12⟩ := stB X9 hx hZ e9 Ar11 (j := (6 : Int32)) hin11 (g := (mkF m 55 #[iv (q1 / (100 : Int32)), iv 9, rv ar, iv (q1 / (100 : Int32)), iv w1, iv 6, iv 0] [(.int (own_dig pv 100)), (.int 6), (.ref ar)])) rfl rfl (hb hby z20_55)
  rw [own_narb (pv := pv) (pc := 100) (c := 100) hv0 (by decide) (by decide)] at W12
  have V12 : Arv Z h12 ar kA .byte (16 : Int32) [(.int 36), (.int 91), (.int 0), (.int 0), (.int 0), (.int 0), (.int (own_dig pv 100)), (.int (own_dig pv 10)), (.int (own_dig pv 1)), (.int 0), (.int 0), (.int 0), (.int 0), (.int 0), (.int 0), (.int 0)] (.int 0) := Arv.set Ar11 q11 S11 M11 Hs11 G11 (own_narb (pv := pv) (pc := 100) (c := 100) hv0 (by decide) (by decide) ▸ fits_nar_byte _) W12 6 rfl (Nat.le_of_ble_eq_true rfl)
  have K12 : Keep h0 h12 [ar] := K8.wr W12 (Or.inl (List.mem_of_getElem? (i := 0) rfl))
  have N12 := Fr.snoc X12 N8 g_ar
  refine Go.pull (V := T12.setTop (mkF m 56 #[iv (q1 / (100 : Int32)), iv 9, rv ar, iv (q1 / (100 : Int32)), iv w1, iv 6, iv 0] [])) st12 ?_
  refine Go.pull (V := T12.setTop (mkF m 62 #[iv (q1 / (100 : Int32)), iv 9, rv ar, iv (q1 / (100 : Int32)), iv w1, iv 5, iv 0] [(.int 5), (.ref ar)])) (fun t k => XS.aloadN X12.here hx rfl (hb hby z20_56) rfl rfl (XS.iinc X12.here hx rfl (hb hby z20_57) rfl (l' := #[iv (q1 / (100 : Int32)), iv 9, rv ar, iv (q1 / (100 : Int32)), iv w1, iv 5, iv 0]) rfl (XS.iload X12.here hx rfl (hb hby z20_60) rfl  k))) ?_
  obtain ⟨T13, X13, e13, st13⟩ := getS2 X12 hx hZ hown (host := "") (Or.inl (hw _ (List.mem_of_getElem? (i := 153) rfl))) Via.refl e12 (((Sr2.wr W4).wr W8).wr W12) (g := (mkF m 62 #[iv (q1 / (100 : Int32)), iv 9, rv ar, iv (q1 / (100 : Int32)), iv w1, iv 5, iv 0] [(.int 5), (.ref ar)])) rfl (hb hby z20_62)
  refine Go.pull (V := T13.setTop (mkF m 65 #[iv (q1 / (100 : Int32)), iv 9, rv ar, iv (q1 / (100 : Int32)), iv w1, iv 5, iv 0] [(.ref r2), (.int 5), (.ref ar)])) st13 ?_
  refine Go.pull (V := T13.setTop (mkF m 67 #[iv (q1 / (100 : Int32)), iv 9, rv ar, iv (q1 / (100 : Int32)), iv w1, iv 5, iv 0] [(.int w1), (.ref r2), (.int 5), (.ref ar)])) (fun t k => XS.iload X13.here hx rfl (hb hby z20_65) rfl  k) ?_
  obtain ⟨cl14, Ar14, q14, S14, M14, Hs14, G14⟩ := id (((Vr2.other W4 hr2).other W8 hr2).other W12 hr2)
  have hin14 : ¬ (w1 < 0 ∨ cl14.slots.size ≤ (w1).toNatClampNeg) := inb_of S14 (own_in hr1')
  have hat14 : cl14.slots[(w1).toNatClampNeg]? = some (.int (own_dig pv 1000)) := Has.at Hs14 hin14 (own_ten hv0 (by decide : (0 : Int) < 100) rfl (by decide) hr1')
  refine Go.pull (V := T13.setTop (mkF m 68 #[iv (q1 / (100 : Int32)), iv 9, rv ar, iv (q1 / (100 : Int32)), iv w1, iv 5, iv 0] [(.int (own_dig pv 1000)), (.int 5), (.ref ar)])) (fun t k => X13.baloadBytes hx (j := w1) (v := (.int (own_dig pv 1000))) (by rw [e13]; exact Ar14.1) (State.isArrayOf_alike hZ.alike Ar14.2.1) Ar14.2.2 hin14 hat14 (g := (mkF m 67 #[iv (q1 / (100 : Int32)), iv 9, rv ar, iv (q1 / (100 : Int32)), iv w1, iv 5, iv 0] [(.int w1), (.ref r2), (.int 5), (.ref ar)])) rfl rfl (hb hby z20_67) _ k) ?_
  obtain ⟨cl15, Ar15, q15, S15, M15, Hs15, G15⟩ := id V12
  have hin15 : ¬ ((5 : Int32) < 0 ∨ cl15.slots.size ≤ ((5 : Int32)).toNatClampNeg) := inb_of S15 ⟨by decide, by decide⟩
  obtain ⟨T16, h16, X16, e16, W16, st16⟩ := stB X13 hx hZ e13 Ar15 (j := (5 : Int32)) hin15 (g := (mkF m 68 #[iv (q1 / (100 : Int32)), iv 9, rv ar, iv (q1 / (100 : Int32)), iv w1, iv 5, iv 0] [(.int (own_dig pv 1000)), (.int 5), (.ref ar)])) rfl rfl (hb hby z20_68)
  rw [own_narb (pv := pv) (pc := 1000) (c := 1000) hv0 (by decide) (by decide)] at W16
  have V16 : Arv Z h16 ar kA .byte (16 : Int32) [(.int 36), (.int 91), (.int 0), (.int 0), (.int 0), (.int (own_dig pv 1000)), (.int (own_dig pv 100)), (.int (own_dig pv 10)), (.int (own_dig pv 1)), (.int 0), (.int 0), (.int 0), (.int 0), (.int 0), (.int 0), (.int 0)] (.int 0) := Arv.set Ar15 q15 S15 M15 Hs15 G15 (own_narb (pv := pv) (pc := 1000) (c := 1000) hv0 (by decide) (by decide) ▸ fits_nar_byte _) W16 5 rfl (Nat.le_of_ble_eq_true rfl)
  have K16 : Keep h0 h16 [ar] := K12.wr W16 (Or.inl (List.mem_of_getElem? (i := 0) rfl))
  have N16 := Fr.snoc X16 N12 g_ar
  refine Go.pull (V := T16.setTop (mkF m 69 #[iv (q1 / (100 : Int32)), iv 9, rv ar, iv (q1 / (100 : Int32)), iv w1, iv 5, iv 0] [])) st16 ?_
  refine Go.pull (V := T16.setTop (mkF m 22 #[iv (q1 / (100 : Int32)), iv 9, rv ar, iv (q1 / (100 : Int32)), iv w1, iv 5, iv 0] [])) (fun t k => XS.goto X16.here hx rfl (pc0 := 69) (pc' := 22) rfl (hb hby z20_69) (by decide) (by decide) k) ?_
  generalize hg2 : (q1 / (100 : Int32)) = q2
  have hq2 : q2.toInt = -(pv.toInt / 10000) := hg2 ▸ own_turn (c := 100) hv0 (by decide) rfl hq1
  refine Go.pull (V := T16.setTop (mkF m 31 #[iv q2, iv 9, rv ar, iv q2, iv w1, iv 5, iv 0] [(.int 100), (.int q2)])) (fun t k => XS.iloadN X16.here hx rfl (hb hby z20_22) rfl  (XS.bipush X16.here hx rfl (hb hby z20_23) (XS.icmpNo X16.here hx rfl (hb hby z20_25) rfl (XT.ii_gt_f (own_b25f hv0 (by decide) hq2 (own_lo hlo (by decide)))) (XS.iloadN X16.here hx rfl (hb hby z20_28) rfl  (XS.bipush X16.here hx rfl (hb hby z20_29) k))))) ?_
  refine Go.pull (V := T16.setTop (mkF m 37 #[iv q2, iv 9, rv ar, iv (q2 / (100 : Int32)), iv w1, iv 5, iv 0] [(.int ((q2 / (100 : Int32)) * (100 : Int32)))])) (fun t k => XS.idiv X16.here hx rfl (hb hby z20_31) rfl (by decide) (XS.istoreN X16.here hx rfl (hb hby z20_32) rfl (l' := #[iv q2, iv 9, rv ar, iv (q2 / (100 : Int32)), iv w1, iv 5, iv 0]) rfl (XS.iloadN X16.here hx rfl (hb hby z20_33) rfl  (XS.bipush X16.here hx rfl (hb hby z20_34) (XS.imul X16.here hx rfl (hb hby z20_36) rfl k))))) ?_
  refine Go.pull (V := T16.setTop (mkF m 43 #[iv (q2 / (100 : Int32)), iv 9, rv ar, iv (q2 / (100 : Int32)), iv (((q2 / (100 : Int32)) * (100 : Int32)) - q2), iv 5, iv 0] [])) (fun t k => XS.iloadN X16.here hx rfl (hb hby z20_37) rfl  (XS.isub X16.here hx rfl (hb hby z20_38) rfl (XS.istore X16.here hx rfl (hb hby z20_39) rfl (l' := #[iv q2, iv 9, rv ar, iv (q2 / (100 : Int32)), iv (((q2 / (100 : Int32)) * (100 : Int32)) - q2), iv 5, iv 0]) rfl (XS.iloadN X16.here hx rfl (hb hby z20_41) rfl  (XS.istoreN X16.here hx rfl (hb hby z20_42) rfl (l' := #[iv (q2 / (100 : Int32)), iv 9, rv ar, iv (q2 / (100 : Int32)), iv (((q2 / (100 : Int32)) * (100 : Int32)) - q2), iv 5, iv 0]) rfl k))))) ?_
  generalize hh2 : (((q2 / (100 : Int32)) * (100 : Int32)) - q2) = w2
  have hr2' : w2.toInt = (pv.toInt / 10000) % 100 := hh2 ▸ own_rem hv0 (by decide) hq2
  refine Go.pull (V := T16.setTop (mkF m 49 #[iv (q2 / (100 : Int32)), iv 9, rv ar, iv (q2 / (100 : Int32)), iv w2, iv 4, iv 0] [(.int 4), (.ref ar)])) (fun t k => XS.aloadN X16.here hx rfl (hb hby z20_43) rfl rfl (XS.iinc X16.here hx rfl (hb hby z20_44) rfl (l' := #[iv (q2 / (100 : Int32)), iv 9, rv ar, iv (q2 / (100 : Int32)), iv w2, iv 4, iv 0]) rfl (XS.iload X16.here hx rfl (hb hby z20_47) rfl  k))) ?_
  obtain ⟨T17, X17, e17, st17⟩ := getS2 X16 hx hZ hown (host := "") (Or.inl (hw _ (List.mem_of_getElem? (i := 152) rfl))) Via.refl e16 ((((Sr1.wr W4).wr W8).wr W12).wr W16) (g := (mkF m 49 #[iv (q2 / (100 : Int32)), iv 9, rv ar, iv (q2 / (100 : Int32)), iv w2, iv 4, iv 0] [(.int 4), (.ref ar)])) rfl (hb hby z20_49)
  refine Go.pull (V := T17.setTop (mkF m 52 #[iv (q2 / (100 : Int32)), iv 9, rv ar, iv (q2 / (100 : Int32)), iv w2, iv 4, iv 0] [(.ref r1), (.int 4), (.ref ar)])) st17 ?_
  refine Go.pull (V := T17.setTop (mkF m 54 #[iv (q2 / (100 : Int32)), iv 9, rv ar, iv (q2 / (100 : Int32)), iv w2, iv 4, iv 0] [(.int w2), (.ref r1), (.int 4), (.ref ar)])) (fun t k => XS.iload X17.here hx rfl (hb hby z20_52) rfl  k) ?_
  obtain ⟨cl18, Ar18, q18, S18, M18, Hs18, G18⟩ := id ((((Vr1.other W4 hr1).other W8 hr1).other W12 hr1).other W16 hr1)
  have hin18 : ¬ (w2 < 0 ∨ cl18.slots.size ≤ (w2).toNatClampNeg) := inb_of S18 (own_in hr2')
  have hat18 : cl18.slots[(w2).toNatClampNeg]? = some (.int (own_dig pv 10000)) := Has.at Hs18 hin18 (own_one hv0 (by decide : (0 : Int) < 10000) (by decide) hr2')
  refine Go.pull (V := T17.setTop (mkF m 55 #[iv (q2 / (100 : Int32)), iv 9, rv ar, iv (q2 / (100 : Int32)), iv w2, iv 4, iv 0] [(.int (own_dig pv 10000)), (.int 4), (.ref ar)])) (fun t k => X17.baloadBytes hx (j := w2) (v := (.int (own_dig pv 10000))) (by rw [e17]; exact Ar18.1) (State.isArrayOf_alike hZ.alike Ar18.2.1) Ar18.2.2 hin18 hat18 (g := (mkF m 54 #[iv (q2 / (100 : Int32)), iv 9, rv ar, iv (q2 / (100 : Int32)), iv w2, iv 4, iv 0] [(.int w2), (.ref r1), (.int 4), (.ref ar)])) rfl rfl (hb hby z20_54) _ k) ?_
  obtain ⟨cl19, Ar19, q19, S19, M19, Hs19, G19⟩ := id V16
  have hin19 : ¬ ((4 : Int32) < 0 ∨ cl19.slots.size ≤ ((4 : Int32)).toNatClampNeg) := inb_of S19 ⟨by decide, by decide⟩
  obtain ⟨T20, h20, X20, e20, W20, st20⟩ := stB X17 hx hZ e17 Ar19 (j := (4 : Int32)) hin19 (g := (mkF m 55 #[iv (q2 / (100 : Int32)), iv 9, rv ar, iv (q2 / (100 : Int32)), iv w2, iv 4, iv 0] [(.int (own_dig pv 10000)), (.int 4), (.ref ar)])) rfl rfl (hb hby z20_55)
  rw [own_narb (pv := pv) (pc := 10000) (c := 10000) hv0 (by decide) (by decide)] at W20
  have V20 : Arv Z h20 ar kA .byte (16 : Int32) [(.int 36), (.int 91), (.int 0), (.int 0), (.int (own_dig pv 10000)), (.int (own_dig pv 1000)), (.int (own_dig pv 100)), (.int (own_dig pv 10)), (.int (own_dig pv 1)), (.int 0), (.int 0), (.int 0), (.int 0), (.int 0), (.int 0), (.int 0)] (.int 0) := Arv.set Ar19 q19 S19 M19 Hs19 G19 (own_narb (pv := pv) (pc := 10000) (c := 10000) hv0 (by decide) (by decide) ▸ fits_nar_byte _) W20 4 rfl (Nat.le_of_ble_eq_true rfl)
  have K20 : Keep h0 h20 [ar] := K16.wr W20 (Or.inl (List.mem_of_getElem? (i := 0) rfl))
  have N20 := Fr.snoc X20 N16 g_ar
  refine Go.pull (V := T20.setTop (mkF m 56 #[iv (q2 / (100 : Int32)), iv 9, rv ar, iv (q2 / (100 : Int32)), iv w2, iv 4, iv 0] [])) st20 ?_
  refine Go.pull (V := T20.setTop (mkF m 62 #[iv (q2 / (100 : Int32)), iv 9, rv ar, iv (q2 / (100 : Int32)), iv w2, iv 3, iv 0] [(.int 3), (.ref ar)])) (fun t k => XS.aloadN X20.here hx rfl (hb hby z20_56) rfl rfl (XS.iinc X20.here hx rfl (hb hby z20_57) rfl (l' := #[iv (q2 / (100 : Int32)), iv 9, rv ar, iv (q2 / (100 : Int32)), iv w2, iv 3, iv 0]) rfl (XS.iload X20.here hx rfl (hb hby z20_60) rfl  k))) ?_
  obtain ⟨T21, X21, e21, st21⟩ := getS2 X20 hx hZ hown (host := "") (Or.inl (hw _ (List.mem_of_getElem? (i := 153) rfl))) Via.refl e20 (((((Sr2.wr W4).wr W8).wr W12).wr W16).wr W20) (g := (mkF m 62 #[iv (q2 / (100 : Int32)), iv 9, rv ar, iv (q2 / (100 : Int32)), iv w2, iv 3, iv 0] [(.int 3), (.ref ar)])) rfl (hb hby z20_62)
  refine Go.pull (V := T21.setTop (mkF m 65 #[iv (q2 / (100 : Int32)), iv 9, rv ar, iv (q2 / (100 : Int32)), iv w2, iv 3, iv 0] [(.ref r2), (.int 3), (.ref ar)])) st21 ?_
  refine Go.pull (V := T21.setTop (mkF m 67 #[iv (q2 / (100 : Int32)), iv 9, rv ar, iv (q2 / (100 : Int32)), iv w2, iv 3, iv 0] [(.int w2), (.ref r2), (.int 3), (.ref ar)])) (fun t k => XS.iload X21.here hx rfl (hb hby z20_65) rfl  k) ?_
  obtain ⟨cl22, Ar22, q22, S22, M22, Hs22, G22⟩ := id (((((Vr2.other W4 hr2).other W8 hr2).other W12 hr2).other W16 hr2).other W20 hr2)
  have hin22 : ¬ (w2 < 0 ∨ cl22.slots.size ≤ (w2).toNatClampNeg) := inb_of S22 (own_in hr2')
  have hat22 : cl22.slots[(w2).toNatClampNeg]? = some (.int (own_dig pv 100000)) := Has.at Hs22 hin22 (own_ten hv0 (by decide : (0 : Int) < 10000) rfl (by decide) hr2')
  refine Go.pull (V := T21.setTop (mkF m 68 #[iv (q2 / (100 : Int32)), iv 9, rv ar, iv (q2 / (100 : Int32)), iv w2, iv 3, iv 0] [(.int (own_dig pv 100000)), (.int 3), (.ref ar)])) (fun t k => X21.baloadBytes hx (j := w2) (v := (.int (own_dig pv 100000))) (by rw [e21]; exact Ar22.1) (State.isArrayOf_alike hZ.alike Ar22.2.1) Ar22.2.2 hin22 hat22 (g := (mkF m 67 #[iv (q2 / (100 : Int32)), iv 9, rv ar, iv (q2 / (100 : Int32)), iv w2, iv 3, iv 0] [(.int w2), (.ref r2), (.int 3), (.ref ar)])) rfl rfl (hb hby z20_67) _ k) ?_
  obtain ⟨cl23, Ar23, q23, S23, M23, Hs23, G23⟩ := id V20
  have hin23 : ¬ ((3 : Int32) < 0 ∨ cl23.slots.size ≤ ((3 : Int32)).toNatClampNeg) := inb_of S23 ⟨by decide, by decide⟩
  obtain ⟨T24, h24, X24, e24, W24, st24⟩ := stB X21 hx hZ e21 Ar23 (j := (3 : Int32)) hin23 (g := (mkF m 68 #[iv (q2 / (100 : Int32)), iv 9, rv ar, iv (q2 / (100 : Int32)), iv w2, iv 3, iv 0] [(.int (own_dig pv 100000)), (.int 3), (.ref ar)])) rfl rfl (hb hby z20_68)
  rw [own_narb (pv := pv) (pc := 100000) (c := 100000) hv0 (by decide) (by decide)] at W24
  have V24 : Arv Z h24 ar kA .byte (16 : Int32) [(.int 36), (.int 91), (.int 0), (.int (own_dig pv 100000)), (.int (own_dig pv 10000)), (.int (own_dig pv 1000)), (.int (own_dig pv 100)), (.int (own_dig pv 10)), (.int (own_dig pv 1)), (.int 0), (.int 0), (.int 0), (.int 0), (.int 0), (.int 0), (.int 0)] (.int 0) := Arv.set Ar23 q23 S23 M23 Hs23 G23 (own_narb (pv := pv) (pc := 100000) (c := 100000) hv0 (by decide) (by decide) ▸ fits_nar_byte _) W24 3 rfl (Nat.le_of_ble_eq_true rfl)
  have K24 : Keep h0 h24 [ar] := K20.wr W24 (Or.inl (List.mem_of_getElem? (i := 0) rfl))
  have N24 := Fr.snoc X24 N20 g_ar
  refine Go.pull (V := T24.setTop (mkF m 69 #[iv (q2 / (100 : Int32)), iv 9, rv ar, iv (q2 / (100 : Int32)), iv w2, iv 3, iv 0] [])) st24 ?_
  refine Go.pull (V := T24.setTop (mkF m 22 #[iv (q2 / (100 : Int32)), iv 9, rv ar, iv (q2 / (100 : Int32)), iv w2, iv 3, iv 0] [])) (fun t k => XS.goto X24.here hx rfl (pc0 := 69) (pc' := 22) rfl (hb hby z20_69) (by decide) (by decide) k) ?_
  generalize hg3 : (q2 / (100 : Int32)) = q3
  have hq3 : q3.toInt = -(pv.toInt / 1000000) := hg3 ▸ own_turn (c := 10000) hv0 (by decide) rfl hq2
  refine Go.pull (V := T24.setTop (mkF m 76 #[iv q3, iv 9, rv ar, iv q3, iv w2, iv 2, iv 0] [(.ref ar)])) (fun t k => XS.iloadN X24.here hx rfl (hb hby z20_22) rfl  (XS.bipush X24.here hx rfl (hb hby z20_23) (XS.icmpYes X24.here hx rfl (pc0 := 25) (pc' := 72) rfl (hb hby z20_25) rfl (XT.ii_gt_t (own_b25t hq3 (by have := own_nn hv0; have := Int32.lt_iff_toInt_lt.mp hhi; simp only [show (10000000 : Int32).toInt = 10000000 from rfl] at this; omega))) (by decide) (by decide) (XS.aloadN X24.here hx rfl (hb hby z20_72) rfl rfl (XS.iinc X24.here hx rfl (hb hby z20_73) rfl (l' := #[iv q3, iv 9, rv ar, iv q3, iv w2, iv 2, iv 0]) rfl k))))) ?_
  refine Go.pull (V := T24.setTop (mkF m 78 #[iv q3, iv 9, rv ar, iv q3, iv w2, iv 2, iv 0] [(.int 2), (.ref ar)])) (fun t k => XS.iload X24.here hx rfl (hb hby z20_76) rfl  k) ?_
  obtain ⟨T25, X25, e25, st25⟩ := getS2 X24 hx hZ hown (host := "") (Or.inl (hw _ (List.mem_of_getElem? (i := 152) rfl))) Via.refl e24 ((((((Sr1.wr W4).wr W8).wr W12).wr W16).wr W20).wr W24) (g := (mkF m 78 #[iv q3, iv 9, rv ar, iv q3, iv w2, iv 2, iv 0] [(.int 2), (.ref ar)])) rfl (hb hby z20_78)
  refine Go.pull (V := T25.setTop (mkF m 81 #[iv q3, iv 9, rv ar, iv q3, iv w2, iv 2, iv 0] [(.ref r1), (.int 2), (.ref ar)])) st25 ?_
  refine Go.pull (V := T25.setTop (mkF m 83 #[iv q3, iv 9, rv ar, iv q3, iv w2, iv 2, iv 0] [(.int (-q3)), (.ref r1), (.int 2), (.ref ar)])) (fun t k => XS.iloadN X25.here hx rfl (hb hby z20_81) rfl  (XS.ineg X25.here hx rfl (hb hby z20_82) rfl k)) ?_
  have hr3' : (-q3).toInt = (pv.toInt / 1000000) % 100 := own_last hv0 (by decide) (by have := own_nn hv0; have := Int32.lt_iff_toInt_lt.mp hhi; simp only [show (10000000 : Int32).toInt = 10000000 from rfl] at this; omega) hq3
  obtain ⟨cl26, Ar26, q26, S26, M26, Hs26, G26⟩ := id ((((((Vr1.other W4 hr1).other W8 hr1).other W12 hr1).other W16 hr1).other W20 hr1).other W24 hr1)
  have hin26 : ¬ ((-q3) < 0 ∨ cl26.slots.size ≤ ((-q3)).toNatClampNeg) := inb_of S26 (own_in hr3')
  have hat26 : cl26.slots[((-q3)).toNatClampNeg]? = some (.int (own_dig pv 1000000)) := Has.at Hs26 hin26 (own_one hv0 (by decide : (0 : Int) < 1000000) (by decide) hr3')
  refine Go.pull (V := T25.setTop (mkF m 84 #[iv q3, iv 9, rv ar, iv q3, iv w2, iv 2, iv 0] [(.int (own_dig pv 1000000)), (.int 2), (.ref ar)])) (fun t k => X25.baloadBytes hx (j := (-q3)) (v := (.int (own_dig pv 1000000))) (by rw [e25]; exact Ar26.1) (State.isArrayOf_alike hZ.alike Ar26.2.1) Ar26.2.2 hin26 hat26 (g := (mkF m 83 #[iv q3, iv 9, rv ar, iv q3, iv w2, iv 2, iv 0] [(.int (-q3)), (.ref r1), (.int 2), (.ref ar)])) rfl rfl (hb hby z20_83) _ k) ?_
  obtain ⟨cl27, Ar27, q27, S27, M27, Hs27, G27⟩ := id V24
  have hin27 : ¬ ((2 : Int32) < 0 ∨ cl27.slots.size ≤ ((2 : Int32)).toNatClampNeg) := inb_of S27 ⟨by decide, by decide⟩
  obtain ⟨T28, h28, X28, e28, W28, st28⟩ := stB X25 hx hZ e25 Ar27 (j := (2 : Int32)) hin27 (g := (mkF m 84 #[iv q3, iv 9, rv ar, iv q3, iv w2, iv 2, iv 0] [(.int (own_dig pv 1000000)), (.int 2), (.ref ar)])) rfl rfl (hb hby z20_84)
  rw [own_narb (pv := pv) (pc := 1000000) (c := 1000000) hv0 (by decide) (by decide)] at W28
  have V28 : Arv Z h28 ar kA .byte (16 : Int32) [(.int 36), (.int 91), (.int (own_dig pv 1000000)), (.int (own_dig pv 100000)), (.int (own_dig pv 10000)), (.int (own_dig pv 1000)), (.int (own_dig pv 100)), (.int (own_dig pv 10)), (.int (own_dig pv 1)), (.int 0), (.int 0), (.int 0), (.int 0), (.int 0), (.int 0), (.int 0)] (.int 0) := Arv.set Ar27 q27 S27 M27 Hs27 G27 (own_narb (pv := pv) (pc := 1000000) (c := 1000000) hv0 (by decide) (by decide) ▸ fits_nar_byte _) W28 2 rfl (Nat.le_of_ble_eq_true rfl)
  have K28 : Keep h0 h28 [ar] := K24.wr W28 (Or.inl (List.mem_of_getElem? (i := 0) rfl))
  have N28 := Fr.snoc X28 N24 g_ar
  refine Go.pull (V := T28.setTop (mkF m 85 #[iv q3, iv 9, rv ar, iv q3, iv w2, iv 2, iv 0] [])) st28 ?_
  refine Go.pull (V := T28.setTop (mkF m 118 #[iv q3, iv 9, rv ar, iv q3, iv w2, iv 2, iv 0] [])) (fun t k => XS.iloadN X28.here hx rfl (hb hby z20_85) rfl  (XS.bipush X28.here hx rfl (hb hby z20_86) (XS.icmpYes X28.here hx rfl (pc0 := 88) (pc' := 104) rfl (hb hby z20_88) rfl (XT.ii_ge_t (own_b88f hq3 (by have := own_nn hv0; have := Int32.lt_iff_toInt_lt.mp hhi; simp only [show (10000000 : Int32).toInt = 10000000 from rfl] at this; omega))) (by decide) (by decide) (XS.iload X28.here hx rfl (hb hby z20_104) rfl  (XS.ifYes X28.here hx rfl (pc0 := 106) (pc' := 118) rfl (hb hby z20_106) rfl (XT.i0_eq_t (by decide)) (by decide) (by decide) k))))) ?_
  refine Go.pull (V := T28.setTop (mkF m 120 #[iv q3, iv 9, rv ar, iv q3, iv w2, iv 2, iv 0] [(.int 2)])) (fun t k => XS.iload X28.here hx rfl (hb hby z20_118) rfl  k) ?_
  exact Go.retI X28 hx Bd.notSynchronized Bd.returns (hb hby z20_120) (by rw [e28]; exact ⟨rfl, N28, K28, V28⟩) (by decide) (by decide)
theorem efGc8 (m : MethodId) (x0 : Int32) (x2 : Addr) : entryFrame m #[(.int x0), (.int 10), (.ref x2)] 7 = mkF m 0 #[iv x0, iv 10, rv x2, .unset, .unset, .unset, .unset] [] := by first | (simp [entryFrame, mkF, argsToLocals, Value.category]; done) | rfl
def QGc8 (Z : State) (pv : Int32) (ar : Addr) (r1 : Addr) (r2 : Addr) (kr1 : ClassId) (kr2 : ClassId) (kA : ClassId) (h0 : Heap) (n0 : Nat) (v : Option Value) (h : Heap) (L : List Loc) : Prop := v = some (.int 2) ∧ Fr n0 L ∧ Keep h0 h [ar] ∧ Arv Z h ar kA .byte (16 : Int32) [(.int 36), (.int 91), (.int (own_dig pv 10000000)), (.int (own_dig pv 1000000)), (.int (own_dig pv 100000)), (.int (own_dig pv 10000)), (.int (own_dig pv 1000)), (.int (own_dig pv 100)), (.int (own_dig pv 10)), (.int (own_dig pv 1)), (.int 0), (.int 0), (.int 0), (.int 0), (.int 0), (.int 0)] (.int 0)
set_option maxRecDepth 65536 in
set_option maxHeartbeats 40000000 in
theorem rmGc8 (l : Launch) (Z : State) (a0 : Array Value) (hw : ∀ d ∈ tables_1, d.before a0 Z = true) (ws : List Jvm.Cond) (pv : Int32) (ar : Addr) (r1 : Addr) (r2 : Addr) (kr1 : ClassId) (kr2 : ClassId) (kA : ClassId) (h0 : Heap) (n0 : Nat) (Z0 : n0 ≤ h0.size) (g_ar : n0 ≤ ar) (Sr1 : Sta Z h0 "java/lang/Integer" "DigitOnes" "[B" (.ref r1)) (Sr2 : Sta Z h0 "java/lang/Integer" "DigitTens" "[B" (.ref r2)) (Vr1 : Arv Z h0 r1 kr1 .byte (100 : Int32) own_ones (.int 0)) (Vr2 : Arv Z h0 r2 kr2 .byte (100 : Int32) own_tens (.int 0)) (Va : Arv Z h0 ar kA .byte (16 : Int32) [(.int 36), (.int 91), (.int 0), (.int 0), (.int 0), (.int 0), (.int 0), (.int 0), (.int 0), (.int 0), (.int 0), (.int 0), (.int 0), (.int 0), (.int 0), (.int 0)] (.int 0)) (hv0 : ¬ pv < 0) (hlo : ¬ pv < 10000000) (hhi : pv < 100000000) (hr1 : r1 ≠ ar) (hr2 : r2 ≠ ar) :
    MetFree l (⟨"java/lang/Integer", "getChars", "(II[B)I"⟩ : MethodName) (head1 (Jvm.Cond.code (⟨"java/lang/Integer", "getChars", "(II[B)I"⟩ : MethodName) jdk_33_method_12_code 7 (some .int) :: ws) ({ frames := 0, cells := 0, slots := 0, locals := 0 } : Room)) (fun as' U => as' = #[(.int pv), (.int 10), (.ref ar)] ∧ Z.Warmed39 U.vm ∧ U.heap = h0) (fun _ _ _ _ _ => True) (fun _ U o U' => ∃ v L, o = .returned v ∧ QGc8 Z pv ar r1 r2 kr1 kr2 kA h0 n0 v U'.heap L ∧ FrameEnd U o U' L ({ frames := 0, cells := 0, slots := 0, locals := 0 } : Room).cells ({ frames := 0, cells := 0, slots := 0, locals := 0 } : Room).slots) := by
  refine MetFree.of_bodySF (plainFor_of_name pn_java_lang_Integer) hisR ?_
  intro p e s m args below meth c s₁ Bd hml0 hP hK
  obtain ⟨rfl, hZ, hh⟩ := hP
  have hx := Bd.exec
  have hby := Bd.bytes
  have hml : c.maxLocals = 7 := hml0
  have hown : s.vm.findClass "java/lang/Integer" = some m.cls := findClass_of_methodNamed Bd.named
  have hnm := (name_of_methodNamed Bd.named Bd.method).1
  have X0 : Stand p l e ({ frames := 0, cells := 0, slots := 0, locals := 0 } : Room) s m #[(.int pv), (.int 10), (.ref ar)] below meth c s₁ [] 0 0 := Stand.of_body Bd
  have e0 : s₁.heap = h0 := by rw [← hh, Bd.state]; rfl
  have N0 := Fr.nil n0
  show Go p e below s (fun v h L => QGc8 Z pv ar r1 r2 kr1 kr2 kA h0 n0 v h L) 0 0 _
  refine Go.pull (V := s₁.setTop (mkF m 0 #[iv pv, iv 10, rv ar, .unset, .unset, .unset, .unset] [])) (fun t k => castTop (efGc8 m pv ar) k) ?_
  refine Go.pull (V := s₁.setTop (mkF m 12 #[iv pv, iv 10, rv ar, .unset, .unset, iv 10, .unset] [(.int 0)])) (fun t k => XS.iloadN X0.here hx rfl (hb hby z20_0) rfl  (XS.istore X0.here hx rfl (hb hby z20_1) rfl (l' := #[iv pv, iv 10, rv ar, .unset, .unset, iv 10, .unset]) rfl (XS.iloadN X0.here hx rfl (hb hby z20_3) rfl  (XS.ifYes X0.here hx rfl (pc0 := 4) (pc' := 11) rfl (hb hby z20_4) rfl (XT.i0_ge_t hv0) (by decide) (by decide) (XS.iconst X0.here hx rfl (hb hby z20_11) k))))) ?_
  refine Go.pull (V := s₁.setTop (mkF m 21 #[iv pv, iv 10, rv ar, .unset, .unset, iv 10, iv 0] [(.int (-pv))])) (fun t k => XS.istore X0.here hx rfl (hb hby z20_12) rfl (l' := #[iv pv, iv 10, rv ar, .unset, .unset, iv 10, iv 0]) rfl (XS.iload X0.here hx rfl (hb hby z20_14) rfl  (XS.ifNo X0.here hx rfl (hb hby z20_16) rfl (XT.i0_ne_f (by decide)) (XS.iloadN X0.here hx rfl (hb hby z20_19) rfl  (XS.ineg X0.here hx rfl (hb hby z20_20) rfl k))))) ?_
  refine Go.pull (V := s₁.setTop (mkF m 22 #[iv (-pv), iv 10, rv ar, .unset, .unset, iv 10, iv 0] [])) (fun t k => XS.istoreN X0.here hx rfl (hb hby z20_21) rfl (l' := #[iv (-pv), iv 10, rv ar, .unset, .unset, iv 10, iv 0]) rfl k) ?_
  generalize hg0 : (-pv) = q0
  have hq0 : q0.toInt = -(pv.toInt / 1) := hg0 ▸ own_turn0 hv0
  refine Go.pull (V := s₁.setTop (mkF m 31 #[iv q0, iv 10, rv ar, .unset, .unset, iv 10, iv 0] [(.int 100), (.int q0)])) (fun t k => XS.iloadN X0.here hx rfl (hb hby z20_22) rfl  (XS.bipush X0.here hx rfl (hb hby z20_23) (XS.icmpNo X0.here hx rfl (hb hby z20_25) rfl (XT.ii_gt_f (own_b25f hv0 (by decide) hq0 (own_lo hlo (by decide)))) (XS.iloadN X0.here hx rfl (hb hby z20_28) rfl  (XS.bipush X0.here hx rfl (hb hby z20_29) k))))) ?_
  refine Go.pull (V := s₁.setTop (mkF m 37 #[iv q0, iv 10, rv ar, iv (q0 / (100 : Int32)), .unset, iv 10, iv 0] [(.int ((q0 / (100 : Int32)) * (100 : Int32)))])) (fun t k => XS.idiv X0.here hx rfl (hb hby z20_31) rfl (by decide) (XS.istoreN X0.here hx rfl (hb hby z20_32) rfl (l' := #[iv q0, iv 10, rv ar, iv (q0 / (100 : Int32)), .unset, iv 10, iv 0]) rfl (XS.iloadN X0.here hx rfl (hb hby z20_33) rfl  (XS.bipush X0.here hx rfl (hb hby z20_34) (XS.imul X0.here hx rfl (hb hby z20_36) rfl k))))) ?_
  refine Go.pull (V := s₁.setTop (mkF m 43 #[iv (q0 / (100 : Int32)), iv 10, rv ar, iv (q0 / (100 : Int32)), iv (((q0 / (100 : Int32)) * (100 : Int32)) - q0), iv 10, iv 0] [])) (fun t k => XS.iloadN X0.here hx rfl (hb hby z20_37) rfl  (XS.isub X0.here hx rfl (hb hby z20_38) rfl (XS.istore X0.here hx rfl (hb hby z20_39) rfl (l' := #[iv q0, iv 10, rv ar, iv (q0 / (100 : Int32)), iv (((q0 / (100 : Int32)) * (100 : Int32)) - q0), iv 10, iv 0]) rfl (XS.iloadN X0.here hx rfl (hb hby z20_41) rfl  (XS.istoreN X0.here hx rfl (hb hby z20_42) rfl (l' := #[iv (q0 / (100 : Int32)), iv 10, rv ar, iv (q0 / (100 : Int32)), iv (((q0 / (100 : Int32)) * (100 : Int32)) - q0), iv 10, iv 0]) rfl k))))) ?_
  generalize hh0 : (((q0 / (100 : Int32)) * (100 : Int32)) - q0) = w0
  have hr0' : w0.toInt = (pv.toInt / 1) % 100 := hh0 ▸ own_rem hv0 (by decide) hq0
  refine Go.pull (V := s₁.setTop (mkF m 49 #[iv (q0 / (100 : Int32)), iv 10, rv ar, iv (q0 / (100 : Int32)), iv w0, iv 9, iv 0] [(.int 9), (.ref ar)])) (fun t k => XS.aloadN X0.here hx rfl (hb hby z20_43) rfl rfl (XS.iinc X0.here hx rfl (hb hby z20_44) rfl (l' := #[iv (q0 / (100 : Int32)), iv 10, rv ar, iv (q0 / (100 : Int32)), iv w0, iv 9, iv 0]) rfl (XS.iload X0.here hx rfl (hb hby z20_47) rfl  k))) ?_
  obtain ⟨T1, X1, e1, st1⟩ := getS2 X0 hx hZ hown (host := "") (Or.inl (hw _ (List.mem_of_getElem? (i := 152) rfl))) Via.refl e0 Sr1 (g := (mkF m 49 #[iv (q0 / (100 : Int32)), iv 10, rv ar, iv (q0 / (100 : Int32)), iv w0, iv 9, iv 0] [(.int 9), (.ref ar)])) rfl (hb hby z20_49)
  refine Go.pull (V := T1.setTop (mkF m 52 #[iv (q0 / (100 : Int32)), iv 10, rv ar, iv (q0 / (100 : Int32)), iv w0, iv 9, iv 0] [(.ref r1), (.int 9), (.ref ar)])) st1 ?_
  refine Go.pull (V := T1.setTop (mkF m 54 #[iv (q0 / (100 : Int32)), iv 10, rv ar, iv (q0 / (100 : Int32)), iv w0, iv 9, iv 0] [(.int w0), (.ref r1), (.int 9), (.ref ar)])) (fun t k => XS.iload X1.here hx rfl (hb hby z20_52) rfl  k) ?_
  obtain ⟨cl2, Ar2, q2, S2, M2, Hs2, G2⟩ := id Vr1
  have hin2 : ¬ (w0 < 0 ∨ cl2.slots.size ≤ (w0).toNatClampNeg) := inb_of S2 (own_in hr0')
  have hat2 : cl2.slots[(w0).toNatClampNeg]? = some (.int (own_dig pv 1)) := Has.at Hs2 hin2 (own_one hv0 (by decide : (0 : Int) < 1) (by decide) hr0')
  refine Go.pull (V := T1.setTop (mkF m 55 #[iv (q0 / (100 : Int32)), iv 10, rv ar, iv (q0 / (100 : Int32)), iv w0, iv 9, iv 0] [(.int (own_dig pv 1)), (.int 9), (.ref ar)])) (fun t k => X1.baloadBytes hx (j := w0) (v := (.int (own_dig pv 1))) (by rw [e1]; exact Ar2.1) (State.isArrayOf_alike hZ.alike Ar2.2.1) Ar2.2.2 hin2 hat2 (g := (mkF m 54 #[iv (q0 / (100 : Int32)), iv 10, rv ar, iv (q0 / (100 : Int32)), iv w0, iv 9, iv 0] [(.int w0), (.ref r1), (.int 9), (.ref ar)])) rfl rfl (hb hby z20_54) _ k) ?_
  obtain ⟨cl3, Ar3, q3, S3, M3, Hs3, G3⟩ := id Va
  have hin3 : ¬ ((9 : Int32) < 0 ∨ cl3.slots.size ≤ ((9 : Int32)).toNatClampNeg) := inb_of S3 ⟨by decide, by decide⟩
  obtain ⟨T4, h4, X4, e4, W4, st4⟩ := stB X1 hx hZ e1 Ar3 (j := (9 : Int32)) hin3 (g := (mkF m 55 #[iv (q0 / (100 : Int32)), iv 10, rv ar, iv (q0 / (100 : Int32)), iv w0, iv 9, iv 0] [(.int (own_dig pv 1)), (.int 9), (.ref ar)])) rfl rfl (hb hby z20_55)
  rw [own_narb (pv := pv) (pc := 1) (c := 1) hv0 (by decide) (by decide)] at W4
  have V4 : Arv Z h4 ar kA .byte (16 : Int32) [(.int 36), (.int 91), (.int 0), (.int 0), (.int 0), (.int 0), (.int 0), (.int 0), (.int 0), (.int (own_dig pv 1)), (.int 0), (.int 0), (.int 0), (.int 0), (.int 0), (.int 0)] (.int 0) := Arv.set Ar3 q3 S3 M3 Hs3 G3 (own_narb (pv := pv) (pc := 1) (c := 1) hv0 (by decide) (by decide) ▸ fits_nar_byte _) W4 9 rfl (Nat.le_of_ble_eq_true rfl)
  have K4 : Keep h0 h4 [ar] := (Keep.refl h0 [ar]).wr W4 (Or.inl (List.mem_of_getElem? (i := 0) rfl))
  have N4 := Fr.snoc X4 N0 g_ar
  refine Go.pull (V := T4.setTop (mkF m 56 #[iv (q0 / (100 : Int32)), iv 10, rv ar, iv (q0 / (100 : Int32)), iv w0, iv 9, iv 0] [])) st4 ?_
  refine Go.pull (V := T4.setTop (mkF m 62 #[iv (q0 / (100 : Int32)), iv 10, rv ar, iv (q0 / (100 : Int32)), iv w0, iv 8, iv 0] [(.int 8), (.ref ar)])) (fun t k => XS.aloadN X4.here hx rfl (hb hby z20_56) rfl rfl (XS.iinc X4.here hx rfl (hb hby z20_57) rfl (l' := #[iv (q0 / (100 : Int32)), iv 10, rv ar, iv (q0 / (100 : Int32)), iv w0, iv 8, iv 0]) rfl (XS.iload X4.here hx rfl (hb hby z20_60) rfl  k))) ?_
  obtain ⟨T5, X5, e5, st5⟩ := getS2 X4 hx hZ hown (host := "") (Or.inl (hw _ (List.mem_of_getElem? (i := 153) rfl))) Via.refl e4 (Sr2.wr W4) (g := (mkF m 62 #[iv (q0 / (100 : Int32)), iv 10, rv ar, iv (q0 / (100 : Int32)), iv w0, iv 8, iv 0] [(.int 8), (.ref ar)])) rfl (hb hby z20_62)
  refine Go.pull (V := T5.setTop (mkF m 65 #[iv (q0 / (100 : Int32)), iv 10, rv ar, iv (q0 / (100 : Int32)), iv w0, iv 8, iv 0] [(.ref r2), (.int 8), (.ref ar)])) st5 ?_
  refine Go.pull (V := T5.setTop (mkF m 67 #[iv (q0 / (100 : Int32)), iv 10, rv ar, iv (q0 / (100 : Int32)), iv w0, iv 8, iv 0] [(.int w0), (.ref r2), (.int 8), (.ref ar)])) (fun t k => XS.iload X5.here hx rfl (hb hby z20_65) rfl  k) ?_
  obtain ⟨cl6, Ar6, q6, S6, M6, Hs6, G6⟩ := id (Vr2.other W4 hr2)
  have hin6 : ¬ (w0 < 0 ∨ cl6.slots.size ≤ (w0).toNatClampNeg) := inb_of S6 (own_in hr0')
  have hat6 : cl6.slots[(w0).toNatClampNeg]? = some (.int (own_dig pv 10)) := Has.at Hs6 hin6 (own_ten hv0 (by decide : (0 : Int) < 1) rfl (by decide) hr0')
  refine Go.pull (V := T5.setTop (mkF m 68 #[iv (q0 / (100 : Int32)), iv 10, rv ar, iv (q0 / (100 : Int32)), iv w0, iv 8, iv 0] [(.int (own_dig pv 10)), (.int 8), (.ref ar)])) (fun t k => X5.baloadBytes hx (j := w0) (v := (.int (own_dig pv 10))) (by rw [e5]; exact Ar6.1) (State.isArrayOf_alike hZ.alike Ar6.2.1) Ar6.2.2 hin6 hat6 (g := (mkF m 67 #[iv (q0 / (100 : Int32)), iv 10, rv ar, iv (q0 / (100 : Int32)), iv w0, iv 8, iv 0] [(.int w0), (.ref r2), (.int 8), (.ref ar)])) rfl rfl (hb hby z20_67) _ k) ?_
  obtain ⟨cl7, Ar7, q7, S7, M7, Hs7, G7⟩ := id V4
  have hin7 : ¬ ((8 : Int32) < 0 ∨ cl7.slots.size ≤ ((8 : Int32)).toNatClampNeg) := inb_of S7 ⟨by decide, by decide⟩
  obtain ⟨T8, h8, X8, e8, W8, st8⟩ := stB X5 hx hZ e5 Ar7 (j := (8 : Int32)) hin7 (g := (mkF m 68 #[iv (q0 / (100 : Int32)), iv 10, rv ar, iv (q0 / (100 : Int32)), iv w0, iv 8, iv 0] [(.int (own_dig pv 10)), (.int 8), (.ref ar)])) rfl rfl (hb hby z20_68)
  rw [own_narb (pv := pv) (pc := 10) (c := 10) hv0 (by decide) (by decide)] at W8
  have V8 : Arv Z h8 ar kA .byte (16 : Int32) [(.int 36), (.int 91), (.int 0), (.int 0), (.int 0), (.int 0), (.int 0), (.int 0), (.int (own_dig pv 10)), (.int (own_dig pv 1)), (.int 0), (.int 0), (.int 0), (.int 0), (.int 0), (.int 0)] (.int 0) := Arv.set Ar7 q7 S7 M7 Hs7 G7 (own_narb (pv := pv) (pc := 10) (c := 10) hv0 (by decide) (by decide) ▸ fits_nar_byte _) W8 8 rfl (Nat.le_of_ble_eq_true rfl)
  have K8 : Keep h0 h8 [ar] := K4.wr W8 (Or.inl (List.mem_of_getElem? (i := 0) rfl))
  have N8 := Fr.snoc X8 N4 g_ar
  refine Go.pull (V := T8.setTop (mkF m 69 #[iv (q0 / (100 : Int32)), iv 10, rv ar, iv (q0 / (100 : Int32)), iv w0, iv 8, iv 0] [])) st8 ?_
  refine Go.pull (V := T8.setTop (mkF m 22 #[iv (q0 / (100 : Int32)), iv 10, rv ar, iv (q0 / (100 : Int32)), iv w0, iv 8, iv 0] [])) (fun t k => XS.goto X8.here hx rfl (pc0 := 69) (pc' := 22) rfl (hb hby z20_69) (by decide) (by decide) k) ?_
  generalize hg1 : (q0 / (100 : Int32)) = q1
  have hq1 : q1.toInt = -(pv.toInt / 100) := hg1 ▸ own_turn (c := 1) hv0 (by decide) rfl hq0
  refine Go.pull (V := T8.setTop (mkF m 31 #[iv q1, iv 10, rv ar, iv q1, iv w0, iv 8, iv 0] [(.int 100), (.int q1)])) (fun t k => XS.iloadN X8.here hx rfl (hb hby z20_22) rfl  (XS.bipush X8.here hx rfl (hb hby z20_23) (XS.icmpNo X8.here hx rfl (hb hby z20_25) rfl (XT.ii_gt_f (own_b25f hv0 (by decide) hq1 (own_lo hlo (by decide)))) (XS.iloadN X8.here hx rfl (hb hby z20_28) rfl  (XS.bipush X8.here hx rfl (hb hby z20_29) k))))) ?_
  refine Go.pull (V := T8.setTop (mkF m 37 #[iv q1, iv 10, rv ar, iv (q1 / (100 : Int32)), iv w0, iv 8, iv 0] [(.int ((q1 / (100 : Int32)) * (100 : Int32)))])) (fun t k => XS.idiv X8.here hx rfl (hb hby z20_31) rfl (by decide) (XS.istoreN X8.here hx rfl (hb hby z20_32) rfl (l' := #[iv q1, iv 10, rv ar, iv (q1 / (100 : Int32)), iv w0, iv 8, iv 0]) rfl (XS.iloadN X8.here hx rfl (hb hby z20_33) rfl  (XS.bipush X8.here hx rfl (hb hby z20_34) (XS.imul X8.here hx rfl (hb hby z20_36) rfl k))))) ?_
  refine Go.pull (V := T8.setTop (mkF m 43 #[iv (q1 / (100 : Int32)), iv 10, rv ar, iv (q1 / (100 : Int32)), iv (((q1 / (100 : Int32)) * (100 : Int32)) - q1), iv 8, iv 0] [])) (fun t k => XS.iloadN X8.here hx rfl (hb hby z20_37) rfl  (XS.isub X8.here hx rfl (hb hby z20_38) rfl (XS.istore X8.here hx rfl (hb hby z20_39) rfl (l' := #[iv q1, iv 10, rv ar, iv (q1 / (100 : Int32)), iv (((q1 / (100 : Int32)) * (100 : Int32)) - q1), iv 8, iv 0]) rfl (XS.iloadN X8.here hx rfl (hb hby z20_41) rfl  (XS.istoreN X8.here hx rfl (hb hby z20_42) rfl (l' := #[iv (q1 / (100 : Int32)), iv 10, rv ar, iv (q1 / (100 : Int32)), iv (((q1 / (100 : Int32)) * (100 : Int32)) - q1), iv 8, iv 0]) rfl k))))) ?_
  generalize hh1 : (((q1 / (100 : Int32)) * (100 : Int32)) - q1) = w1
  have hr1' : w1.toInt = (pv.toInt / 100) % 100 := hh1 ▸ own_rem hv0 (by decide) hq1
  refine Go.pull (V := T8.setTop (mkF m 49 #[iv (q1 / (100 : Int32)), iv 10, rv ar, iv (q1 / (100 : Int32)), iv w1, iv 7, iv 0] [(.int 7), (.ref ar)])) (fun t k => XS.aloadN X8.here hx rfl (hb hby z20_43) rfl rfl (XS.iinc X8.here hx rfl (hb hby z20_44) rfl (l' := #[iv (q1 / (100 : Int32)), iv 10, rv ar, iv (q1 / (100 : Int32)), iv w1, iv 7, iv 0]) rfl (XS.iload X8.here hx rfl (hb hby z20_47) rfl  k))) ?_
  obtain ⟨T9, X9, e9, st9⟩ := getS2 X8 hx hZ hown (host := "") (Or.inl (hw _ (List.mem_of_getElem? (i := 152) rfl))) Via.refl e8 ((Sr1.wr W4).wr W8) (g := (mkF m 49 #[iv (q1 / (100 : Int32)), iv 10, rv ar, iv (q1 / (100 : Int32)), iv w1, iv 7, iv 0] [(.int 7), (.ref ar)])) rfl (hb hby z20_49)
  refine Go.pull (V := T9.setTop (mkF m 52 #[iv (q1 / (100 : Int32)), iv 10, rv ar, iv (q1 / (100 : Int32)), iv w1, iv 7, iv 0] [(.ref r1), (.int 7), (.ref ar)])) st9 ?_
  refine Go.pull (V := T9.setTop (mkF m 54 #[iv (q1 / (100 : Int32)), iv 10, rv ar, iv (q1 / (100 : Int32)), iv w1, iv 7, iv 0] [(.int w1), (.ref r1), (.int 7), (.ref ar)])) (fun t k => XS.iload X9.here hx rfl (hb hby z20_52) rfl  k) ?_
  obtain ⟨cl10, Ar10, q10, S10, M10, Hs10, G10⟩ := id ((Vr1.other W4 hr1).other W8 hr1)
  have hin10 : ¬ (w1 < 0 ∨ cl10.slots.size ≤ (w1).toNatClampNeg) := inb_of S10 (own_in hr1')
  have hat10 : cl10.slots[(w1).toNatClampNeg]? = some (.int (own_dig pv 100)) := Has.at Hs10 hin10 (own_one hv0 (by decide : (0 : Int) < 100) (by decide) hr1')
  refine Go.pull (V := T9.setTop (mkF m 55 #[iv (q1 / (100 : Int32)), iv 10, rv ar, iv (q1 / (100 : Int32)), iv w1, iv 7, iv 0] [(.int (own_dig pv 100)), (.int 7), (.ref ar)])) (fun t k => X9.baloadBytes hx (j := w1) (v := (.int (own_dig pv 100))) (by rw [e9]; exact Ar10.1) (State.isArrayOf_alike hZ.alike Ar10.2.1) Ar10.2.2 hin10 hat10 (g := (mkF m 54 #[iv (q1 / (100 : Int32)), iv 10, rv ar, iv (q1 / (100 : Int32)), iv w1, iv 7, iv 0] [(.int w1), (.ref r1), (.int 7), (.ref ar)])) rfl rfl (hb hby z20_54) _ k) ?_
  obtain ⟨cl11, Ar11, q11, S11, M11, Hs11, G11⟩ := id V8
  have hin11 : ¬ ((7 : Int32) < 0 ∨ cl11.slots.size ≤ ((7 : Int32)).toNatClampNeg) := inb_of S11 ⟨by decide, by decide⟩
  obtain ⟨T12, h12, X12, e12, W12, st12⟩ := stB X9 hx hZ e9 Ar11 (j := (7 : Int32)) hin11 (g := (mkF m 55 #[iv (q1 / (100 : Int32)), iv 10, rv ar, iv (q1 / (100 : Int32)), iv w1, iv 7, iv 0] [(.int (own_dig pv 100)), (.int 7), (.ref ar)])) rfl rfl (hb hby z20_55)
  rw [own_narb (pv := pv) (pc := 100) (c := 100) hv0 (by decide) (by decide)] at W12
  have V12 : Arv Z h12 ar kA .byte (16 : Int32) [(.int 36), (.int 91), (.int 0), (.int 0), (.int 0), (.int 0), (.int 0), (.int (own_dig pv 100)), (.int (own_dig pv 10)), (.int (own_dig pv 1)), (.int 0), (.int 0), (.int 0), (.int 0), (.int 0), (.int 0)] (.int 0) := Arv.set Ar11 q11 S11 M11 Hs11 G11 (own_narb (pv := pv) (pc := 100) (c := 100) hv0 (by decide) (by decide) ▸ fits_nar_byte _) W12 7 rfl (Nat.le_of_ble_eq_true rfl)
  have K12 : Keep h0 h12 [ar] := K8.wr W12 (Or.inl (List.mem_of_getElem? (i := 0) rfl))
  have N12 := Fr.snoc X12 N8 g_ar
  refine Go.pull (V := T12.setTop (mkF m 56 #[iv (q1 / (100 : Int32)), iv 10, rv ar, iv (q1 / (100 : Int32)), iv w1, iv 7, iv 0] [])) st12 ?_
  refine Go.pull (V := T12.setTop (mkF m 62 #[iv (q1 / (100 : Int32)), iv 10, rv ar, iv (q1 / (100 : Int32)), iv w1, iv 6, iv 0] [(.int 6), (.ref ar)])) (fun t k => XS.aloadN X12.here hx rfl (hb hby z20_56) rfl rfl (XS.iinc X12.here hx rfl (hb hby z20_57) rfl (l' := #[iv (q1 / (100 : Int32)), iv 10, rv ar, iv (q1 / (100 : Int32)), iv w1, iv 6, iv 0]) rfl (XS.iload X12.here hx rfl (hb hby z20_60) rfl  k))) ?_
  obtain ⟨T13, X13, e13, st13⟩ := getS2 X12 hx hZ hown (host := "") (Or.inl (hw _ (List.mem_of_getElem? (i := 153) rfl))) Via.refl e12 (((Sr2.wr W4).wr W8).wr W12) (g := (mkF m 62 #[iv (q1 / (100 : Int32)), iv 10, rv ar, iv (q1 / (100 : Int32)), iv w1, iv 6, iv 0] [(.int 6), (.ref ar)])) rfl (hb hby z20_62)
  refine Go.pull (V := T13.setTop (mkF m 65 #[iv (q1 / (100 : Int32)), iv 10, rv ar, iv (q1 / (100 : Int32)), iv w1, iv 6, iv 0] [(.ref r2), (.int 6), (.ref ar)])) st13 ?_
  refine Go.pull (V := T13.setTop (mkF m 67 #[iv (q1 / (100 : Int32)), iv 10, rv ar, iv (q1 / (100 : Int32)), iv w1, iv 6, iv 0] [(.int w1), (.ref r2), (.int 6), (.ref ar)])) (fun t k => XS.iload X13.here hx rfl (hb hby z20_65) rfl  k) ?_
  obtain ⟨cl14, Ar14, q14, S14, M14, Hs14, G14⟩ := id (((Vr2.other W4 hr2).other W8 hr2).other W12 hr2)
  have hin14 : ¬ (w1 < 0 ∨ cl14.slots.size ≤ (w1).toNatClampNeg) := inb_of S14 (own_in hr1')
  have hat14 : cl14.slots[(w1).toNatClampNeg]? = some (.int (own_dig pv 1000)) := Has.at Hs14 hin14 (own_ten hv0 (by decide : (0 : Int) < 100) rfl (by decide) hr1')
  refine Go.pull (V := T13.setTop (mkF m 68 #[iv (q1 / (100 : Int32)), iv 10, rv ar, iv (q1 / (100 : Int32)), iv w1, iv 6, iv 0] [(.int (own_dig pv 1000)), (.int 6), (.ref ar)])) (fun t k => X13.baloadBytes hx (j := w1) (v := (.int (own_dig pv 1000))) (by rw [e13]; exact Ar14.1) (State.isArrayOf_alike hZ.alike Ar14.2.1) Ar14.2.2 hin14 hat14 (g := (mkF m 67 #[iv (q1 / (100 : Int32)), iv 10, rv ar, iv (q1 / (100 : Int32)), iv w1, iv 6, iv 0] [(.int w1), (.ref r2), (.int 6), (.ref ar)])) rfl rfl (hb hby z20_67) _ k) ?_
  obtain ⟨cl15, Ar15, q15, S15, M15, Hs15, G15⟩ := id V12
  have hin15 : ¬ ((6 : Int32) < 0 ∨ cl15.slots.size ≤ ((6 : Int32)).toNatClampNeg) := inb_of S15 ⟨by decide, by decide⟩
  obtain ⟨T16, h16, X16, e16, W16, st16⟩ := stB X13 hx hZ e13 Ar15 (j := (6 : Int32)) hin15 (g := (mkF m 68 #[iv (q1 / (100 : Int32)), iv 10, rv ar, iv (q1 / (100 : Int32)), iv w1, iv 6, iv 0] [(.int (own_dig pv 1000)), (.int 6), (.ref ar)])) rfl rfl (hb hby z20_68)
  rw [own_narb (pv := pv) (pc := 1000) (c := 1000) hv0 (by decide) (by decide)] at W16
  have V16 : Arv Z h16 ar kA .byte (16 : Int32) [(.int 36), (.int 91), (.int 0), (.int 0), (.int 0), (.int 0), (.int (own_dig pv 1000)), (.int (own_dig pv 100)), (.int (own_dig pv 10)), (.int (own_dig pv 1)), (.int 0), (.int 0), (.int 0), (.int 0), (.int 0), (.int 0)] (.int 0) := Arv.set Ar15 q15 S15 M15 Hs15 G15 (own_narb (pv := pv) (pc := 1000) (c := 1000) hv0 (by decide) (by decide) ▸ fits_nar_byte _) W16 6 rfl (Nat.le_of_ble_eq_true rfl)
  have K16 : Keep h0 h16 [ar] := K12.wr W16 (Or.inl (List.mem_of_getElem? (i := 0) rfl))
  have N16 := Fr.snoc X16 N12 g_ar
  refine Go.pull (V := T16.setTop (mkF m 69 #[iv (q1 / (100 : Int32)), iv 10, rv ar, iv (q1 / (100 : Int32)), iv w1, iv 6, iv 0] [])) st16 ?_
  refine Go.pull (V := T16.setTop (mkF m 22 #[iv (q1 / (100 : Int32)), iv 10, rv ar, iv (q1 / (100 : Int32)), iv w1, iv 6, iv 0] [])) (fun t k => XS.goto X16.here hx rfl (pc0 := 69) (pc' := 22) rfl (hb hby z20_69) (by decide) (by decide) k) ?_
  generalize hg2 : (q1 / (100 : Int32)) = q2
  have hq2 : q2.toInt = -(pv.toInt / 10000) := hg2 ▸ own_turn (c := 100) hv0 (by decide) rfl hq1
  refine Go.pull (V := T16.setTop (mkF m 31 #[iv q2, iv 10, rv ar, iv q2, iv w1, iv 6, iv 0] [(.int 100), (.int q2)])) (fun t k => XS.iloadN X16.here hx rfl (hb hby z20_22) rfl  (XS.bipush X16.here hx rfl (hb hby z20_23) (XS.icmpNo X16.here hx rfl (hb hby z20_25) rfl (XT.ii_gt_f (own_b25f hv0 (by decide) hq2 (own_lo hlo (by decide)))) (XS.iloadN X16.here hx rfl (hb hby z20_28) rfl  (XS.bipush X16.here hx rfl (hb hby z20_29) k))))) ?_
  refine Go.pull (V := T16.setTop (mkF m 37 #[iv q2, iv 10, rv ar, iv (q2 / (100 : Int32)), iv w1, iv 6, iv 0] [(.int ((q2 / (100 : Int32)) * (100 : Int32)))])) (fun t k => XS.idiv X16.here hx rfl (hb hby z20_31) rfl (by decide) (XS.istoreN X16.here hx rfl (hb hby z20_32) rfl (l' := #[iv q2, iv 10, rv ar, iv (q2 / (100 : Int32)), iv w1, iv 6, iv 0]) rfl (XS.iloadN X16.here hx rfl (hb hby z20_33) rfl  (XS.bipush X16.here hx rfl (hb hby z20_34) (XS.imul X16.here hx rfl (hb hby z20_36) rfl k))))) ?_
  refine Go.pull (V := T16.setTop (mkF m 43 #[iv (q2 / (100 : Int32)), iv 10, rv ar, iv (q2 / (100 : Int32)), iv (((q2 / (100 : Int32)) * (100 : Int32)) - q2), iv 6, iv 0] [])) (fun t k => XS.iloadN X16.here hx rfl (hb hby z20_37) rfl  (XS.isub X16.here hx rfl (hb hby z20_38) rfl (XS.istore X16.here hx rfl (hb hby z20_39) rfl (l' := #[iv q2, iv 10, rv ar, iv (q2 / (100 : Int32)), iv (((q2 / (100 : Int32)) * (100 : Int32)) - q2), iv 6, iv 0]) rfl (XS.iloadN X16.here hx rfl (hb hby z20_41) rfl  (XS.istoreN X16.here hx rfl (hb hby z20_42) rfl (l' := #[iv (q2 / (100 : Int32)), iv 10, rv ar, iv (q2 / (100 : Int32)), iv (((q2 / (100 : Int32)) * (100 : Int32)) - q2), iv 6, iv 0]) rfl k))))) ?_
  generalize hh2 : (((q2 / (100 : Int32)) * (100 : Int32)) - q2) = w2
  have hr2' : w2.toInt = (pv.toInt / 10000) % 100 := hh2 ▸ own_rem hv0 (by decide) hq2
  refine Go.pull (V := T16.setTop (mkF m 49 #[iv (q2 / (100 : Int32)), iv 10, rv ar, iv (q2 / (100 : Int32)), iv w2, iv 5, iv 0] [(.int 5), (.ref ar)])) (fun t k => XS.aloadN X16.here hx rfl (hb hby z20_43) rfl rfl (XS.iinc X16.here hx rfl (hb hby z20_44) rfl (l' := #[iv (q2 / (100 : Int32)), iv 10, rv ar, iv (q2 / (100 : Int32)), iv w2, iv 5, iv 0]) rfl (XS.iload X16.here hx rfl (hb hby z20_47) rfl  k))) ?_
  obtain ⟨T17, X17, e17, st17⟩ := getS2 X16 hx hZ hown (host := "") (Or.inl (hw _ (List.mem_of_getElem? (i := 152) rfl))) Via.refl e16 ((((Sr1.wr W4).wr W8).wr W12).wr W16) (g := (mkF m 49 #[iv (q2 / (100 : Int32)), iv 10, rv ar, iv (q2 / (100 : Int32)), iv w2, iv 5, iv 0] [(.int 5), (.ref ar)])) rfl (hb hby z20_49)
  refine Go.pull (V := T17.setTop (mkF m 52 #[iv (q2 / (100 : Int32)), iv 10, rv ar, iv (q2 / (100 : Int32)), iv w2, iv 5, iv 0] [(.ref r1), (.int 5), (.ref ar)])) st17 ?_
  refine Go.pull (V := T17.setTop (mkF m 54 #[iv (q2 / (100 : Int32)), iv 10, rv ar, iv (q2 / (100 : Int32)), iv w2, iv 5, iv 0] [(.int w2), (.ref r1), (.int 5), (.ref ar)])) (fun t k => XS.iload X17.here hx rfl (hb hby z20_52) rfl  k) ?_
  obtain ⟨cl18, Ar18, q18, S18, M18, Hs18, G18⟩ := id ((((Vr1.other W4 hr1).other W8 hr1).other W12 hr1).other W16 hr1)
  have hin18 : ¬ (w2 < 0 ∨ cl18.slots.size ≤ (w2).toNatClampNeg) := inb_of S18 (own_in hr2')
  have hat18 : cl18.slots[(w2).toNatClampNeg]? = some (.int (own_dig pv 10000)) := Has.at Hs18 hin18 (own_one hv0 (by decide : (0 : Int) < 10000) (by decide) hr2')
  refine Go.pull (V := T17.setTop (mkF m 55 #[iv (q2 / (100 : Int32)), iv 10, rv ar, iv (q2 / (100 : Int32)), iv w2, iv 5, iv 0] [(.int (own_dig pv 10000)), (.int 5), (.ref ar)])) (fun t k => X17.baloadBytes hx (j := w2) (v := (.int (own_dig pv 10000))) (by rw [e17]; exact Ar18.1) (State.isArrayOf_alike hZ.alike Ar18.2.1) Ar18.2.2 hin18 hat18 (g := (mkF m 54 #[iv (q2 / (100 : Int32)), iv 10, rv ar, iv (q2 / (100 : Int32)), iv w2, iv 5, iv 0] [(.int w2), (.ref r1), (.int 5), (.ref ar)])) rfl rfl (hb hby z20_54) _ k) ?_
  obtain ⟨cl19, Ar19, q19, S19, M19, Hs19, G19⟩ := id V16
  have hin19 : ¬ ((5 : Int32) < 0 ∨ cl19.slots.size ≤ ((5 : Int32)).toNatClampNeg) := inb_of S19 ⟨by decide, by decide⟩
  obtain ⟨T20, h20, X20, e20, W20, st20⟩ := stB X17 hx hZ e17 Ar19 (j := (5 : Int32)) hin19 (g := (mkF m 55 #[iv (q2 / (100 : Int32)), iv 10, rv ar, iv (q2 / (100 : Int32)), iv w2, iv 5, iv 0] [(.int (own_dig pv 10000)), (.int 5), (.ref ar)])) rfl rfl (hb hby z20_55)
  rw [own_narb (pv := pv) (pc := 10000) (c := 10000) hv0 (by decide) (by decide)] at W20
  have V20 : Arv Z h20 ar kA .byte (16 : Int32) [(.int 36), (.int 91), (.int 0), (.int 0), (.int 0), (.int (own_dig pv 10000)), (.int (own_dig pv 1000)), (.int (own_dig pv 100)), (.int (own_dig pv 10)), (.int (own_dig pv 1)), (.int 0), (.int 0), (.int 0), (.int 0), (.int 0), (.int 0)] (.int 0) := Arv.set Ar19 q19 S19 M19 Hs19 G19 (own_narb (pv := pv) (pc := 10000) (c := 10000) hv0 (by decide) (by decide) ▸ fits_nar_byte _) W20 5 rfl (Nat.le_of_ble_eq_true rfl)
  have K20 : Keep h0 h20 [ar] := K16.wr W20 (Or.inl (List.mem_of_getElem? (i := 0) rfl))
  have N20 := Fr.snoc X20 N16 g_ar
  refine Go.pull (V := T20.setTop (mkF m 56 #[iv (q2 / (100 : Int32)), iv 10, rv ar, iv (q2 / (100 : Int32)), iv w2, iv 5, iv 0] [])) st20 ?_
  refine Go.pull (V := T20.setTop (mkF m 62 #[iv (q2 / (100 : Int32)), iv 10, rv ar, iv (q2 / (100 : Int32)), iv w2, iv 4, iv 0] [(.int 4), (.ref ar)])) (fun t k => XS.aloadN X20.here hx rfl (hb hby z20_56) rfl rfl (XS.iinc X20.here hx rfl (hb hby z20_57) rfl (l' := #[iv (q2 / (100 : Int32)), iv 10, rv ar, iv (q2 / (100 : Int32)), iv w2, iv 4, iv 0]) rfl (XS.iload X20.here hx rfl (hb hby z20_60) rfl  k))) ?_
  obtain ⟨T21, X21, e21, st21⟩ := getS2 X20 hx hZ hown (host := "") (Or.inl (hw _ (List.mem_of_getElem? (i := 153) rfl))) Via.refl e20 (((((Sr2.wr W4).wr W8).wr W12).wr W16).wr W20) (g := (mkF m 62 #[iv (q2 / (100 : Int32)), iv 10, rv ar, iv (q2 / (100 : Int32)), iv w2, iv 4, iv 0] [(.int 4), (.ref ar)])) rfl (hb hby z20_62)
  refine Go.pull (V := T21.setTop (mkF m 65 #[iv (q2 / (100 : Int32)), iv 10, rv ar, iv (q2 / (100 : Int32)), iv w2, iv 4, iv 0] [(.ref r2), (.int 4), (.ref ar)])) st21 ?_
  refine Go.pull (V := T21.setTop (mkF m 67 #[iv (q2 / (100 : Int32)), iv 10, rv ar, iv (q2 / (100 : Int32)), iv w2, iv 4, iv 0] [(.int w2), (.ref r2), (.int 4), (.ref ar)])) (fun t k => XS.iload X21.here hx rfl (hb hby z20_65) rfl  k) ?_
  obtain ⟨cl22, Ar22, q22, S22, M22, Hs22, G22⟩ := id (((((Vr2.other W4 hr2).other W8 hr2).other W12 hr2).other W16 hr2).other W20 hr2)
  have hin22 : ¬ (w2 < 0 ∨ cl22.slots.size ≤ (w2).toNatClampNeg) := inb_of S22 (own_in hr2')
  have hat22 : cl22.slots[(w2).toNatClampNeg]? = some (.int (own_dig pv 100000)) := Has.at Hs22 hin22 (own_ten hv0 (by decide : (0 : Int) < 10000) rfl (by decide) hr2')
  refine Go.pull (V := T21.setTop (mkF m 68 #[iv (q2 / (100 : Int32)), iv 10, rv ar, iv (q2 / (100 : Int32)), iv w2, iv 4, iv 0] [(.int (own_dig pv 100000)), (.int 4), (.ref ar)])) (fun t k => X21.baloadBytes hx (j := w2) (v := (.int (own_dig pv 100000))) (by rw [e21]; exact Ar22.1) (State.isArrayOf_alike hZ.alike Ar22.2.1) Ar22.2.2 hin22 hat22 (g := (mkF m 67 #[iv (q2 / (100 : Int32)), iv 10, rv ar, iv (q2 / (100 : Int32)), iv w2, iv 4, iv 0] [(.int w2), (.ref r2), (.int 4), (.ref ar)])) rfl rfl (hb hby z20_67) _ k) ?_
  obtain ⟨cl23, Ar23, q23, S23, M23, Hs23, G23⟩ := id V20
  have hin23 : ¬ ((4 : Int32) < 0 ∨ cl23.slots.size ≤ ((4 : Int32)).toNatClampNeg) := inb_of S23 ⟨by decide, by decide⟩
  obtain ⟨T24, h24, X24, e24, W24, st24⟩ := stB X21 hx hZ e21 Ar23 (j := (4 : Int32)) hin23 (g := (mkF m 68 #[iv (q2 / (100 : Int32)), iv 10, rv ar, iv (q2 / (100 : Int32)), iv w2, iv 4, iv 0] [(.int (own_dig pv 100000)), (.int 4), (.ref ar)])) rfl rfl (hb hby z20_68)
  rw [own_narb (pv := pv) (pc := 100000) (c := 100000) hv0 (by decide) (by decide)] at W24
  have V24 : Arv Z h24 ar kA .byte (16 : Int32) [(.int 36), (.int 91), (.int 0), (.int 0), (.int (own_dig pv 100000)), (.int (own_dig pv 10000)), (.int (own_dig pv 1000)), (.int (own_dig pv 100)), (.int (own_dig pv 10)), (.int (own_dig pv 1)), (.int 0), (.int 0), (.int 0), (.int 0), (.int 0), (.int 0)] (.int 0) := Arv.set Ar23 q23 S23 M23 Hs23 G23 (own_narb (pv := pv) (pc := 100000) (c := 100000) hv0 (by decide) (by decide) ▸ fits_nar_byte _) W24 4 rfl (Nat.le_of_ble_eq_true rfl)
  have K24 : Keep h0 h24 [ar] := K20.wr W24 (Or.inl (List.mem_of_getElem? (i := 0) rfl))
  have N24 := Fr.snoc X24 N20 g_ar
  refine Go.pull (V := T24.setTop (mkF m 69 #[iv (q2 / (100 : Int32)), iv 10, rv ar, iv (q2 / (100 : Int32)), iv w2, iv 4, iv 0] [])) st24 ?_
  refine Go.pull (V := T24.setTop (mkF m 22 #[iv (q2 / (100 : Int32)), iv 10, rv ar, iv (q2 / (100 : Int32)), iv w2, iv 4, iv 0] [])) (fun t k => XS.goto X24.here hx rfl (pc0 := 69) (pc' := 22) rfl (hb hby z20_69) (by decide) (by decide) k) ?_
  generalize hg3 : (q2 / (100 : Int32)) = q3
  have hq3 : q3.toInt = -(pv.toInt / 1000000) := hg3 ▸ own_turn (c := 10000) hv0 (by decide) rfl hq2
  refine Go.pull (V := T24.setTop (mkF m 76 #[iv q3, iv 10, rv ar, iv q3, iv w2, iv 3, iv 0] [(.ref ar)])) (fun t k => XS.iloadN X24.here hx rfl (hb hby z20_22) rfl  (XS.bipush X24.here hx rfl (hb hby z20_23) (XS.icmpYes X24.here hx rfl (pc0 := 25) (pc' := 72) rfl (hb hby z20_25) rfl (XT.ii_gt_t (own_b25t hq3 (by have := own_nn hv0; have := Int32.lt_iff_toInt_lt.mp hhi; simp only [show (100000000 : Int32).toInt = 100000000 from rfl] at this; omega))) (by decide) (by decide) (XS.aloadN X24.here hx rfl (hb hby z20_72) rfl rfl (XS.iinc X24.here hx rfl (hb hby z20_73) rfl (l' := #[iv q3, iv 10, rv ar, iv q3, iv w2, iv 3, iv 0]) rfl k))))) ?_
  refine Go.pull (V := T24.setTop (mkF m 78 #[iv q3, iv 10, rv ar, iv q3, iv w2, iv 3, iv 0] [(.int 3), (.ref ar)])) (fun t k => XS.iload X24.here hx rfl (hb hby z20_76) rfl  k) ?_
  obtain ⟨T25, X25, e25, st25⟩ := getS2 X24 hx hZ hown (host := "") (Or.inl (hw _ (List.mem_of_getElem? (i := 152) rfl))) Via.refl e24 ((((((Sr1.wr W4).wr W8).wr W12).wr W16).wr W20).wr W24) (g := (mkF m 78 #[iv q3, iv 10, rv ar, iv q3, iv w2, iv 3, iv 0] [(.int 3), (.ref ar)])) rfl (hb hby z20_78)
  refine Go.pull (V := T25.setTop (mkF m 81 #[iv q3, iv 10, rv ar, iv q3, iv w2, iv 3, iv 0] [(.ref r1), (.int 3), (.ref ar)])) st25 ?_
  refine Go.pull (V := T25.setTop (mkF m 83 #[iv q3, iv 10, rv ar, iv q3, iv w2, iv 3, iv 0] [(.int (-q3)), (.ref r1), (.int 3), (.ref ar)])) (fun t k => XS.iloadN X25.here hx rfl (hb hby z20_81) rfl  (XS.ineg X25.here hx rfl (hb hby z20_82) rfl k)) ?_
  have hr3' : (-q3).toInt = (pv.toInt / 1000000) % 100 := own_last hv0 (by decide) (by have := own_nn hv0; have := Int32.lt_iff_toInt_lt.mp hhi; simp only [show (100000000 : Int32).toInt = 100000000 from rfl] at this; omega) hq3
  obtain ⟨cl26, Ar26, q26, S26, M26, Hs26, G26⟩ := id ((((((Vr1.other W4 hr1).other W8 hr1).other W12 hr1).other W16 hr1).other W20 hr1).other W24 hr1)
  have hin26 : ¬ ((-q3) < 0 ∨ cl26.slots.size ≤ ((-q3)).toNatClampNeg) := inb_of S26 (own_in hr3')
  have hat26 : cl26.slots[((-q3)).toNatClampNeg]? = some (.int (own_dig pv 1000000)) := Has.at Hs26 hin26 (own_one hv0 (by decide : (0 : Int) < 1000000) (by decide) hr3')
  refine Go.pull (V := T25.setTop (mkF m 84 #[iv q3, iv 10, rv ar, iv q3, iv w2, iv 3, iv 0] [(.int (own_dig pv 1000000)), (.int 3), (.ref ar)])) (fun t k => X25.baloadBytes hx (j := (-q3)) (v := (.int (own_dig pv 1000000))) (by rw [e25]; exact Ar26.1) (State.isArrayOf_alike hZ.alike Ar26.2.1) Ar26.2.2 hin26 hat26 (g := (mkF m 83 #[iv q3, iv 10, rv ar, iv q3, iv w2, iv 3, iv 0] [(.int (-q3)), (.ref r1), (.int 3), (.ref ar)])) rfl rfl (hb hby z20_83) _ k) ?_
  obtain ⟨cl27, Ar27, q27, S27, M27, Hs27, G27⟩ := id V24
  have hin27 : ¬ ((3 : Int32) < 0 ∨ cl27.slots.size ≤ ((3 : Int32)).toNatClampNeg) := inb_of S27 ⟨by decide, by decide⟩
  obtain ⟨T28, h28, X28, e28, W28, st28⟩ := stB X25 hx hZ e25 Ar27 (j := (3 : Int32)) hin27 (g := (mkF m 84 #[iv q3, iv 10, rv ar, iv q3, iv w2, iv 3, iv 0] [(.int (own_dig pv 1000000)), (.int 3), (.ref ar)])) rfl rfl (hb hby z20_84)
  rw [own_narb (pv := pv) (pc := 1000000) (c := 1000000) hv0 (by decide) (by decide)] at W28
  have V28 : Arv Z h28 ar kA .byte (16 : Int32) [(.int 36), (.int 91), (.int 0), (.int (own_dig pv 1000000)), (.int (own_dig pv 100000)), (.int (own_dig pv 10000)), (.int (own_dig pv 1000)), (.int (own_dig pv 100)), (.int (own_dig pv 10)), (.int (own_dig pv 1)), (.int 0), (.int 0), (.int 0), (.int 0), (.int 0), (.int 0)] (.int 0) := Arv.set Ar27 q27 S27 M27 Hs27 G27 (own_narb (pv := pv) (pc := 1000000) (c := 1000000) hv0 (by decide) (by decide) ▸ fits_nar_byte _) W28 3 rfl (Nat.le_of_ble_eq_true rfl)
  have K28 : Keep h0 h28 [ar] := K24.wr W28 (Or.inl (List.mem_of_getElem? (i := 0) rfl))
  have N28 := Fr.snoc X28 N24 g_ar
  refine Go.pull (V := T28.setTop (mkF m 85 #[iv q3, iv 10, rv ar, iv q3, iv w2, iv 3, iv 0] [])) st28 ?_
  refine Go.pull (V := T28.setTop (mkF m 95 #[iv q3, iv 10, rv ar, iv q3, iv w2, iv 2, iv 0] [(.ref ar)])) (fun t k => XS.iloadN X28.here hx rfl (hb hby z20_85) rfl  (XS.bipush X28.here hx rfl (hb hby z20_86) (XS.icmpNo X28.here hx rfl (hb hby z20_88) rfl (XT.ii_ge_f (own_b88t hq3 (own_10 hlo (by decide) (by decide)))) (XS.aloadN X28.here hx rfl (hb hby z20_91) rfl rfl (XS.iinc X28.here hx rfl (hb hby z20_92) rfl (l' := #[iv q3, iv 10, rv ar, iv q3, iv w2, iv 2, iv 0]) rfl k))))) ?_
  refine Go.pull (V := T28.setTop (mkF m 97 #[iv q3, iv 10, rv ar, iv q3, iv w2, iv 2, iv 0] [(.int 2), (.ref ar)])) (fun t k => XS.iload X28.here hx rfl (hb hby z20_95) rfl  k) ?_
  obtain ⟨T29, X29, e29, st29⟩ := getS2 X28 hx hZ hown (host := "") (Or.inl (hw _ (List.mem_of_getElem? (i := 153) rfl))) Via.refl e28 (((((((Sr2.wr W4).wr W8).wr W12).wr W16).wr W20).wr W24).wr W28) (g := (mkF m 97 #[iv q3, iv 10, rv ar, iv q3, iv w2, iv 2, iv 0] [(.int 2), (.ref ar)])) rfl (hb hby z20_97)
  refine Go.pull (V := T29.setTop (mkF m 100 #[iv q3, iv 10, rv ar, iv q3, iv w2, iv 2, iv 0] [(.ref r2), (.int 2), (.ref ar)])) st29 ?_
  refine Go.pull (V := T29.setTop (mkF m 102 #[iv q3, iv 10, rv ar, iv q3, iv w2, iv 2, iv 0] [(.int (-q3)), (.ref r2), (.int 2), (.ref ar)])) (fun t k => XS.iloadN X29.here hx rfl (hb hby z20_100) rfl  (XS.ineg X29.here hx rfl (hb hby z20_101) rfl k)) ?_
  obtain ⟨cl30, Ar30, q30, S30, M30, Hs30, G30⟩ := id (((((((Vr2.other W4 hr2).other W8 hr2).other W12 hr2).other W16 hr2).other W20 hr2).other W24 hr2).other W28 hr2)
  have hin30 : ¬ ((-q3) < 0 ∨ cl30.slots.size ≤ ((-q3)).toNatClampNeg) := inb_of S30 (own_in hr3')
  have hat30 : cl30.slots[((-q3)).toNatClampNeg]? = some (.int (own_dig pv 10000000)) := Has.at Hs30 hin30 (own_ten hv0 (by decide : (0 : Int) < 1000000) rfl (by decide) hr3')
  refine Go.pull (V := T29.setTop (mkF m 103 #[iv q3, iv 10, rv ar, iv q3, iv w2, iv 2, iv 0] [(.int (own_dig pv 10000000)), (.int 2), (.ref ar)])) (fun t k => X29.baloadBytes hx (j := (-q3)) (v := (.int (own_dig pv 10000000))) (by rw [e29]; exact Ar30.1) (State.isArrayOf_alike hZ.alike Ar30.2.1) Ar30.2.2 hin30 hat30 (g := (mkF m 102 #[iv q3, iv 10, rv ar, iv q3, iv w2, iv 2, iv 0] [(.int (-q3)), (.ref r2), (.int 2), (.ref ar)])) rfl rfl (hb hby z20_102) _ k) ?_
  obtain ⟨cl31, Ar31, q31, S31, M31, Hs31, G31⟩ := id V28
  have hin31 : ¬ ((2 : Int32) < 0 ∨ cl31.slots.size ≤ ((2 : Int32)).toNatClampNeg) := inb_of S31 ⟨by decide, by decide⟩
  obtain ⟨T32, h32, X32, e32, W32, st32⟩ := stB X29 hx hZ e29 Ar31 (j := (2 : Int32)) hin31 (g := (mkF m 103 #[iv q3, iv 10, rv ar, iv q3, iv w2, iv 2, iv 0] [(.int (own_dig pv 10000000)), (.int 2), (.ref ar)])) rfl rfl (hb hby z20_103)
  rw [own_narb (pv := pv) (pc := 10000000) (c := 10000000) hv0 (by decide) (by decide)] at W32
  have V32 : Arv Z h32 ar kA .byte (16 : Int32) [(.int 36), (.int 91), (.int (own_dig pv 10000000)), (.int (own_dig pv 1000000)), (.int (own_dig pv 100000)), (.int (own_dig pv 10000)), (.int (own_dig pv 1000)), (.int (own_dig pv 100)), (.int (own_dig pv 10)), (.int (own_dig pv 1)), (.int 0), (.int 0), (.int 0), (.int 0), (.int 0), (.int 0)] (.int 0) := Arv.set Ar31 q31 S31 M31 Hs31 G31 (own_narb (pv := pv) (pc := 10000000) (c := 10000000) hv0 (by decide) (by decide) ▸ fits_nar_byte _) W32 2 rfl (Nat.le_of_ble_eq_true rfl)
  have K32 : Keep h0 h32 [ar] := K28.wr W32 (Or.inl (List.mem_of_getElem? (i := 0) rfl))
  have N32 := Fr.snoc X32 N28 g_ar
  refine Go.pull (V := T32.setTop (mkF m 104 #[iv q3, iv 10, rv ar, iv q3, iv w2, iv 2, iv 0] [])) st32 ?_
  refine Go.pull (V := T32.setTop (mkF m 120 #[iv q3, iv 10, rv ar, iv q3, iv w2, iv 2, iv 0] [(.int 2)])) (fun t k => XS.iload X32.here hx rfl (hb hby z20_104) rfl  (XS.ifYes X32.here hx rfl (pc0 := 106) (pc' := 118) rfl (hb hby z20_106) rfl (XT.i0_eq_t (by decide)) (by decide) (by decide) (XS.iload X32.here hx rfl (hb hby z20_118) rfl  k))) ?_
  exact Go.retI X32 hx Bd.notSynchronized Bd.returns (hb hby z20_120) (by rw [e32]; exact ⟨rfl, N32, K32, V32⟩) (by decide) (by decide)
theorem efGc9 (m : MethodId) (x0 : Int32) (x2 : Addr) : entryFrame m #[(.int x0), (.int 11), (.ref x2)] 7 = mkF m 0 #[iv x0, iv 11, rv x2, .unset, .unset, .unset, .unset] [] := by first | (simp [entryFrame, mkF, argsToLocals, Value.category]; done) | rfl
def QGc9 (Z : State) (pv : Int32) (ar : Addr) (r1 : Addr) (r2 : Addr) (kr1 : ClassId) (kr2 : ClassId) (kA : ClassId) (h0 : Heap) (n0 : Nat) (v : Option Value) (h : Heap) (L : List Loc) : Prop := v = some (.int 2) ∧ Fr n0 L ∧ Keep h0 h [ar] ∧ Arv Z h ar kA .byte (16 : Int32) [(.int 36), (.int 91), (.int (own_dig pv 100000000)), (.int (own_dig pv 10000000)), (.int (own_dig pv 1000000)), (.int (own_dig pv 100000)), (.int (own_dig pv 10000)), (.int (own_dig pv 1000)), (.int (own_dig pv 100)), (.int (own_dig pv 10)), (.int (own_dig pv 1)), (.int 0), (.int 0), (.int 0), (.int 0), (.int 0)] (.int 0)
set_option maxRecDepth 65536 in
set_option maxHeartbeats 40000000 in
theorem rmGc9 (l : Launch) (Z : State) (a0 : Array Value) (hw : ∀ d ∈ tables_1, d.before a0 Z = true) (ws : List Jvm.Cond) (pv : Int32) (ar : Addr) (r1 : Addr) (r2 : Addr) (kr1 : ClassId) (kr2 : ClassId) (kA : ClassId) (h0 : Heap) (n0 : Nat) (Z0 : n0 ≤ h0.size) (g_ar : n0 ≤ ar) (Sr1 : Sta Z h0 "java/lang/Integer" "DigitOnes" "[B" (.ref r1)) (Sr2 : Sta Z h0 "java/lang/Integer" "DigitTens" "[B" (.ref r2)) (Vr1 : Arv Z h0 r1 kr1 .byte (100 : Int32) own_ones (.int 0)) (Vr2 : Arv Z h0 r2 kr2 .byte (100 : Int32) own_tens (.int 0)) (Va : Arv Z h0 ar kA .byte (16 : Int32) [(.int 36), (.int 91), (.int 0), (.int 0), (.int 0), (.int 0), (.int 0), (.int 0), (.int 0), (.int 0), (.int 0), (.int 0), (.int 0), (.int 0), (.int 0), (.int 0)] (.int 0)) (hv0 : ¬ pv < 0) (hlo : ¬ pv < 100000000) (hhi : pv < 1000000000) (hr1 : r1 ≠ ar) (hr2 : r2 ≠ ar) :
    MetFree l (⟨"java/lang/Integer", "getChars", "(II[B)I"⟩ : MethodName) (head1 (Jvm.Cond.code (⟨"java/lang/Integer", "getChars", "(II[B)I"⟩ : MethodName) jdk_33_method_12_code 7 (some .int) :: ws) ({ frames := 0, cells := 0, slots := 0, locals := 0 } : Room)) (fun as' U => as' = #[(.int pv), (.int 11), (.ref ar)] ∧ Z.Warmed39 U.vm ∧ U.heap = h0) (fun _ _ _ _ _ => True) (fun _ U o U' => ∃ v L, o = .returned v ∧ QGc9 Z pv ar r1 r2 kr1 kr2 kA h0 n0 v U'.heap L ∧ FrameEnd U o U' L ({ frames := 0, cells := 0, slots := 0, locals := 0 } : Room).cells ({ frames := 0, cells := 0, slots := 0, locals := 0 } : Room).slots) := by
  refine MetFree.of_bodySF (plainFor_of_name pn_java_lang_Integer) hisR ?_
  intro p e s m args below meth c s₁ Bd hml0 hP hK
  obtain ⟨rfl, hZ, hh⟩ := hP
  have hx := Bd.exec
  have hby := Bd.bytes
  have hml : c.maxLocals = 7 := hml0
  have hown : s.vm.findClass "java/lang/Integer" = some m.cls := findClass_of_methodNamed Bd.named
  have hnm := (name_of_methodNamed Bd.named Bd.method).1
  have X0 : Stand p l e ({ frames := 0, cells := 0, slots := 0, locals := 0 } : Room) s m #[(.int pv), (.int 11), (.ref ar)] below meth c s₁ [] 0 0 := Stand.of_body Bd
  have e0 : s₁.heap = h0 := by rw [← hh, Bd.state]; rfl
  have N0 := Fr.nil n0
  show Go p e below s (fun v h L => QGc9 Z pv ar r1 r2 kr1 kr2 kA h0 n0 v h L) 0 0 _
  refine Go.pull (V := s₁.setTop (mkF m 0 #[iv pv, iv 11, rv ar, .unset, .unset, .unset, .unset] [])) (fun t k => castTop (efGc9 m pv ar) k) ?_
  refine Go.pull (V := s₁.setTop (mkF m 12 #[iv pv, iv 11, rv ar, .unset, .unset, iv 11, .unset] [(.int 0)])) (fun t k => XS.iloadN X0.here hx rfl (hb hby z20_0) rfl  (XS.istore X0.here hx rfl (hb hby z20_1) rfl (l' := #[iv pv, iv 11, rv ar, .unset, .unset, iv 11, .unset]) rfl (XS.iloadN X0.here hx rfl (hb hby z20_3) rfl  (XS.ifYes X0.here hx rfl (pc0 := 4) (pc' := 11) rfl (hb hby z20_4) rfl (XT.i0_ge_t hv0) (by decide) (by decide) (XS.iconst X0.here hx rfl (hb hby z20_11) k))))) ?_
  refine Go.pull (V := s₁.setTop (mkF m 21 #[iv pv, iv 11, rv ar, .unset, .unset, iv 11, iv 0] [(.int (-pv))])) (fun t k => XS.istore X0.here hx rfl (hb hby z20_12) rfl (l' := #[iv pv, iv 11, rv ar, .unset, .unset, iv 11, iv 0]) rfl (XS.iload X0.here hx rfl (hb hby z20_14) rfl  (XS.ifNo X0.here hx rfl (hb hby z20_16) rfl (XT.i0_ne_f (by decide)) (XS.iloadN X0.here hx rfl (hb hby z20_19) rfl  (XS.ineg X0.here hx rfl (hb hby z20_20) rfl k))))) ?_
  refine Go.pull (V := s₁.setTop (mkF m 22 #[iv (-pv), iv 11, rv ar, .unset, .unset, iv 11, iv 0] [])) (fun t k => XS.istoreN X0.here hx rfl (hb hby z20_21) rfl (l' := #[iv (-pv), iv 11, rv ar, .unset, .unset, iv 11, iv 0]) rfl k) ?_
  generalize hg0 : (-pv) = q0
  have hq0 : q0.toInt = -(pv.toInt / 1) := hg0 ▸ own_turn0 hv0
  refine Go.pull (V := s₁.setTop (mkF m 31 #[iv q0, iv 11, rv ar, .unset, .unset, iv 11, iv 0] [(.int 100), (.int q0)])) (fun t k => XS.iloadN X0.here hx rfl (hb hby z20_22) rfl  (XS.bipush X0.here hx rfl (hb hby z20_23) (XS.icmpNo X0.here hx rfl (hb hby z20_25) rfl (XT.ii_gt_f (own_b25f hv0 (by decide) hq0 (own_lo hlo (by decide)))) (XS.iloadN X0.here hx rfl (hb hby z20_28) rfl  (XS.bipush X0.here hx rfl (hb hby z20_29) k))))) ?_
  refine Go.pull (V := s₁.setTop (mkF m 37 #[iv q0, iv 11, rv ar, iv (q0 / (100 : Int32)), .unset, iv 11, iv 0] [(.int ((q0 / (100 : Int32)) * (100 : Int32)))])) (fun t k => XS.idiv X0.here hx rfl (hb hby z20_31) rfl (by decide) (XS.istoreN X0.here hx rfl (hb hby z20_32) rfl (l' := #[iv q0, iv 11, rv ar, iv (q0 / (100 : Int32)), .unset, iv 11, iv 0]) rfl (XS.iloadN X0.here hx rfl (hb hby z20_33) rfl  (XS.bipush X0.here hx rfl (hb hby z20_34) (XS.imul X0.here hx rfl (hb hby z20_36) rfl k))))) ?_
  refine Go.pull (V := s₁.setTop (mkF m 43 #[iv (q0 / (100 : Int32)), iv 11, rv ar, iv (q0 / (100 : Int32)), iv (((q0 / (100 : Int32)) * (100 : Int32)) - q0), iv 11, iv 0] [])) (fun t k => XS.iloadN X0.here hx rfl (hb hby z20_37) rfl  (XS.isub X0.here hx rfl (hb hby z20_38) rfl (XS.istore X0.here hx rfl (hb hby z20_39) rfl (l' := #[iv q0, iv 11, rv ar, iv (q0 / (100 : Int32)), iv (((q0 / (100 : Int32)) * (100 : Int32)) - q0), iv 11, iv 0]) rfl (XS.iloadN X0.here hx rfl (hb hby z20_41) rfl  (XS.istoreN X0.here hx rfl (hb hby z20_42) rfl (l' := #[iv (q0 / (100 : Int32)), iv 11, rv ar, iv (q0 / (100 : Int32)), iv (((q0 / (100 : Int32)) * (100 : Int32)) - q0), iv 11, iv 0]) rfl k))))) ?_
  generalize hh0 : (((q0 / (100 : Int32)) * (100 : Int32)) - q0) = w0
  have hr0' : w0.toInt = (pv.toInt / 1) % 100 := hh0 ▸ own_rem hv0 (by decide) hq0
  refine Go.pull (V := s₁.setTop (mkF m 49 #[iv (q0 / (100 : Int32)), iv 11, rv ar, iv (q0 / (100 : Int32)), iv w0, iv 10, iv 0] [(.int 10), (.ref ar)])) (fun t k => XS.aloadN X0.here hx rfl (hb hby z20_43) rfl rfl (XS.iinc X0.here hx rfl (hb hby z20_44) rfl (l' := #[iv (q0 / (100 : Int32)), iv 11, rv ar, iv (q0 / (100 : Int32)), iv w0, iv 10, iv 0]) rfl (XS.iload X0.here hx rfl (hb hby z20_47) rfl  k))) ?_
  obtain ⟨T1, X1, e1, st1⟩ := getS2 X0 hx hZ hown (host := "") (Or.inl (hw _ (List.mem_of_getElem? (i := 152) rfl))) Via.refl e0 Sr1 (g := (mkF m 49 #[iv (q0 / (100 : Int32)), iv 11, rv ar, iv (q0 / (100 : Int32)), iv w0, iv 10, iv 0] [(.int 10), (.ref ar)])) rfl (hb hby z20_49)
  refine Go.pull (V := T1.setTop (mkF m 52 #[iv (q0 / (100 : Int32)), iv 11, rv ar, iv (q0 / (100 : Int32)), iv w0, iv 10, iv 0] [(.ref r1), (.int 10), (.ref ar)])) st1 ?_
  refine Go.pull (V := T1.setTop (mkF m 54 #[iv (q0 / (100 : Int32)), iv 11, rv ar, iv (q0 / (100 : Int32)), iv w0, iv 10, iv 0] [(.int w0), (.ref r1), (.int 10), (.ref ar)])) (fun t k => XS.iload X1.here hx rfl (hb hby z20_52) rfl  k) ?_
  obtain ⟨cl2, Ar2, q2, S2, M2, Hs2, G2⟩ := id Vr1
  have hin2 : ¬ (w0 < 0 ∨ cl2.slots.size ≤ (w0).toNatClampNeg) := inb_of S2 (own_in hr0')
  have hat2 : cl2.slots[(w0).toNatClampNeg]? = some (.int (own_dig pv 1)) := Has.at Hs2 hin2 (own_one hv0 (by decide : (0 : Int) < 1) (by decide) hr0')
  refine Go.pull (V := T1.setTop (mkF m 55 #[iv (q0 / (100 : Int32)), iv 11, rv ar, iv (q0 / (100 : Int32)), iv w0, iv 10, iv 0] [(.int (own_dig pv 1)), (.int 10), (.ref ar)])) (fun t k => X1.baloadBytes hx (j := w0) (v := (.int (own_dig pv 1))) (by rw [e1]; exact Ar2.1) (State.isArrayOf_alike hZ.alike Ar2.2.1) Ar2.2.2 hin2 hat2 (g := (mkF m 54 #[iv (q0 / (100 : Int32)), iv 11, rv ar, iv (q0 / (100 : Int32)), iv w0, iv 10, iv 0] [(.int w0), (.ref r1), (.int 10), (.ref ar)])) rfl rfl (hb hby z20_54) _ k) ?_
  obtain ⟨cl3, Ar3, q3, S3, M3, Hs3, G3⟩ := id Va
  have hin3 : ¬ ((10 : Int32) < 0 ∨ cl3.slots.size ≤ ((10 : Int32)).toNatClampNeg) := inb_of S3 ⟨by decide, by decide⟩
  obtain ⟨T4, h4, X4, e4, W4, st4⟩ := stB X1 hx hZ e1 Ar3 (j := (10 : Int32)) hin3 (g := (mkF m 55 #[iv (q0 / (100 : Int32)), iv 11, rv ar, iv (q0 / (100 : Int32)), iv w0, iv 10, iv 0] [(.int (own_dig pv 1)), (.int 10), (.ref ar)])) rfl rfl (hb hby z20_55)
  rw [own_narb (pv := pv) (pc := 1) (c := 1) hv0 (by decide) (by decide)] at W4
  have V4 : Arv Z h4 ar kA .byte (16 : Int32) [(.int 36), (.int 91), (.int 0), (.int 0), (.int 0), (.int 0), (.int 0), (.int 0), (.int 0), (.int 0), (.int (own_dig pv 1)), (.int 0), (.int 0), (.int 0), (.int 0), (.int 0)] (.int 0) := Arv.set Ar3 q3 S3 M3 Hs3 G3 (own_narb (pv := pv) (pc := 1) (c := 1) hv0 (by decide) (by decide) ▸ fits_nar_byte _) W4 10 rfl (Nat.le_of_ble_eq_true rfl)
  have K4 : Keep h0 h4 [ar] := (Keep.refl h0 [ar]).wr W4 (Or.inl (List.mem_of_getElem? (i := 0) rfl))
  have N4 := Fr.snoc X4 N0 g_ar
  refine Go.pull (V := T4.setTop (mkF m 56 #[iv (q0 / (100 : Int32)), iv 11, rv ar, iv (q0 / (100 : Int32)), iv w0, iv 10, iv 0] [])) st4 ?_
  refine Go.pull (V := T4.setTop (mkF m 62 #[iv (q0 / (100 : Int32)), iv 11, rv ar, iv (q0 / (100 : Int32)), iv w0, iv 9, iv 0] [(.int 9), (.ref ar)])) (fun t k => XS.aloadN X4.here hx rfl (hb hby z20_56) rfl rfl (XS.iinc X4.here hx rfl (hb hby z20_57) rfl (l' := #[iv (q0 / (100 : Int32)), iv 11, rv ar, iv (q0 / (100 : Int32)), iv w0, iv 9, iv 0]) rfl (XS.iload X4.here hx rfl (hb hby z20_60) rfl  k))) ?_
  obtain ⟨T5, X5, e5, st5⟩ := getS2 X4 hx hZ hown (host := "") (Or.inl (hw _ (List.mem_of_getElem? (i := 153) rfl))) Via.refl e4 (Sr2.wr W4) (g := (mkF m 62 #[iv (q0 / (100 : Int32)), iv 11, rv ar, iv (q0 / (100 : Int32)), iv w0, iv 9, iv 0] [(.int 9), (.ref ar)])) rfl (hb hby z20_62)
  refine Go.pull (V := T5.setTop (mkF m 65 #[iv (q0 / (100 : Int32)), iv 11, rv ar, iv (q0 / (100 : Int32)), iv w0, iv 9, iv 0] [(.ref r2), (.int 9), (.ref ar)])) st5 ?_
  refine Go.pull (V := T5.setTop (mkF m 67 #[iv (q0 / (100 : Int32)), iv 11, rv ar, iv (q0 / (100 : Int32)), iv w0, iv 9, iv 0] [(.int w0), (.ref r2), (.int 9), (.ref ar)])) (fun t k => XS.iload X5.here hx rfl (hb hby z20_65) rfl  k) ?_
  obtain ⟨cl6, Ar6, q6, S6, M6, Hs6, G6⟩ := id (Vr2.other W4 hr2)
  have hin6 : ¬ (w0 < 0 ∨ cl6.slots.size ≤ (w0).toNatClampNeg) := inb_of S6 (own_in hr0')
  have hat6 : cl6.slots[(w0).toNatClampNeg]? = some (.int (own_dig pv 10)) := Has.at Hs6 hin6 (own_ten hv0 (by decide : (0 : Int) < 1) rfl (by decide) hr0')
  refine Go.pull (V := T5.setTop (mkF m 68 #[iv (q0 / (100 : Int32)), iv 11, rv ar, iv (q0 / (100 : Int32)), iv w0, iv 9, iv 0] [(.int (own_dig pv 10)), (.int 9), (.ref ar)])) (fun t k => X5.baloadBytes hx (j := w0) (v := (.int (own_dig pv 10))) (by rw [e5]; exact Ar6.1) (State.isArrayOf_alike hZ.alike Ar6.2.1) Ar6.2.2 hin6 hat6 (g := (mkF m 67 #[iv (q0 / (100 : Int32)), iv 11, rv ar, iv (q0 / (100 : Int32)), iv w0, iv 9, iv 0] [(.int w0), (.ref r2), (.int 9), (.ref ar)])) rfl rfl (hb hby z20_67) _ k) ?_
  obtain ⟨cl7, Ar7, q7, S7, M7, Hs7, G7⟩ := id V4
  have hin7 : ¬ ((9 : Int32) < 0 ∨ cl7.slots.size ≤ ((9 : Int32)).toNatClampNeg) := inb_of S7 ⟨by decide, by decide⟩
  obtain ⟨T8, h8, X8, e8, W8, st8⟩ := stB X5 hx hZ e5 Ar7 (j := (9 : Int32)) hin7 (g := (mkF m 68 #[iv (q0 / (100 : Int32)), iv 11, rv ar, iv (q0 / (100 : Int32)), iv w0, iv 9, iv 0] [(.int (own_dig pv 10)), (.int 9), (.ref ar)])) rfl rfl (hb hby z20_68)
  rw [own_narb (pv := pv) (pc := 10) (c := 10) hv0 (by decide) (by decide)] at W8
  have V8 : Arv Z h8 ar kA .byte (16 : Int32) [(.int 36), (.int 91), (.int 0), (.int 0), (.int 0), (.int 0), (.int 0), (.int 0), (.int 0), (.int (own_dig pv 10)), (.int (own_dig pv 1)), (.int 0), (.int 0), (.int 0), (.int 0), (.int 0)] (.int 0) := Arv.set Ar7 q7 S7 M7 Hs7 G7 (own_narb (pv := pv) (pc := 10) (c := 10) hv0 (by decide) (by decide) ▸ fits_nar_byte _) W8 9 rfl (Nat.le_of_ble_eq_true rfl)
  have K8 : Keep h0 h8 [ar] := K4.wr W8 (Or.inl (List.mem_of_getElem? (i := 0) rfl))
  have N8 := Fr.snoc X8 N4 g_ar
  refine Go.pull (V := T8.setTop (mkF m 69 #[iv (q0 / (100 : Int32)), iv 11, rv ar, iv (q0 / (100 : Int32)), iv w0, iv 9, iv 0] [])) st8 ?_
  refine Go.pull (V := T8.setTop (mkF m 22 #[iv (q0 / (100 : Int32)), iv 11, rv ar, iv (q0 / (100 : Int32)), iv w0, iv 9, iv 0] [])) (fun t k => XS.goto X8.here hx rfl (pc0 := 69) (pc' := 22) rfl (hb hby z20_69) (by decide) (by decide) k) ?_
  generalize hg1 : (q0 / (100 : Int32)) = q1
  have hq1 : q1.toInt = -(pv.toInt / 100) := hg1 ▸ own_turn (c := 1) hv0 (by decide) rfl hq0
  refine Go.pull (V := T8.setTop (mkF m 31 #[iv q1, iv 11, rv ar, iv q1, iv w0, iv 9, iv 0] [(.int 100), (.int q1)])) (fun t k => XS.iloadN X8.here hx rfl (hb hby z20_22) rfl  (XS.bipush X8.here hx rfl (hb hby z20_23) (XS.icmpNo X8.here hx rfl (hb hby z20_25) rfl (XT.ii_gt_f (own_b25f hv0 (by decide) hq1 (own_lo hlo (by decide)))) (XS.iloadN X8.here hx rfl (hb hby z20_28) rfl  (XS.bipush X8.here hx rfl (hb hby z20_29) k))))) ?_
  refine Go.pull (V := T8.setTop (mkF m 37 #[iv q1, iv 11, rv ar, iv (q1 / (100 : Int32)), iv w0, iv 9, iv 0] [(.int ((q1 / (100 : Int32)) * (100 : Int32)))])) (fun t k => XS.idiv X8.here hx rfl (hb hby z20_31) rfl (by decide) (XS.istoreN X8.here hx rfl (hb hby z20_32) rfl (l' := #[iv q1, iv 11, rv ar, iv (q1 / (100 : Int32)), iv w0, iv 9, iv 0]) rfl (XS.iloadN X8.here hx rfl (hb hby z20_33) rfl  (XS.bipush X8.here hx rfl (hb hby z20_34) (XS.imul X8.here hx rfl (hb hby z20_36) rfl k))))) ?_
  refine Go.pull (V := T8.setTop (mkF m 43 #[iv (q1 / (100 : Int32)), iv 11, rv ar, iv (q1 / (100 : Int32)), iv (((q1 / (100 : Int32)) * (100 : Int32)) - q1), iv 9, iv 0] [])) (fun t k => XS.iloadN X8.here hx rfl (hb hby z20_37) rfl  (XS.isub X8.here hx rfl (hb hby z20_38) rfl (XS.istore X8.here hx rfl (hb hby z20_39) rfl (l' := #[iv q1, iv 11, rv ar, iv (q1 / (100 : Int32)), iv (((q1 / (100 : Int32)) * (100 : Int32)) - q1), iv 9, iv 0]) rfl (XS.iloadN X8.here hx rfl (hb hby z20_41) rfl  (XS.istoreN X8.here hx rfl (hb hby z20_42) rfl (l' := #[iv (q1 / (100 : Int32)), iv 11, rv ar, iv (q1 / (100 : Int32)), iv (((q1 / (100 : Int32)) * (100 : Int32)) - q1), iv 9, iv 0]) rfl k))))) ?_
  generalize hh1 : (((q1 / (100 : Int32)) * (100 : Int32)) - q1) = w1
  have hr1' : w1.toInt = (pv.toInt / 100) % 100 := hh1 ▸ own_rem hv0 (by decide) hq1
  refine Go.pull (V := T8.setTop (mkF m 49 #[iv (q1 / (100 : Int32)), iv 11, rv ar, iv (q1 / (100 : Int32)), iv w1, iv 8, iv 0] [(.int 8), (.ref ar)])) (fun t k => XS.aloadN X8.here hx rfl (hb hby z20_43) rfl rfl (XS.iinc X8.here hx rfl (hb hby z20_44) rfl (l' := #[iv (q1 / (100 : Int32)), iv 11, rv ar, iv (q1 / (100 : Int32)), iv w1, iv 8, iv 0]) rfl (XS.iload X8.here hx rfl (hb hby z20_47) rfl  k))) ?_
  obtain ⟨T9, X9, e9, st9⟩ := getS2 X8 hx hZ hown (host := "") (Or.inl (hw _ (List.mem_of_getElem? (i := 152) rfl))) Via.refl e8 ((Sr1.wr W4).wr W8) (g := (mkF m 49 #[iv (q1 / (100 : Int32)), iv 11, rv ar, iv (q1 / (100 : Int32)), iv w1, iv 8, iv 0] [(.int 8), (.ref ar)])) rfl (hb hby z20_49)
  refine Go.pull (V := T9.setTop (mkF m 52 #[iv (q1 / (100 : Int32)), iv 11, rv ar, iv (q1 / (100 : Int32)), iv w1, iv 8, iv 0] [(.ref r1), (.int 8), (.ref ar)])) st9 ?_
  refine Go.pull (V := T9.setTop (mkF m 54 #[iv (q1 / (100 : Int32)), iv 11, rv ar, iv (q1 / (100 : Int32)), iv w1, iv 8, iv 0] [(.int w1), (.ref r1), (.int 8), (.ref ar)])) (fun t k => XS.iload X9.here hx rfl (hb hby z20_52) rfl  k) ?_
  obtain ⟨cl10, Ar10, q10, S10, M10, Hs10, G10⟩ := id ((Vr1.other W4 hr1).other W8 hr1)
  have hin10 : ¬ (w1 < 0 ∨ cl10.slots.size ≤ (w1).toNatClampNeg) := inb_of S10 (own_in hr1')
  have hat10 : cl10.slots[(w1).toNatClampNeg]? = some (.int (own_dig pv 100)) := Has.at Hs10 hin10 (own_one hv0 (by decide : (0 : Int) < 100) (by decide) hr1')
  refine Go.pull (V := T9.setTop (mkF m 55 #[iv (q1 / (100 : Int32)), iv 11, rv ar, iv (q1 / (100 : Int32)), iv w1, iv 8, iv 0] [(.int (own_dig pv 100)), (.int 8), (.ref ar)])) (fun t k => X9.baloadBytes hx (j := w1) (v := (.int (own_dig pv 100))) (by rw [e9]; exact Ar10.1) (State.isArrayOf_alike hZ.alike Ar10.2.1) Ar10.2.2 hin10 hat10 (g := (mkF m 54 #[iv (q1 / (100 : Int32)), iv 11, rv ar, iv (q1 / (100 : Int32)), iv w1, iv 8, iv 0] [(.int w1), (.ref r1), (.int 8), (.ref ar)])) rfl rfl (hb hby z20_54) _ k) ?_
  obtain ⟨cl11, Ar11, q11, S11, M11, Hs11, G11⟩ := id V8
  have hin11 : ¬ ((8 : Int32) < 0 ∨ cl11.slots.size ≤ ((8 : Int32)).toNatClampNeg) := inb_of S11 ⟨by decide, by decide⟩
  obtain ⟨T12, h12, X12, e12, W12, st12⟩ := stB X9 hx hZ e9 Ar11 (j := (8 : Int32)) hin11 (g := (mkF m 55 #[iv (q1 / (100 : Int32)), iv 11, rv ar, iv (q1 / (100 : Int32)), iv w1, iv 8, iv 0] [(.int (own_dig pv 100)), (.int 8), (.ref ar)])) rfl rfl (hb hby z20_55)
  rw [own_narb (pv := pv) (pc := 100) (c := 100) hv0 (by decide) (by decide)] at W12
  have V12 : Arv Z h12 ar kA .byte (16 : Int32) [(.int 36), (.int 91), (.int 0), (.int 0), (.int 0), (.int 0), (.int 0), (.int 0), (.int (own_dig pv 100)), (.int (own_dig pv 10)), (.int (own_dig pv 1)), (.int 0), (.int 0), (.int 0), (.int 0), (.int 0)] (.int 0) := Arv.set Ar11 q11 S11 M11 Hs11 G11 (own_narb (pv := pv) (pc := 100) (c := 100) hv0 (by decide) (by decide) ▸ fits_nar_byte _) W12 8 rfl (Nat.le_of_ble_eq_true rfl)
  have K12 : Keep h0 h12 [ar] := K8.wr W12 (Or.inl (List.mem_of_getElem? (i := 0) rfl))
  have N12 := Fr.snoc X12 N8 g_ar
  refine Go.pull (V := T12.setTop (mkF m 56 #[iv (q1 / (100 : Int32)), iv 11, rv ar, iv (q1 / (100 : Int32)), iv w1, iv 8, iv 0] [])) st12 ?_
  refine Go.pull (V := T12.setTop (mkF m 62 #[iv (q1 / (100 : Int32)), iv 11, rv ar, iv (q1 / (100 : Int32)), iv w1, iv 7, iv 0] [(.int 7), (.ref ar)])) (fun t k => XS.aloadN X12.here hx rfl (hb hby z20_56) rfl rfl (XS.iinc X12.here hx rfl (hb hby z20_57) rfl (l' := #[iv (q1 / (100 : Int32)), iv 11, rv ar, iv (q1 / (100 : Int32)), iv w1, iv 7, iv 0]) rfl (XS.iload X12.here hx rfl (hb hby z20_60) rfl  k))) ?_
  obtain ⟨T13, X13, e13, st13⟩ := getS2 X12 hx hZ hown (host := "") (Or.inl (hw _ (List.mem_of_getElem? (i := 153) rfl))) Via.refl e12 (((Sr2.wr W4).wr W8).wr W12) (g := (mkF m 62 #[iv (q1 / (100 : Int32)), iv 11, rv ar, iv (q1 / (100 : Int32)), iv w1, iv 7, iv 0] [(.int 7), (.ref ar)])) rfl (hb hby z20_62)
  refine Go.pull (V := T13.setTop (mkF m 65 #[iv (q1 / (100 : Int32)), iv 11, rv ar, iv (q1 / (100 : Int32)), iv w1, iv 7, iv 0] [(.ref r2), (.int 7), (.ref ar)])) st13 ?_
  refine Go.pull (V := T13.setTop (mkF m 67 #[iv (q1 / (100 : Int32)), iv 11, rv ar, iv (q1 / (100 : Int32)), iv w1, iv 7, iv 0] [(.int w1), (.ref r2), (.int 7), (.ref ar)])) (fun t k => XS.iload X13.here hx rfl (hb hby z20_65) rfl  k) ?_
  obtain ⟨cl14, Ar14, q14, S14, M14, Hs14, G14⟩ := id (((Vr2.other W4 hr2).other W8 hr2).other W12 hr2)
  have hin14 : ¬ (w1 < 0 ∨ cl14.slots.size ≤ (w1).toNatClampNeg) := inb_of S14 (own_in hr1')
  have hat14 : cl14.slots[(w1).toNatClampNeg]? = some (.int (own_dig pv 1000)) := Has.at Hs14 hin14 (own_ten hv0 (by decide : (0 : Int) < 100) rfl (by decide) hr1')
  refine Go.pull (V := T13.setTop (mkF m 68 #[iv (q1 / (100 : Int32)), iv 11, rv ar, iv (q1 / (100 : Int32)), iv w1, iv 7, iv 0] [(.int (own_dig pv 1000)), (.int 7), (.ref ar)])) (fun t k => X13.baloadBytes hx (j := w1) (v := (.int (own_dig pv 1000))) (by rw [e13]; exact Ar14.1) (State.isArrayOf_alike hZ.alike Ar14.2.1) Ar14.2.2 hin14 hat14 (g := (mkF m 67 #[iv (q1 / (100 : Int32)), iv 11, rv ar, iv (q1 / (100 : Int32)), iv w1, iv 7, iv 0] [(.int w1), (.ref r2), (.int 7), (.ref ar)])) rfl rfl (hb hby z20_67) _ k) ?_
  obtain ⟨cl15, Ar15, q15, S15, M15, Hs15, G15⟩ := id V12
  have hin15 : ¬ ((7 : Int32) < 0 ∨ cl15.slots.size ≤ ((7 : Int32)).toNatClampNeg) := inb_of S15 ⟨by decide, by decide⟩
  obtain ⟨T16, h16, X16, e16, W16, st16⟩ := stB X13 hx hZ e13 Ar15 (j := (7 : Int32)) hin15 (g := (mkF m 68 #[iv (q1 / (100 : Int32)), iv 11, rv ar, iv (q1 / (100 : Int32)), iv w1, iv 7, iv 0] [(.int (own_dig pv 1000)), (.int 7), (.ref ar)])) rfl rfl (hb hby z20_68)
  rw [own_narb (pv := pv) (pc := 1000) (c := 1000) hv0 (by decide) (by decide)] at W16
  have V16 : Arv Z h16 ar kA .byte (16 : Int32) [(.int 36), (.int 91), (.int 0), (.int 0), (.int 0), (.int 0), (.int 0), (.int (own_dig pv 1000)), (.int (own_dig pv 100)), (.int (own_dig pv 10)), (.int (own_dig pv 1)), (.int 0), (.int 0), (.int 0), (.int 0), (.int 0)] (.int 0) := Arv.set Ar15 q15 S15 M15 Hs15 G15 (own_narb (pv := pv) (pc := 1000) (c := 1000) hv0 (by decide) (by decide) ▸ fits_nar_byte _) W16 7 rfl (Nat.le_of_ble_eq_true rfl)
  have K16 : Keep h0 h16 [ar] := K12.wr W16 (Or.inl (List.mem_of_getElem? (i := 0) rfl))
  have N16 := Fr.snoc X16 N12 g_ar
  refine Go.pull (V := T16.setTop (mkF m 69 #[iv (q1 / (100 : Int32)), iv 11, rv ar, iv (q1 / (100 : Int32)), iv w1, iv 7, iv 0] [])) st16 ?_
  refine Go.pull (V := T16.setTop (mkF m 22 #[iv (q1 / (100 : Int32)), iv 11, rv ar, iv (q1 / (100 : Int32)), iv w1, iv 7, iv 0] [])) (fun t k => XS.goto X16.here hx rfl (pc0 := 69) (pc' := 22) rfl (hb hby z20_69) (by decide) (by decide) k) ?_
  generalize hg2 : (q1 / (100 : Int32)) = q2
  have hq2 : q2.toInt = -(pv.toInt / 10000) := hg2 ▸ own_turn (c := 100) hv0 (by decide) rfl hq1
  refine Go.pull (V := T16.setTop (mkF m 31 #[iv q2, iv 11, rv ar, iv q2, iv w1, iv 7, iv 0] [(.int 100), (.int q2)])) (fun t k => XS.iloadN X16.here hx rfl (hb hby z20_22) rfl  (XS.bipush X16.here hx rfl (hb hby z20_23) (XS.icmpNo X16.here hx rfl (hb hby z20_25) rfl (XT.ii_gt_f (own_b25f hv0 (by decide) hq2 (own_lo hlo (by decide)))) (XS.iloadN X16.here hx rfl (hb hby z20_28) rfl  (XS.bipush X16.here hx rfl (hb hby z20_29) k))))) ?_
  refine Go.pull (V := T16.setTop (mkF m 37 #[iv q2, iv 11, rv ar, iv (q2 / (100 : Int32)), iv w1, iv 7, iv 0] [(.int ((q2 / (100 : Int32)) * (100 : Int32)))])) (fun t k => XS.idiv X16.here hx rfl (hb hby z20_31) rfl (by decide) (XS.istoreN X16.here hx rfl (hb hby z20_32) rfl (l' := #[iv q2, iv 11, rv ar, iv (q2 / (100 : Int32)), iv w1, iv 7, iv 0]) rfl (XS.iloadN X16.here hx rfl (hb hby z20_33) rfl  (XS.bipush X16.here hx rfl (hb hby z20_34) (XS.imul X16.here hx rfl (hb hby z20_36) rfl k))))) ?_
  refine Go.pull (V := T16.setTop (mkF m 43 #[iv (q2 / (100 : Int32)), iv 11, rv ar, iv (q2 / (100 : Int32)), iv (((q2 / (100 : Int32)) * (100 : Int32)) - q2), iv 7, iv 0] [])) (fun t k => XS.iloadN X16.here hx rfl (hb hby z20_37) rfl  (XS.isub X16.here hx rfl (hb hby z20_38) rfl (XS.istore X16.here hx rfl (hb hby z20_39) rfl (l' := #[iv q2, iv 11, rv ar, iv (q2 / (100 : Int32)), iv (((q2 / (100 : Int32)) * (100 : Int32)) - q2), iv 7, iv 0]) rfl (XS.iloadN X16.here hx rfl (hb hby z20_41) rfl  (XS.istoreN X16.here hx rfl (hb hby z20_42) rfl (l' := #[iv (q2 / (100 : Int32)), iv 11, rv ar, iv (q2 / (100 : Int32)), iv (((q2 / (100 : Int32)) * (100 : Int32)) - q2), iv 7, iv 0]) rfl k))))) ?_
  generalize hh2 : (((q2 / (100 : Int32)) * (100 : Int32)) - q2) = w2
  have hr2' : w2.toInt = (pv.toInt / 10000) % 100 := hh2 ▸ own_rem hv0 (by decide) hq2
  refine Go.pull (V := T16.setTop (mkF m 49 #[iv (q2 / (100 : Int32)), iv 11, rv ar, iv (q2 / (100 : Int32)), iv w2, iv 6, iv 0] [(.int 6), (.ref ar)])) (fun t k => XS.aloadN X16.here hx rfl (hb hby z20_43) rfl rfl (XS.iinc X16.here hx rfl (hb hby z20_44) rfl (l' := #[iv (q2 / (100 : Int32)), iv 11, rv ar, iv (q2 / (100 : Int32)), iv w2, iv 6, iv 0]) rfl (XS.iload X16.here hx rfl (hb hby z20_47) rfl  k))) ?_
  obtain ⟨T17, X17, e17, st17⟩ := getS2 X16 hx hZ hown (host := "") (Or.inl (hw _ (List.mem_of_getElem? (i := 152) rfl))) Via.refl e16 ((((Sr1.wr W4).wr W8).wr W12).wr W16) (g := (mkF m 49 #[iv (q2 / (100 : Int32)), iv 11, rv ar, iv (q2 / (100 : Int32)), iv w2, iv 6, iv 0] [(.int 6), (.ref ar)])) rfl (hb hby z20_49)
  refine Go.pull (V := T17.setTop (mkF m 52 #[iv (q2 / (100 : Int32)), iv 11, rv ar, iv (q2 / (100 : Int32)), iv w2, iv 6, iv 0] [(.ref r1), (.int 6), (.ref ar)])) st17 ?_
  refine Go.pull (V := T17.setTop (mkF m 54 #[iv (q2 / (100 : Int32)), iv 11, rv ar, iv (q2 / (100 : Int32)), iv w2, iv 6, iv 0] [(.int w2), (.ref r1), (.int 6), (.ref ar)])) (fun t k => XS.iload X17.here hx rfl (hb hby z20_52) rfl  k) ?_
  obtain ⟨cl18, Ar18, q18, S18, M18, Hs18, G18⟩ := id ((((Vr1.other W4 hr1).other W8 hr1).other W12 hr1).other W16 hr1)
  have hin18 : ¬ (w2 < 0 ∨ cl18.slots.size ≤ (w2).toNatClampNeg) := inb_of S18 (own_in hr2')
  have hat18 : cl18.slots[(w2).toNatClampNeg]? = some (.int (own_dig pv 10000)) := Has.at Hs18 hin18 (own_one hv0 (by decide : (0 : Int) < 10000) (by decide) hr2')
  refine Go.pull (V := T17.setTop (mkF m 55 #[iv (q2 / (100 : Int32)), iv 11, rv ar, iv (q2 / (100 : Int32)), iv w2, iv 6, iv 0] [(.int (own_dig pv 10000)), (.int 6), (.ref ar)])) (fun t k => X17.baloadBytes hx (j := w2) (v := (.int (own_dig pv 10000))) (by rw [e17]; exact Ar18.1) (State.isArrayOf_alike hZ.alike Ar18.2.1) Ar18.2.2 hin18 hat18 (g := (mkF m 54 #[iv (q2 / (100 : Int32)), iv 11, rv ar, iv (q2 / (100 : Int32)), iv w2, iv 6, iv 0] [(.int w2), (.ref r1), (.int 6), (.ref ar)])) rfl rfl (hb hby z20_54) _ k) ?_
  obtain ⟨cl19, Ar19, q19, S19, M19, Hs19, G19⟩ := id V16
  have hin19 : ¬ ((6 : Int32) < 0 ∨ cl19.slots.size ≤ ((6 : Int32)).toNatClampNeg) := inb_of S19 ⟨by decide, by decide⟩
  obtain ⟨T20, h20, X20, e20, W20, st20⟩ := stB X17 hx hZ e17 Ar19 (j := (6 : Int32)) hin19 (g := (mkF m 55 #[iv (q2 / (100 : Int32)), iv 11, rv ar, iv (q2 / (100 : Int32)), iv w2, iv 6, iv 0] [(.int (own_dig pv 10000)), (.int 6), (.ref ar)])) rfl rfl (hb hby z20_55)
  rw [own_narb (pv := pv) (pc := 10000) (c := 10000) hv0 (by decide) (by decide)] at W20
  have V20 : Arv Z h20 ar kA .byte (16 : Int32) [(.int 36), (.int 91), (.int 0), (.int 0), (.int 0), (.int 0), (.int (own_dig pv 10000)), (.int (own_dig pv 1000)), (.int (own_dig pv 100)), (.int (own_dig pv 10)), (.int (own_dig pv 1)), (.int 0), (.int 0), (.int 0), (.int 0), (.int 0)] (.int 0) := Arv.set Ar19 q19 S19 M19 Hs19 G19 (own_narb (pv := pv) (pc := 10000) (c := 10000) hv0 (by decide) (by decide) ▸ fits_nar_byte _) W20 6 rfl (Nat.le_of_ble_eq_true rfl)
  have K20 : Keep h0 h20 [ar] := K16.wr W20 (Or.inl (List.mem_of_getElem? (i := 0) rfl))
  have N20 := Fr.snoc X20 N16 g_ar
  refine Go.pull (V := T20.setTop (mkF m 56 #[iv (q2 / (100 : Int32)), iv 11, rv ar, iv (q2 / (100 : Int32)), iv w2, iv 6, iv 0] [])) st20 ?_
  refine Go.pull (V := T20.setTop (mkF m 62 #[iv (q2 / (100 : Int32)), iv 11, rv ar, iv (q2 / (100 : Int32)), iv w2, iv 5, iv 0] [(.int 5), (.ref ar)])) (fun t k => XS.aloadN X20.here hx rfl (hb hby z20_56) rfl rfl (XS.iinc X20.here hx rfl (hb hby z20_57) rfl (l' := #[iv (q2 / (100 : Int32)), iv 11, rv ar, iv (q2 / (100 : Int32)), iv w2, iv 5, iv 0]) rfl (XS.iload X20.here hx rfl (hb hby z20_60) rfl  k))) ?_
  obtain ⟨T21, X21, e21, st21⟩ := getS2 X20 hx hZ hown (host := "") (Or.inl (hw _ (List.mem_of_getElem? (i := 153) rfl))) Via.refl e20 (((((Sr2.wr W4).wr W8).wr W12).wr W16).wr W20) (g := (mkF m 62 #[iv (q2 / (100 : Int32)), iv 11, rv ar, iv (q2 / (100 : Int32)), iv w2, iv 5, iv 0] [(.int 5), (.ref ar)])) rfl (hb hby z20_62)
  refine Go.pull (V := T21.setTop (mkF m 65 #[iv (q2 / (100 : Int32)), iv 11, rv ar, iv (q2 / (100 : Int32)), iv w2, iv 5, iv 0] [(.ref r2), (.int 5), (.ref ar)])) st21 ?_
  refine Go.pull (V := T21.setTop (mkF m 67 #[iv (q2 / (100 : Int32)), iv 11, rv ar, iv (q2 / (100 : Int32)), iv w2, iv 5, iv 0] [(.int w2), (.ref r2), (.int 5), (.ref ar)])) (fun t k => XS.iload X21.here hx rfl (hb hby z20_65) rfl  k) ?_
  obtain ⟨cl22, Ar22, q22, S22, M22, Hs22, G22⟩ := id (((((Vr2.other W4 hr2).other W8 hr2).other W12 hr2).other W16 hr2).other W20 hr2)
  have hin22 : ¬ (w2 < 0 ∨ cl22.slots.size ≤ (w2).toNatClampNeg) := inb_of S22 (own_in hr2')
  have hat22 : cl22.slots[(w2).toNatClampNeg]? = some (.int (own_dig pv 100000)) := Has.at Hs22 hin22 (own_ten hv0 (by decide : (0 : Int) < 10000) rfl (by decide) hr2')
  refine Go.pull (V := T21.setTop (mkF m 68 #[iv (q2 / (100 : Int32)), iv 11, rv ar, iv (q2 / (100 : Int32)), iv w2, iv 5, iv 0] [(.int (own_dig pv 100000)), (.int 5), (.ref ar)])) (fun t k => X21.baloadBytes hx (j := w2) (v := (.int (own_dig pv 100000))) (by rw [e21]; exact Ar22.1) (State.isArrayOf_alike hZ.alike Ar22.2.1) Ar22.2.2 hin22 hat22 (g := (mkF m 67 #[iv (q2 / (100 : Int32)), iv 11, rv ar, iv (q2 / (100 : Int32)), iv w2, iv 5, iv 0] [(.int w2), (.ref r2), (.int 5), (.ref ar)])) rfl rfl (hb hby z20_67) _ k) ?_
  obtain ⟨cl23, Ar23, q23, S23, M23, Hs23, G23⟩ := id V20
  have hin23 : ¬ ((5 : Int32) < 0 ∨ cl23.slots.size ≤ ((5 : Int32)).toNatClampNeg) := inb_of S23 ⟨by decide, by decide⟩
  obtain ⟨T24, h24, X24, e24, W24, st24⟩ := stB X21 hx hZ e21 Ar23 (j := (5 : Int32)) hin23 (g := (mkF m 68 #[iv (q2 / (100 : Int32)), iv 11, rv ar, iv (q2 / (100 : Int32)), iv w2, iv 5, iv 0] [(.int (own_dig pv 100000)), (.int 5), (.ref ar)])) rfl rfl (hb hby z20_68)
  rw [own_narb (pv := pv) (pc := 100000) (c := 100000) hv0 (by decide) (by decide)] at W24
  have V24 : Arv Z h24 ar kA .byte (16 : Int32) [(.int 36), (.int 91), (.int 0), (.int 0), (.int 0), (.int (own_dig pv 100000)), (.int (own_dig pv 10000)), (.int (own_dig pv 1000)), (.int (own_dig pv 100)), (.int (own_dig pv 10)), (.int (own_dig pv 1)), (.int 0), (.int 0), (.int 0), (.int 0), (.int 0)] (.int 0) := Arv.set Ar23 q23 S23 M23 Hs23 G23 (own_narb (pv := pv) (pc := 100000) (c := 100000) hv0 (by decide) (by decide) ▸ fits_nar_byte _) W24 5 rfl (Nat.le_of_ble_eq_true rfl)
  have K24 : Keep h0 h24 [ar] := K20.wr W24 (Or.inl (List.mem_of_getElem? (i := 0) rfl))
  have N24 := Fr.snoc X24 N20 g_ar
  refine Go.pull (V := T24.setTop (mkF m 69 #[iv (q2 / (100 : Int32)), iv 11, rv ar, iv (q2 / (100 : Int32)), iv w2, iv 5, iv 0] [])) st24 ?_
  refine Go.pull (V := T24.setTop (mkF m 22 #[iv (q2 / (100 : Int32)), iv 11, rv ar, iv (q2 / (100 : Int32)), iv w2, iv 5, iv 0] [])) (fun t k => XS.goto X24.here hx rfl (pc0 := 69) (pc' := 22) rfl (hb hby z20_69) (by decide) (by decide) k) ?_
  generalize hg3 : (q2 / (100 : Int32)) = q3
  have hq3 : q3.toInt = -(pv.toInt / 1000000) := hg3 ▸ own_turn (c := 10000) hv0 (by decide) rfl hq2
  refine Go.pull (V := T24.setTop (mkF m 31 #[iv q3, iv 11, rv ar, iv q3, iv w2, iv 5, iv 0] [(.int 100), (.int q3)])) (fun t k => XS.iloadN X24.here hx rfl (hb hby z20_22) rfl  (XS.bipush X24.here hx rfl (hb hby z20_23) (XS.icmpNo X24.here hx rfl (hb hby z20_25) rfl (XT.ii_gt_f (own_b25f hv0 (by decide) hq3 (own_lo hlo (by decide)))) (XS.iloadN X24.here hx rfl (hb hby z20_28) rfl  (XS.bipush X24.here hx rfl (hb hby z20_29) k))))) ?_
  refine Go.pull (V := T24.setTop (mkF m 37 #[iv q3, iv 11, rv ar, iv (q3 / (100 : Int32)), iv w2, iv 5, iv 0] [(.int ((q3 / (100 : Int32)) * (100 : Int32)))])) (fun t k => XS.idiv X24.here hx rfl (hb hby z20_31) rfl (by decide) (XS.istoreN X24.here hx rfl (hb hby z20_32) rfl (l' := #[iv q3, iv 11, rv ar, iv (q3 / (100 : Int32)), iv w2, iv 5, iv 0]) rfl (XS.iloadN X24.here hx rfl (hb hby z20_33) rfl  (XS.bipush X24.here hx rfl (hb hby z20_34) (XS.imul X24.here hx rfl (hb hby z20_36) rfl k))))) ?_
  refine Go.pull (V := T24.setTop (mkF m 43 #[iv (q3 / (100 : Int32)), iv 11, rv ar, iv (q3 / (100 : Int32)), iv (((q3 / (100 : Int32)) * (100 : Int32)) - q3), iv 5, iv 0] [])) (fun t k => XS.iloadN X24.here hx rfl (hb hby z20_37) rfl  (XS.isub X24.here hx rfl (hb hby z20_38) rfl (XS.istore X24.here hx rfl (hb hby z20_39) rfl (l' := #[iv q3, iv 11, rv ar, iv (q3 / (100 : Int32)), iv (((q3 / (100 : Int32)) * (100 : Int32)) - q3), iv 5, iv 0]) rfl (XS.iloadN X24.here hx rfl (hb hby z20_41) rfl  (XS.istoreN X24.here hx rfl (hb hby z20_42) rfl (l' := #[iv (q3 / (100 : Int32)), iv 11, rv ar, iv (q3 / (100 : Int32)), iv (((q3 / (100 : Int32)) * (100 : Int32)) - q3), iv 5, iv 0]) rfl k))))) ?_
  generalize hh3 : (((q3 / (100 : Int32)) * (100 : Int32)) - q3) = w3
  have hr3' : w3.toInt = (pv.toInt / 1000000) % 100 := hh3 ▸ own_rem hv0 (by decide) hq3
  refine Go.pull (V := T24.setTop (mkF m 49 #[iv (q3 / (100 : Int32)), iv 11, rv ar, iv (q3 / (100 : Int32)), iv w3, iv 4, iv 0] [(.int 4), (.ref ar)])) (fun t k => XS.aloadN X24.here hx rfl (hb hby z20_43) rfl rfl (XS.iinc X24.here hx rfl (hb hby z20_44) rfl (l' := #[iv (q3 / (100 : Int32)), iv 11, rv ar, iv (q3 / (100 : Int32)), iv w3, iv 4, iv 0]) rfl (XS.iload X24.here hx rfl (hb hby z20_47) rfl  k))) ?_
  obtain ⟨T25, X25, e25, st25⟩ := getS2 X24 hx hZ hown (host := "") (Or.inl (hw _ (List.mem_of_getElem? (i := 152) rfl))) Via.refl e24 ((((((Sr1.wr W4).wr W8).wr W12).wr W16).wr W20).wr W24) (g := (mkF m 49 #[iv (q3 / (100 : Int32)), iv 11, rv ar, iv (q3 / (100 : Int32)), iv w3, iv 4, iv 0] [(.int 4), (.ref ar)])) rfl (hb hby z20_49)
  refine Go.pull (V := T25.setTop (mkF m 52 #[iv (q3 / (100 : Int32)), iv 11, rv ar, iv (q3 / (100 : Int32)), iv w3, iv 4, iv 0] [(.ref r1), (.int 4), (.ref ar)])) st25 ?_
  refine Go.pull (V := T25.setTop (mkF m 54 #[iv (q3 / (100 : Int32)), iv 11, rv ar, iv (q3 / (100 : Int32)), iv w3, iv 4, iv 0] [(.int w3), (.ref r1), (.int 4), (.ref ar)])) (fun t k => XS.iload X25.here hx rfl (hb hby z20_52) rfl  k) ?_
  obtain ⟨cl26, Ar26, q26, S26, M26, Hs26, G26⟩ := id ((((((Vr1.other W4 hr1).other W8 hr1).other W12 hr1).other W16 hr1).other W20 hr1).other W24 hr1)
  have hin26 : ¬ (w3 < 0 ∨ cl26.slots.size ≤ (w3).toNatClampNeg) := inb_of S26 (own_in hr3')
  have hat26 : cl26.slots[(w3).toNatClampNeg]? = some (.int (own_dig pv 1000000)) := Has.at Hs26 hin26 (own_one hv0 (by decide : (0 : Int) < 1000000) (by decide) hr3')
  refine Go.pull (V := T25.setTop (mkF m 55 #[iv (q3 / (100 : Int32)), iv 11, rv ar, iv (q3 / (100 : Int32)), iv w3, iv 4, iv 0] [(.int (own_dig pv 1000000)), (.int 4), (.ref ar)])) (fun t k => X25.baloadBytes hx (j := w3) (v := (.int (own_dig pv 1000000))) (by rw [e25]; exact Ar26.1) (State.isArrayOf_alike hZ.alike Ar26.2.1) Ar26.2.2 hin26 hat26 (g := (mkF m 54 #[iv (q3 / (100 : Int32)), iv 11, rv ar, iv (q3 / (100 : Int32)), iv w3, iv 4, iv 0] [(.int w3), (.ref r1), (.int 4), (.ref ar)])) rfl rfl (hb hby z20_54) _ k) ?_
  obtain ⟨cl27, Ar27, q27, S27, M27, Hs27, G27⟩ := id V24
  have hin27 : ¬ ((4 : Int32) < 0 ∨ cl27.slots.size ≤ ((4 : Int32)).toNatClampNeg) := inb_of S27 ⟨by decide, by decide⟩
  obtain ⟨T28, h28, X28, e28, W28, st28⟩ := stB X25 hx hZ e25 Ar27 (j := (4 : Int32)) hin27 (g := (mkF m 55 #[iv (q3 / (100 : Int32)), iv 11, rv ar, iv (q3 / (100 : Int32)), iv w3, iv 4, iv 0] [(.int (own_dig pv 1000000)), (.int 4), (.ref ar)])) rfl rfl (hb hby z20_55)
  rw [own_narb (pv := pv) (pc := 1000000) (c := 1000000) hv0 (by decide) (by decide)] at W28
  have V28 : Arv Z h28 ar kA .byte (16 : Int32) [(.int 36), (.int 91), (.int 0), (.int 0), (.int (own_dig pv 1000000)), (.int (own_dig pv 100000)), (.int (own_dig pv 10000)), (.int (own_dig pv 1000)), (.int (own_dig pv 100)), (.int (own_dig pv 10)), (.int (own_dig pv 1)), (.int 0), (.int 0), (.int 0), (.int 0), (.int 0)] (.int 0) := Arv.set Ar27 q27 S27 M27 Hs27 G27 (own_narb (pv := pv) (pc := 1000000) (c := 1000000) hv0 (by decide) (by decide) ▸ fits_nar_byte _) W28 4 rfl (Nat.le_of_ble_eq_true rfl)
  have K28 : Keep h0 h28 [ar] := K24.wr W28 (Or.inl (List.mem_of_getElem? (i := 0) rfl))
  have N28 := Fr.snoc X28 N24 g_ar
  refine Go.pull (V := T28.setTop (mkF m 56 #[iv (q3 / (100 : Int32)), iv 11, rv ar, iv (q3 / (100 : Int32)), iv w3, iv 4, iv 0] [])) st28 ?_
  refine Go.pull (V := T28.setTop (mkF m 62 #[iv (q3 / (100 : Int32)), iv 11, rv ar, iv (q3 / (100 : Int32)), iv w3, iv 3, iv 0] [(.int 3), (.ref ar)])) (fun t k => XS.aloadN X28.here hx rfl (hb hby z20_56) rfl rfl (XS.iinc X28.here hx rfl (hb hby z20_57) rfl (l' := #[iv (q3 / (100 : Int32)), iv 11, rv ar, iv (q3 / (100 : Int32)), iv w3, iv 3, iv 0]) rfl (XS.iload X28.here hx rfl (hb hby z20_60) rfl  k))) ?_
  obtain ⟨T29, X29, e29, st29⟩ := getS2 X28 hx hZ hown (host := "") (Or.inl (hw _ (List.mem_of_getElem? (i := 153) rfl))) Via.refl e28 (((((((Sr2.wr W4).wr W8).wr W12).wr W16).wr W20).wr W24).wr W28) (g := (mkF m 62 #[iv (q3 / (100 : Int32)), iv 11, rv ar, iv (q3 / (100 : Int32)), iv w3, iv 3, iv 0] [(.int 3), (.ref ar)])) rfl (hb hby z20_62)
  refine Go.pull (V := T29.setTop (mkF m 65 #[iv (q3 / (100 : Int32)), iv 11, rv ar, iv (q3 / (100 : Int32)), iv w3, iv 3, iv 0] [(.ref r2), (.int 3), (.ref ar)])) st29 ?_
  refine Go.pull (V := T29.setTop (mkF m 67 #[iv (q3 / (100 : Int32)), iv 11, rv ar, iv (q3 / (100 : Int32)), iv w3, iv 3, iv 0] [(.int w3), (.ref r2), (.int 3), (.ref ar)])) (fun t k => XS.iload X29.here hx rfl (hb hby z20_65) rfl  k) ?_
  obtain ⟨cl30, Ar30, q30, S30, M30, Hs30, G30⟩ := id (((((((Vr2.other W4 hr2).other W8 hr2).other W12 hr2).other W16 hr2).other W20 hr2).other W24 hr2).other W28 hr2)
  have hin30 : ¬ (w3 < 0 ∨ cl30.slots.size ≤ (w3).toNatClampNeg) := inb_of S30 (own_in hr3')
  have hat30 : cl30.slots[(w3).toNatClampNeg]? = some (.int (own_dig pv 10000000)) := Has.at Hs30 hin30 (own_ten hv0 (by decide : (0 : Int) < 1000000) rfl (by decide) hr3')
  refine Go.pull (V := T29.setTop (mkF m 68 #[iv (q3 / (100 : Int32)), iv 11, rv ar, iv (q3 / (100 : Int32)), iv w3, iv 3, iv 0] [(.int (own_dig pv 10000000)), (.int 3), (.ref ar)])) (fun t k => X29.baloadBytes hx (j := w3) (v := (.int (own_dig pv 10000000))) (by rw [e29]; exact Ar30.1) (State.isArrayOf_alike hZ.alike Ar30.2.1) Ar30.2.2 hin30 hat30 (g := (mkF m 67 #[iv (q3 / (100 : Int32)), iv 11, rv ar, iv (q3 / (100 : Int32)), iv w3, iv 3, iv 0] [(.int w3), (.ref r2), (.int 3), (.ref ar)])) rfl rfl (hb hby z20_67) _ k) ?_
  obtain ⟨cl31, Ar31, q31, S31, M31, Hs31, G31⟩ := id V28
  have hin31 : ¬ ((3 : Int32) < 0 ∨ cl31.slots.size ≤ ((3 : Int32)).toNatClampNeg) := inb_of S31 ⟨by decide, by decide⟩
  obtain ⟨T32, h32, X32, e32, W32, st32⟩ := stB X29 hx hZ e29 Ar31 (j := (3 : Int32)) hin31 (g := (mkF m 68 #[iv (q3 / (100 : Int32)), iv 11, rv ar, iv (q3 / (100 : Int32)), iv w3, iv 3, iv 0] [(.int (own_dig pv 10000000)), (.int 3), (.ref ar)])) rfl rfl (hb hby z20_68)
  rw [own_narb (pv := pv) (pc := 10000000) (c := 10000000) hv0 (by decide) (by decide)] at W32
  have V32 : Arv Z h32 ar kA .byte (16 : Int32) [(.int 36), (.int 91), (.int 0), (.int (own_dig pv 10000000)), (.int (own_dig pv 1000000)), (.int (own_dig pv 100000)), (.int (own_dig pv 10000)), (.int (own_dig pv 1000)), (.int (own_dig pv 100)), (.int (own_dig pv 10)), (.int (own_dig pv 1)), (.int 0), (.int 0), (.int 0), (.int 0), (.int 0)] (.int 0) := Arv.set Ar31 q31 S31 M31 Hs31 G31 (own_narb (pv := pv) (pc := 10000000) (c := 10000000) hv0 (by decide) (by decide) ▸ fits_nar_byte _) W32 3 rfl (Nat.le_of_ble_eq_true rfl)
  have K32 : Keep h0 h32 [ar] := K28.wr W32 (Or.inl (List.mem_of_getElem? (i := 0) rfl))
  have N32 := Fr.snoc X32 N28 g_ar
  refine Go.pull (V := T32.setTop (mkF m 69 #[iv (q3 / (100 : Int32)), iv 11, rv ar, iv (q3 / (100 : Int32)), iv w3, iv 3, iv 0] [])) st32 ?_
  refine Go.pull (V := T32.setTop (mkF m 22 #[iv (q3 / (100 : Int32)), iv 11, rv ar, iv (q3 / (100 : Int32)), iv w3, iv 3, iv 0] [])) (fun t k => XS.goto X32.here hx rfl (pc0 := 69) (pc' := 22) rfl (hb hby z20_69) (by decide) (by decide) k) ?_
  generalize hg4 : (q3 / (100 : Int32)) = q4
  have hq4 : q4.toInt = -(pv.toInt / 100000000) := hg4 ▸ own_turn (c := 1000000) hv0 (by decide) rfl hq3
  refine Go.pull (V := T32.setTop (mkF m 76 #[iv q4, iv 11, rv ar, iv q4, iv w3, iv 2, iv 0] [(.ref ar)])) (fun t k => XS.iloadN X32.here hx rfl (hb hby z20_22) rfl  (XS.bipush X32.here hx rfl (hb hby z20_23) (XS.icmpYes X32.here hx rfl (pc0 := 25) (pc' := 72) rfl (hb hby z20_25) rfl (XT.ii_gt_t (own_b25t hq4 (by have := own_nn hv0; have := Int32.lt_iff_toInt_lt.mp hhi; simp only [show (1000000000 : Int32).toInt = 1000000000 from rfl] at this; omega))) (by decide) (by decide) (XS.aloadN X32.here hx rfl (hb hby z20_72) rfl rfl (XS.iinc X32.here hx rfl (hb hby z20_73) rfl (l' := #[iv q4, iv 11, rv ar, iv q4, iv w3, iv 2, iv 0]) rfl k))))) ?_
  refine Go.pull (V := T32.setTop (mkF m 78 #[iv q4, iv 11, rv ar, iv q4, iv w3, iv 2, iv 0] [(.int 2), (.ref ar)])) (fun t k => XS.iload X32.here hx rfl (hb hby z20_76) rfl  k) ?_
  obtain ⟨T33, X33, e33, st33⟩ := getS2 X32 hx hZ hown (host := "") (Or.inl (hw _ (List.mem_of_getElem? (i := 152) rfl))) Via.refl e32 ((((((((Sr1.wr W4).wr W8).wr W12).wr W16).wr W20).wr W24).wr W28).wr W32) (g := (mkF m 78 #[iv q4, iv 11, rv ar, iv q4, iv w3, iv 2, iv 0] [(.int 2), (.ref ar)])) rfl (hb hby z20_78)
  refine Go.pull (V := T33.setTop (mkF m 81 #[iv q4, iv 11, rv ar, iv q4, iv w3, iv 2, iv 0] [(.ref r1), (.int 2), (.ref ar)])) st33 ?_
  refine Go.pull (V := T33.setTop (mkF m 83 #[iv q4, iv 11, rv ar, iv q4, iv w3, iv 2, iv 0] [(.int (-q4)), (.ref r1), (.int 2), (.ref ar)])) (fun t k => XS.iloadN X33.here hx rfl (hb hby z20_81) rfl  (XS.ineg X33.here hx rfl (hb hby z20_82) rfl k)) ?_
  have hr4' : (-q4).toInt = (pv.toInt / 100000000) % 100 := own_last hv0 (by decide) (by have := own_nn hv0; have := Int32.lt_iff_toInt_lt.mp hhi; simp only [show (1000000000 : Int32).toInt = 1000000000 from rfl] at this; omega) hq4
  obtain ⟨cl34, Ar34, q34, S34, M34, Hs34, G34⟩ := id ((((((((Vr1.other W4 hr1).other W8 hr1).other W12 hr1).other W16 hr1).other W20 hr1).other W24 hr1).other W28 hr1).other W32 hr1)
  have hin34 : ¬ ((-q4) < 0 ∨ cl34.slots.size ≤ ((-q4)).toNatClampNeg) := inb_of S34 (own_in hr4')
  have hat34 : cl34.slots[((-q4)).toNatClampNeg]? = some (.int (own_dig pv 100000000)) := Has.at Hs34 hin34 (own_one hv0 (by decide : (0 : Int) < 100000000) (by decide) hr4')
  refine Go.pull (V := T33.setTop (mkF m 84 #[iv q4, iv 11, rv ar, iv q4, iv w3, iv 2, iv 0] [(.int (own_dig pv 100000000)), (.int 2), (.ref ar)])) (fun t k => X33.baloadBytes hx (j := (-q4)) (v := (.int (own_dig pv 100000000))) (by rw [e33]; exact Ar34.1) (State.isArrayOf_alike hZ.alike Ar34.2.1) Ar34.2.2 hin34 hat34 (g := (mkF m 83 #[iv q4, iv 11, rv ar, iv q4, iv w3, iv 2, iv 0] [(.int (-q4)), (.ref r1), (.int 2), (.ref ar)])) rfl rfl (hb hby z20_83) _ k) ?_
  obtain ⟨cl35, Ar35, q35, S35, M35, Hs35, G35⟩ := id V32
  have hin35 : ¬ ((2 : Int32) < 0 ∨ cl35.slots.size ≤ ((2 : Int32)).toNatClampNeg) := inb_of S35 ⟨by decide, by decide⟩
  obtain ⟨T36, h36, X36, e36, W36, st36⟩ := stB X33 hx hZ e33 Ar35 (j := (2 : Int32)) hin35 (g := (mkF m 84 #[iv q4, iv 11, rv ar, iv q4, iv w3, iv 2, iv 0] [(.int (own_dig pv 100000000)), (.int 2), (.ref ar)])) rfl rfl (hb hby z20_84)
  rw [own_narb (pv := pv) (pc := 100000000) (c := 100000000) hv0 (by decide) (by decide)] at W36
  have V36 : Arv Z h36 ar kA .byte (16 : Int32) [(.int 36), (.int 91), (.int (own_dig pv 100000000)), (.int (own_dig pv 10000000)), (.int (own_dig pv 1000000)), (.int (own_dig pv 100000)), (.int (own_dig pv 10000)), (.int (own_dig pv 1000)), (.int (own_dig pv 100)), (.int (own_dig pv 10)), (.int (own_dig pv 1)), (.int 0), (.int 0), (.int 0), (.int 0), (.int 0)] (.int 0) := Arv.set Ar35 q35 S35 M35 Hs35 G35 (own_narb (pv := pv) (pc := 100000000) (c := 100000000) hv0 (by decide) (by decide) ▸ fits_nar_byte _) W36 2 rfl (Nat.le_of_ble_eq_true rfl)
  have K36 : Keep h0 h36 [ar] := K32.wr W36 (Or.inl (List.mem_of_getElem? (i := 0) rfl))
  have N36 := Fr.snoc X36 N32 g_ar
  refine Go.pull (V := T36.setTop (mkF m 85 #[iv q4, iv 11, rv ar, iv q4, iv w3, iv 2, iv 0] [])) st36 ?_
  refine Go.pull (V := T36.setTop (mkF m 118 #[iv q4, iv 11, rv ar, iv q4, iv w3, iv 2, iv 0] [])) (fun t k => XS.iloadN X36.here hx rfl (hb hby z20_85) rfl  (XS.bipush X36.here hx rfl (hb hby z20_86) (XS.icmpYes X36.here hx rfl (pc0 := 88) (pc' := 104) rfl (hb hby z20_88) rfl (XT.ii_ge_t (own_b88f hq4 (by have := own_nn hv0; have := Int32.lt_iff_toInt_lt.mp hhi; simp only [show (1000000000 : Int32).toInt = 1000000000 from rfl] at this; omega))) (by decide) (by decide) (XS.iload X36.here hx rfl (hb hby z20_104) rfl  (XS.ifYes X36.here hx rfl (pc0 := 106) (pc' := 118) rfl (hb hby z20_106) rfl (XT.i0_eq_t (by decide)) (by decide) (by decide) k))))) ?_
  refine Go.pull (V := T36.setTop (mkF m 120 #[iv q4, iv 11, rv ar, iv q4, iv w3, iv 2, iv 0] [(.int 2)])) (fun t k => XS.iload X36.here hx rfl (hb hby z20_118) rfl  k) ?_
  exact Go.retI X36 hx Bd.notSynchronized Bd.returns (hb hby z20_120) (by rw [e36]; exact ⟨rfl, N36, K36, V36⟩) (by decide) (by decide)
theorem efGc10 (m : MethodId) (x0 : Int32) (x2 : Addr) : entryFrame m #[(.int x0), (.int 12), (.ref x2)] 7 = mkF m 0 #[iv x0, iv 12, rv x2, .unset, .unset, .unset, .unset] [] := by first | (simp [entryFrame, mkF, argsToLocals, Value.category]; done) | rfl
def QGc10 (Z : State) (pv : Int32) (ar : Addr) (r1 : Addr) (r2 : Addr) (kr1 : ClassId) (kr2 : ClassId) (kA : ClassId) (h0 : Heap) (n0 : Nat) (v : Option Value) (h : Heap) (L : List Loc) : Prop := v = some (.int 2) ∧ Fr n0 L ∧ Keep h0 h [ar] ∧ Arv Z h ar kA .byte (16 : Int32) [(.int 36), (.int 91), (.int (own_dig pv 1000000000)), (.int (own_dig pv 100000000)), (.int (own_dig pv 10000000)), (.int (own_dig pv 1000000)), (.int (own_dig pv 100000)), (.int (own_dig pv 10000)), (.int (own_dig pv 1000)), (.int (own_dig pv 100)), (.int (own_dig pv 10)), (.int (own_dig pv 1)), (.int 0), (.int 0), (.int 0), (.int 0)] (.int 0)
set_option maxRecDepth 65536 in
set_option maxHeartbeats 40000000 in
theorem rmGc10 (l : Launch) (Z : State) (a0 : Array Value) (hw : ∀ d ∈ tables_1, d.before a0 Z = true) (ws : List Jvm.Cond) (pv : Int32) (ar : Addr) (r1 : Addr) (r2 : Addr) (kr1 : ClassId) (kr2 : ClassId) (kA : ClassId) (h0 : Heap) (n0 : Nat) (Z0 : n0 ≤ h0.size) (g_ar : n0 ≤ ar) (Sr1 : Sta Z h0 "java/lang/Integer" "DigitOnes" "[B" (.ref r1)) (Sr2 : Sta Z h0 "java/lang/Integer" "DigitTens" "[B" (.ref r2)) (Vr1 : Arv Z h0 r1 kr1 .byte (100 : Int32) own_ones (.int 0)) (Vr2 : Arv Z h0 r2 kr2 .byte (100 : Int32) own_tens (.int 0)) (Va : Arv Z h0 ar kA .byte (16 : Int32) [(.int 36), (.int 91), (.int 0), (.int 0), (.int 0), (.int 0), (.int 0), (.int 0), (.int 0), (.int 0), (.int 0), (.int 0), (.int 0), (.int 0), (.int 0), (.int 0)] (.int 0)) (hv0 : ¬ pv < 0) (hlo : ¬ pv < 1000000000) (hhi : pv = pv) (hr1 : r1 ≠ ar) (hr2 : r2 ≠ ar) :
    MetFree l (⟨"java/lang/Integer", "getChars", "(II[B)I"⟩ : MethodName) (head1 (Jvm.Cond.code (⟨"java/lang/Integer", "getChars", "(II[B)I"⟩ : MethodName) jdk_33_method_12_code 7 (some .int) :: ws) ({ frames := 0, cells := 0, slots := 0, locals := 0 } : Room)) (fun as' U => as' = #[(.int pv), (.int 12), (.ref ar)] ∧ Z.Warmed39 U.vm ∧ U.heap = h0) (fun _ _ _ _ _ => True) (fun _ U o U' => ∃ v L, o = .returned v ∧ QGc10 Z pv ar r1 r2 kr1 kr2 kA h0 n0 v U'.heap L ∧ FrameEnd U o U' L ({ frames := 0, cells := 0, slots := 0, locals := 0 } : Room).cells ({ frames := 0, cells := 0, slots := 0, locals := 0 } : Room).slots) := by
  refine MetFree.of_bodySF (plainFor_of_name pn_java_lang_Integer) hisR ?_
  intro p e s m args below meth c s₁ Bd hml0 hP hK
  obtain ⟨rfl, hZ, hh⟩ := hP
  have hx := Bd.exec
  have hby := Bd.bytes
  have hml : c.maxLocals = 7 := hml0
  have hown : s.vm.findClass "java/lang/Integer" = some m.cls := findClass_of_methodNamed Bd.named
  have hnm := (name_of_methodNamed Bd.named Bd.method).1
  have X0 : Stand p l e ({ frames := 0, cells := 0, slots := 0, locals := 0 } : Room) s m #[(.int pv), (.int 12), (.ref ar)] below meth c s₁ [] 0 0 := Stand.of_body Bd
  have e0 : s₁.heap = h0 := by rw [← hh, Bd.state]; rfl
  have N0 := Fr.nil n0
  show Go p e below s (fun v h L => QGc10 Z pv ar r1 r2 kr1 kr2 kA h0 n0 v h L) 0 0 _
  refine Go.pull (V := s₁.setTop (mkF m 0 #[iv pv, iv 12, rv ar, .unset, .unset, .unset, .unset] [])) (fun t k => castTop (efGc10 m pv ar) k) ?_
  refine Go.pull (V := s₁.setTop (mkF m 12 #[iv pv, iv 12, rv ar, .unset, .unset, iv 12, .unset] [(.int 0)])) (fun t k => XS.iloadN X0.here hx rfl (hb hby z20_0) rfl  (XS.istore X0.here hx rfl (hb hby z20_1) rfl (l' := #[iv pv, iv 12, rv ar, .unset, .unset, iv 12, .unset]) rfl (XS.iloadN X0.here hx rfl (hb hby z20_3) rfl  (XS.ifYes X0.here hx rfl (pc0 := 4) (pc' := 11) rfl (hb hby z20_4) rfl (XT.i0_ge_t hv0) (by decide) (by decide) (XS.iconst X0.here hx rfl (hb hby z20_11) k))))) ?_
  refine Go.pull (V := s₁.setTop (mkF m 21 #[iv pv, iv 12, rv ar, .unset, .unset, iv 12, iv 0] [(.int (-pv))])) (fun t k => XS.istore X0.here hx rfl (hb hby z20_12) rfl (l' := #[iv pv, iv 12, rv ar, .unset, .unset, iv 12, iv 0]) rfl (XS.iload X0.here hx rfl (hb hby z20_14) rfl  (XS.ifNo X0.here hx rfl (hb hby z20_16) rfl (XT.i0_ne_f (by decide)) (XS.iloadN X0.here hx rfl (hb hby z20_19) rfl  (XS.ineg X0.here hx rfl (hb hby z20_20) rfl k))))) ?_
  refine Go.pull (V := s₁.setTop (mkF m 22 #[iv (-pv), iv 12, rv ar, .unset, .unset, iv 12, iv 0] [])) (fun t k => XS.istoreN X0.here hx rfl (hb hby z20_21) rfl (l' := #[iv (-pv), iv 12, rv ar, .unset, .unset, iv 12, iv 0]) rfl k) ?_
  generalize hg0 : (-pv) = q0
  have hq0 : q0.toInt = -(pv.toInt / 1) := hg0 ▸ own_turn0 hv0
  refine Go.pull (V := s₁.setTop (mkF m 31 #[iv q0, iv 12, rv ar, .unset, .unset, iv 12, iv 0] [(.int 100), (.int q0)])) (fun t k => XS.iloadN X0.here hx rfl (hb hby z20_22) rfl  (XS.bipush X0.here hx rfl (hb hby z20_23) (XS.icmpNo X0.here hx rfl (hb hby z20_25) rfl (XT.ii_gt_f (own_b25f hv0 (by decide) hq0 (own_lo hlo (by decide)))) (XS.iloadN X0.here hx rfl (hb hby z20_28) rfl  (XS.bipush X0.here hx rfl (hb hby z20_29) k))))) ?_
  refine Go.pull (V := s₁.setTop (mkF m 37 #[iv q0, iv 12, rv ar, iv (q0 / (100 : Int32)), .unset, iv 12, iv 0] [(.int ((q0 / (100 : Int32)) * (100 : Int32)))])) (fun t k => XS.idiv X0.here hx rfl (hb hby z20_31) rfl (by decide) (XS.istoreN X0.here hx rfl (hb hby z20_32) rfl (l' := #[iv q0, iv 12, rv ar, iv (q0 / (100 : Int32)), .unset, iv 12, iv 0]) rfl (XS.iloadN X0.here hx rfl (hb hby z20_33) rfl  (XS.bipush X0.here hx rfl (hb hby z20_34) (XS.imul X0.here hx rfl (hb hby z20_36) rfl k))))) ?_
  refine Go.pull (V := s₁.setTop (mkF m 43 #[iv (q0 / (100 : Int32)), iv 12, rv ar, iv (q0 / (100 : Int32)), iv (((q0 / (100 : Int32)) * (100 : Int32)) - q0), iv 12, iv 0] [])) (fun t k => XS.iloadN X0.here hx rfl (hb hby z20_37) rfl  (XS.isub X0.here hx rfl (hb hby z20_38) rfl (XS.istore X0.here hx rfl (hb hby z20_39) rfl (l' := #[iv q0, iv 12, rv ar, iv (q0 / (100 : Int32)), iv (((q0 / (100 : Int32)) * (100 : Int32)) - q0), iv 12, iv 0]) rfl (XS.iloadN X0.here hx rfl (hb hby z20_41) rfl  (XS.istoreN X0.here hx rfl (hb hby z20_42) rfl (l' := #[iv (q0 / (100 : Int32)), iv 12, rv ar, iv (q0 / (100 : Int32)), iv (((q0 / (100 : Int32)) * (100 : Int32)) - q0), iv 12, iv 0]) rfl k))))) ?_
  generalize hh0 : (((q0 / (100 : Int32)) * (100 : Int32)) - q0) = w0
  have hr0' : w0.toInt = (pv.toInt / 1) % 100 := hh0 ▸ own_rem hv0 (by decide) hq0
  refine Go.pull (V := s₁.setTop (mkF m 49 #[iv (q0 / (100 : Int32)), iv 12, rv ar, iv (q0 / (100 : Int32)), iv w0, iv 11, iv 0] [(.int 11), (.ref ar)])) (fun t k => XS.aloadN X0.here hx rfl (hb hby z20_43) rfl rfl (XS.iinc X0.here hx rfl (hb hby z20_44) rfl (l' := #[iv (q0 / (100 : Int32)), iv 12, rv ar, iv (q0 / (100 : Int32)), iv w0, iv 11, iv 0]) rfl (XS.iload X0.here hx rfl (hb hby z20_47) rfl  k))) ?_
  obtain ⟨T1, X1, e1, st1⟩ := getS2 X0 hx hZ hown (host := "") (Or.inl (hw _ (List.mem_of_getElem? (i := 152) rfl))) Via.refl e0 Sr1 (g := (mkF m 49 #[iv (q0 / (100 : Int32)), iv 12, rv ar, iv (q0 / (100 : Int32)), iv w0, iv 11, iv 0] [(.int 11), (.ref ar)])) rfl (hb hby z20_49)
  refine Go.pull (V := T1.setTop (mkF m 52 #[iv (q0 / (100 : Int32)), iv 12, rv ar, iv (q0 / (100 : Int32)), iv w0, iv 11, iv 0] [(.ref r1), (.int 11), (.ref ar)])) st1 ?_
  refine Go.pull (V := T1.setTop (mkF m 54 #[iv (q0 / (100 : Int32)), iv 12, rv ar, iv (q0 / (100 : Int32)), iv w0, iv 11, iv 0] [(.int w0), (.ref r1), (.int 11), (.ref ar)])) (fun t k => XS.iload X1.here hx rfl (hb hby z20_52) rfl  k) ?_
  obtain ⟨cl2, Ar2, q2, S2, M2, Hs2, G2⟩ := id Vr1
  have hin2 : ¬ (w0 < 0 ∨ cl2.slots.size ≤ (w0).toNatClampNeg) := inb_of S2 (own_in hr0')
  have hat2 : cl2.slots[(w0).toNatClampNeg]? = some (.int (own_dig pv 1)) := Has.at Hs2 hin2 (own_one hv0 (by decide : (0 : Int) < 1) (by decide) hr0')
  refine Go.pull (V := T1.setTop (mkF m 55 #[iv (q0 / (100 : Int32)), iv 12, rv ar, iv (q0 / (100 : Int32)), iv w0, iv 11, iv 0] [(.int (own_dig pv 1)), (.int 11), (.ref ar)])) (fun t k => X1.baloadBytes hx (j := w0) (v := (.int (own_dig pv 1))) (by rw [e1]; exact Ar2.1) (State.isArrayOf_alike hZ.alike Ar2.2.1) Ar2.2.2 hin2 hat2 (g := (mkF m 54 #[iv (q0 / (100 : Int32)), iv 12, rv ar, iv (q0 / (100 : Int32)), iv w0, iv 11, iv 0] [(.int w0), (.ref r1), (.int 11), (.ref ar)])) rfl rfl (hb hby z20_54) _ k) ?_
  obtain ⟨cl3, Ar3, q3, S3, M3, Hs3, G3⟩ := id Va
  have hin3 : ¬ ((11 : Int32) < 0 ∨ cl3.slots.size ≤ ((11 : Int32)).toNatClampNeg) := inb_of S3 ⟨by decide, by decide⟩
  obtain ⟨T4, h4, X4, e4, W4, st4⟩ := stB X1 hx hZ e1 Ar3 (j := (11 : Int32)) hin3 (g := (mkF m 55 #[iv (q0 / (100 : Int32)), iv 12, rv ar, iv (q0 / (100 : Int32)), iv w0, iv 11, iv 0] [(.int (own_dig pv 1)), (.int 11), (.ref ar)])) rfl rfl (hb hby z20_55)
  rw [own_narb (pv := pv) (pc := 1) (c := 1) hv0 (by decide) (by decide)] at W4
  have V4 : Arv Z h4 ar kA .byte (16 : Int32) [(.int 36), (.int 91), (.int 0), (.int 0), (.int 0), (.int 0), (.int 0), (.int 0), (.int 0), (.int 0), (.int 0), (.int (own_dig pv 1)), (.int 0), (.int 0), (.int 0), (.int 0)] (.int 0) := Arv.set Ar3 q3 S3 M3 Hs3 G3 (own_narb (pv := pv) (pc := 1) (c := 1) hv0 (by decide) (by decide) ▸ fits_nar_byte _) W4 11 rfl (Nat.le_of_ble_eq_true rfl)
  have K4 : Keep h0 h4 [ar] := (Keep.refl h0 [ar]).wr W4 (Or.inl (List.mem_of_getElem? (i := 0) rfl))
  have N4 := Fr.snoc X4 N0 g_ar
  refine Go.pull (V := T4.setTop (mkF m 56 #[iv (q0 / (100 : Int32)), iv 12, rv ar, iv (q0 / (100 : Int32)), iv w0, iv 11, iv 0] [])) st4 ?_
  refine Go.pull (V := T4.setTop (mkF m 62 #[iv (q0 / (100 : Int32)), iv 12, rv ar, iv (q0 / (100 : Int32)), iv w0, iv 10, iv 0] [(.int 10), (.ref ar)])) (fun t k => XS.aloadN X4.here hx rfl (hb hby z20_56) rfl rfl (XS.iinc X4.here hx rfl (hb hby z20_57) rfl (l' := #[iv (q0 / (100 : Int32)), iv 12, rv ar, iv (q0 / (100 : Int32)), iv w0, iv 10, iv 0]) rfl (XS.iload X4.here hx rfl (hb hby z20_60) rfl  k))) ?_
  obtain ⟨T5, X5, e5, st5⟩ := getS2 X4 hx hZ hown (host := "") (Or.inl (hw _ (List.mem_of_getElem? (i := 153) rfl))) Via.refl e4 (Sr2.wr W4) (g := (mkF m 62 #[iv (q0 / (100 : Int32)), iv 12, rv ar, iv (q0 / (100 : Int32)), iv w0, iv 10, iv 0] [(.int 10), (.ref ar)])) rfl (hb hby z20_62)
  refine Go.pull (V := T5.setTop (mkF m 65 #[iv (q0 / (100 : Int32)), iv 12, rv ar, iv (q0 / (100 : Int32)), iv w0, iv 10, iv 0] [(.ref r2), (.int 10), (.ref ar)])) st5 ?_
  refine Go.pull (V := T5.setTop (mkF m 67 #[iv (q0 / (100 : Int32)), iv 12, rv ar, iv (q0 / (100 : Int32)), iv w0, iv 10, iv 0] [(.int w0), (.ref r2), (.int 10), (.ref ar)])) (fun t k => XS.iload X5.here hx rfl (hb hby z20_65) rfl  k) ?_
  obtain ⟨cl6, Ar6, q6, S6, M6, Hs6, G6⟩ := id (Vr2.other W4 hr2)
  have hin6 : ¬ (w0 < 0 ∨ cl6.slots.size ≤ (w0).toNatClampNeg) := inb_of S6 (own_in hr0')
  have hat6 : cl6.slots[(w0).toNatClampNeg]? = some (.int (own_dig pv 10)) := Has.at Hs6 hin6 (own_ten hv0 (by decide : (0 : Int) < 1) rfl (by decide) hr0')
  refine Go.pull (V := T5.setTop (mkF m 68 #[iv (q0 / (100 : Int32)), iv 12, rv ar, iv (q0 / (100 : Int32)), iv w0, iv 10, iv 0] [(.int (own_dig pv 10)), (.int 10), (.ref ar)])) (fun t k => X5.baloadBytes hx (j := w0) (v := (.int (own_dig pv 10))) (by rw [e5]; exact Ar6.1) (State.isArrayOf_alike hZ.alike Ar6.2.1) Ar6.2.2 hin6 hat6 (g := (mkF m 67 #[iv (q0 / (100 : Int32)), iv 12, rv ar, iv (q0 / (100 : Int32)), iv w0, iv 10, iv 0] [(.int w0), (.ref r2), (.int 10), (.ref ar)])) rfl rfl (hb hby z20_67) _ k) ?_
  obtain ⟨cl7, Ar7, q7, S7, M7, Hs7, G7⟩ := id V4
  have hin7 : ¬ ((10 : Int32) < 0 ∨ cl7.slots.size ≤ ((10 : Int32)).toNatClampNeg) := inb_of S7 ⟨by decide, by decide⟩
  obtain ⟨T8, h8, X8, e8, W8, st8⟩ := stB X5 hx hZ e5 Ar7 (j := (10 : Int32)) hin7 (g := (mkF m 68 #[iv (q0 / (100 : Int32)), iv 12, rv ar, iv (q0 / (100 : Int32)), iv w0, iv 10, iv 0] [(.int (own_dig pv 10)), (.int 10), (.ref ar)])) rfl rfl (hb hby z20_68)
  rw [own_narb (pv := pv) (pc := 10) (c := 10) hv0 (by decide) (by decide)] at W8
  have V8 : Arv Z h8 ar kA .byte (16 : Int32) [(.int 36), (.int 91), (.int 0), (.int 0), (.int 0), (.int 0), (.int 0), (.int 0), (.int 0), (.int 0), (.int (own_dig pv 10)), (.int (own_dig pv 1)), (.int 0), (.int 0), (.int 0), (.int 0)] (.int 0) := Arv.set Ar7 q7 S7 M7 Hs7 G7 (own_narb (pv := pv) (pc := 10) (c := 10) hv0 (by decide) (by decide) ▸ fits_nar_byte _) W8 10 rfl (Nat.le_of_ble_eq_true rfl)
  have K8 : Keep h0 h8 [ar] := K4.wr W8 (Or.inl (List.mem_of_getElem? (i := 0) rfl))
  have N8 := Fr.snoc X8 N4 g_ar
  refine Go.pull (V := T8.setTop (mkF m 69 #[iv (q0 / (100 : Int32)), iv 12, rv ar, iv (q0 / (100 : Int32)), iv w0, iv 10, iv 0] [])) st8 ?_
  refine Go.pull (V := T8.setTop (mkF m 22 #[iv (q0 / (100 : Int32)), iv 12, rv ar, iv (q0 / (100 : Int32)), iv w0, iv 10, iv 0] [])) (fun t k => XS.goto X8.here hx rfl (pc0 := 69) (pc' := 22) rfl (hb hby z20_69) (by decide) (by decide) k) ?_
  generalize hg1 : (q0 / (100 : Int32)) = q1
  have hq1 : q1.toInt = -(pv.toInt / 100) := hg1 ▸ own_turn (c := 1) hv0 (by decide) rfl hq0
  refine Go.pull (V := T8.setTop (mkF m 31 #[iv q1, iv 12, rv ar, iv q1, iv w0, iv 10, iv 0] [(.int 100), (.int q1)])) (fun t k => XS.iloadN X8.here hx rfl (hb hby z20_22) rfl  (XS.bipush X8.here hx rfl (hb hby z20_23) (XS.icmpNo X8.here hx rfl (hb hby z20_25) rfl (XT.ii_gt_f (own_b25f hv0 (by decide) hq1 (own_lo hlo (by decide)))) (XS.iloadN X8.here hx rfl (hb hby z20_28) rfl  (XS.bipush X8.here hx rfl (hb hby z20_29) k))))) ?_
  refine Go.pull (V := T8.setTop (mkF m 37 #[iv q1, iv 12, rv ar, iv (q1 / (100 : Int32)), iv w0, iv 10, iv 0] [(.int ((q1 / (100 : Int32)) * (100 : Int32)))])) (fun t k => XS.idiv X8.here hx rfl (hb hby z20_31) rfl (by decide) (XS.istoreN X8.here hx rfl (hb hby z20_32) rfl (l' := #[iv q1, iv 12, rv ar, iv (q1 / (100 : Int32)), iv w0, iv 10, iv 0]) rfl (XS.iloadN X8.here hx rfl (hb hby z20_33) rfl  (XS.bipush X8.here hx rfl (hb hby z20_34) (XS.imul X8.here hx rfl (hb hby z20_36) rfl k))))) ?_
  refine Go.pull (V := T8.setTop (mkF m 43 #[iv (q1 / (100 : Int32)), iv 12, rv ar, iv (q1 / (100 : Int32)), iv (((q1 / (100 : Int32)) * (100 : Int32)) - q1), iv 10, iv 0] [])) (fun t k => XS.iloadN X8.here hx rfl (hb hby z20_37) rfl  (XS.isub X8.here hx rfl (hb hby z20_38) rfl (XS.istore X8.here hx rfl (hb hby z20_39) rfl (l' := #[iv q1, iv 12, rv ar, iv (q1 / (100 : Int32)), iv (((q1 / (100 : Int32)) * (100 : Int32)) - q1), iv 10, iv 0]) rfl (XS.iloadN X8.here hx rfl (hb hby z20_41) rfl  (XS.istoreN X8.here hx rfl (hb hby z20_42) rfl (l' := #[iv (q1 / (100 : Int32)), iv 12, rv ar, iv (q1 / (100 : Int32)), iv (((q1 / (100 : Int32)) * (100 : Int32)) - q1), iv 10, iv 0]) rfl k))))) ?_
  generalize hh1 : (((q1 / (100 : Int32)) * (100 : Int32)) - q1) = w1
  have hr1' : w1.toInt = (pv.toInt / 100) % 100 := hh1 ▸ own_rem hv0 (by decide) hq1
  refine Go.pull (V := T8.setTop (mkF m 49 #[iv (q1 / (100 : Int32)), iv 12, rv ar, iv (q1 / (100 : Int32)), iv w1, iv 9, iv 0] [(.int 9), (.ref ar)])) (fun t k => XS.aloadN X8.here hx rfl (hb hby z20_43) rfl rfl (XS.iinc X8.here hx rfl (hb hby z20_44) rfl (l' := #[iv (q1 / (100 : Int32)), iv 12, rv ar, iv (q1 / (100 : Int32)), iv w1, iv 9, iv 0]) rfl (XS.iload X8.here hx rfl (hb hby z20_47) rfl  k))) ?_
  obtain ⟨T9, X9, e9, st9⟩ := getS2 X8 hx hZ hown (host := "") (Or.inl (hw _ (List.mem_of_getElem? (i := 152) rfl))) Via.refl e8 ((Sr1.wr W4).wr W8) (g := (mkF m 49 #[iv (q1 / (100 : Int32)), iv 12, rv ar, iv (q1 / (100 : Int32)), iv w1, iv 9, iv 0] [(.int 9), (.ref ar)])) rfl (hb hby z20_49)
  refine Go.pull (V := T9.setTop (mkF m 52 #[iv (q1 / (100 : Int32)), iv 12, rv ar, iv (q1 / (100 : Int32)), iv w1, iv 9, iv 0] [(.ref r1), (.int 9), (.ref ar)])) st9 ?_
  refine Go.pull (V := T9.setTop (mkF m 54 #[iv (q1 / (100 : Int32)), iv 12, rv ar, iv (q1 / (100 : Int32)), iv w1, iv 9, iv 0] [(.int w1), (.ref r1), (.int 9), (.ref ar)])) (fun t k => XS.iload X9.here hx rfl (hb hby z20_52) rfl  k) ?_
  obtain ⟨cl10, Ar10, q10, S10, M10, Hs10, G10⟩ := id ((Vr1.other W4 hr1).other W8 hr1)
  have hin10 : ¬ (w1 < 0 ∨ cl10.slots.size ≤ (w1).toNatClampNeg) := inb_of S10 (own_in hr1')
  have hat10 : cl10.slots[(w1).toNatClampNeg]? = some (.int (own_dig pv 100)) := Has.at Hs10 hin10 (own_one hv0 (by decide : (0 : Int) < 100) (by decide) hr1')
  refine Go.pull (V := T9.setTop (mkF m 55 #[iv (q1 / (100 : Int32)), iv 12, rv ar, iv (q1 / (100 : Int32)), iv w1, iv 9, iv 0] [(.int (own_dig pv 100)), (.int 9), (.ref ar)])) (fun t k => X9.baloadBytes hx (j := w1) (v := (.int (own_dig pv 100))) (by rw [e9]; exact Ar10.1) (State.isArrayOf_alike hZ.alike Ar10.2.1) Ar10.2.2 hin10 hat10 (g := (mkF m 54 #[iv (q1 / (100 : Int32)), iv 12, rv ar, iv (q1 / (100 : Int32)), iv w1, iv 9, iv 0] [(.int w1), (.ref r1), (.int 9), (.ref ar)])) rfl rfl (hb hby z20_54) _ k) ?_
  obtain ⟨cl11, Ar11, q11, S11, M11, Hs11, G11⟩ := id V8
  have hin11 : ¬ ((9 : Int32) < 0 ∨ cl11.slots.size ≤ ((9 : Int32)).toNatClampNeg) := inb_of S11 ⟨by decide, by decide⟩
  obtain ⟨T12, h12, X12, e12, W12, st12⟩ := stB X9 hx hZ e9 Ar11 (j := (9 : Int32)) hin11 (g := (mkF m 55 #[iv (q1 / (100 : Int32)), iv 12, rv ar, iv (q1 / (100 : Int32)), iv w1, iv 9, iv 0] [(.int (own_dig pv 100)), (.int 9), (.ref ar)])) rfl rfl (hb hby z20_55)
  rw [own_narb (pv := pv) (pc := 100) (c := 100) hv0 (by decide) (by decide)] at W12
  have V12 : Arv Z h12 ar kA .byte (16 : Int32) [(.int 36), (.int 91), (.int 0), (.int 0), (.int 0), (.int 0), (.int 0), (.int 0), (.int 0), (.int (own_dig pv 100)), (.int (own_dig pv 10)), (.int (own_dig pv 1)), (.int 0), (.int 0), (.int 0), (.int 0)] (.int 0) := Arv.set Ar11 q11 S11 M11 Hs11 G11 (own_narb (pv := pv) (pc := 100) (c := 100) hv0 (by decide) (by decide) ▸ fits_nar_byte _) W12 9 rfl (Nat.le_of_ble_eq_true rfl)
  have K12 : Keep h0 h12 [ar] := K8.wr W12 (Or.inl (List.mem_of_getElem? (i := 0) rfl))
  have N12 := Fr.snoc X12 N8 g_ar
  refine Go.pull (V := T12.setTop (mkF m 56 #[iv (q1 / (100 : Int32)), iv 12, rv ar, iv (q1 / (100 : Int32)), iv w1, iv 9, iv 0] [])) st12 ?_
  refine Go.pull (V := T12.setTop (mkF m 62 #[iv (q1 / (100 : Int32)), iv 12, rv ar, iv (q1 / (100 : Int32)), iv w1, iv 8, iv 0] [(.int 8), (.ref ar)])) (fun t k => XS.aloadN X12.here hx rfl (hb hby z20_56) rfl rfl (XS.iinc X12.here hx rfl (hb hby z20_57) rfl (l' := #[iv (q1 / (100 : Int32)), iv 12, rv ar, iv (q1 / (100 : Int32)), iv w1, iv 8, iv 0]) rfl (XS.iload X12.here hx rfl (hb hby z20_60) rfl  k))) ?_
  obtain ⟨T13, X13, e13, st13⟩ := getS2 X12 hx hZ hown (host := "") (Or.inl (hw _ (List.mem_of_getElem? (i := 153) rfl))) Via.refl e12 (((Sr2.wr W4).wr W8).wr W12) (g := (mkF m 62 #[iv (q1 / (100 : Int32)), iv 12, rv ar, iv (q1 / (100 : Int32)), iv w1, iv 8, iv 0] [(.int 8), (.ref ar)])) rfl (hb hby z20_62)
  refine Go.pull (V := T13.setTop (mkF m 65 #[iv (q1 / (100 : Int32)), iv 12, rv ar, iv (q1 / (100 : Int32)), iv w1, iv 8, iv 0] [(.ref r2), (.int 8), (.ref ar)])) st13 ?_
  refine Go.pull (V := T13.setTop (mkF m 67 #[iv (q1 / (100 : Int32)), iv 12, rv ar, iv (q1 / (100 : Int32)), iv w1, iv 8, iv 0] [(.int w1), (.ref r2), (.int 8), (.ref ar)])) (fun t k => XS.iload X13.here hx rfl (hb hby z20_65) rfl  k) ?_
  obtain ⟨cl14, Ar14, q14, S14, M14, Hs14, G14⟩ := id (((Vr2.other W4 hr2).other W8 hr2).other W12 hr2)
  have hin14 : ¬ (w1 < 0 ∨ cl14.slots.size ≤ (w1).toNatClampNeg) := inb_of S14 (own_in hr1')
  have hat14 : cl14.slots[(w1).toNatClampNeg]? = some (.int (own_dig pv 1000)) := Has.at Hs14 hin14 (own_ten hv0 (by decide : (0 : Int) < 100) rfl (by decide) hr1')
  refine Go.pull (V := T13.setTop (mkF m 68 #[iv (q1 / (100 : Int32)), iv 12, rv ar, iv (q1 / (100 : Int32)), iv w1, iv 8, iv 0] [(.int (own_dig pv 1000)), (.int 8), (.ref ar)])) (fun t k => X13.baloadBytes hx (j := w1) (v := (.int (own_dig pv 1000))) (by rw [e13]; exact Ar14.1) (State.isArrayOf_alike hZ.alike Ar14.2.1) Ar14.2.2 hin14 hat14 (g := (mkF m 67 #[iv (q1 / (100 : Int32)), iv 12, rv ar, iv (q1 / (100 : Int32)), iv w1, iv 8, iv 0] [(.int w1), (.ref r2), (.int 8), (.ref ar)])) rfl rfl (hb hby z20_67) _ k) ?_
  obtain ⟨cl15, Ar15, q15, S15, M15, Hs15, G15⟩ := id V12
  have hin15 : ¬ ((8 : Int32) < 0 ∨ cl15.slots.size ≤ ((8 : Int32)).toNatClampNeg) := inb_of S15 ⟨by decide, by decide⟩
  obtain ⟨T16, h16, X16, e16, W16, st16⟩ := stB X13 hx hZ e13 Ar15 (j := (8 : Int32)) hin15 (g := (mkF m 68 #[iv (q1 / (100 : Int32)), iv 12, rv ar, iv (q1 / (100 : Int32)), iv w1, iv 8, iv 0] [(.int (own_dig pv 1000)), (.int 8), (.ref ar)])) rfl rfl (hb hby z20_68)
  rw [own_narb (pv := pv) (pc := 1000) (c := 1000) hv0 (by decide) (by decide)] at W16
  have V16 : Arv Z h16 ar kA .byte (16 : Int32) [(.int 36), (.int 91), (.int 0), (.int 0), (.int 0), (.int 0), (.int 0), (.int 0), (.int (own_dig pv 1000)), (.int (own_dig pv 100)), (.int (own_dig pv 10)), (.int (own_dig pv 1)), (.int 0), (.int 0), (.int 0), (.int 0)] (.int 0) := Arv.set Ar15 q15 S15 M15 Hs15 G15 (own_narb (pv := pv) (pc := 1000) (c := 1000) hv0 (by decide) (by decide) ▸ fits_nar_byte _) W16 8 rfl (Nat.le_of_ble_eq_true rfl)
  have K16 : Keep h0 h16 [ar] := K12.wr W16 (Or.inl (List.mem_of_getElem? (i := 0) rfl))
  have N16 := Fr.snoc X16 N12 g_ar
  refine Go.pull (V := T16.setTop (mkF m 69 #[iv (q1 / (100 : Int32)), iv 12, rv ar, iv (q1 / (100 : Int32)), iv w1, iv 8, iv 0] [])) st16 ?_
  refine Go.pull (V := T16.setTop (mkF m 22 #[iv (q1 / (100 : Int32)), iv 12, rv ar, iv (q1 / (100 : Int32)), iv w1, iv 8, iv 0] [])) (fun t k => XS.goto X16.here hx rfl (pc0 := 69) (pc' := 22) rfl (hb hby z20_69) (by decide) (by decide) k) ?_
  generalize hg2 : (q1 / (100 : Int32)) = q2
  have hq2 : q2.toInt = -(pv.toInt / 10000) := hg2 ▸ own_turn (c := 100) hv0 (by decide) rfl hq1
  refine Go.pull (V := T16.setTop (mkF m 31 #[iv q2, iv 12, rv ar, iv q2, iv w1, iv 8, iv 0] [(.int 100), (.int q2)])) (fun t k => XS.iloadN X16.here hx rfl (hb hby z20_22) rfl  (XS.bipush X16.here hx rfl (hb hby z20_23) (XS.icmpNo X16.here hx rfl (hb hby z20_25) rfl (XT.ii_gt_f (own_b25f hv0 (by decide) hq2 (own_lo hlo (by decide)))) (XS.iloadN X16.here hx rfl (hb hby z20_28) rfl  (XS.bipush X16.here hx rfl (hb hby z20_29) k))))) ?_
  refine Go.pull (V := T16.setTop (mkF m 37 #[iv q2, iv 12, rv ar, iv (q2 / (100 : Int32)), iv w1, iv 8, iv 0] [(.int ((q2 / (100 : Int32)) * (100 : Int32)))])) (fun t k => XS.idiv X16.here hx rfl (hb hby z20_31) rfl (by decide) (XS.istoreN X16.here hx rfl (hb hby z20_32) rfl (l' := #[iv q2, iv 12, rv ar, iv (q2 / (100 : Int32)), iv w1, iv 8, iv 0]) rfl (XS.iloadN X16.here hx rfl (hb hby z20_33) rfl  (XS.bipush X16.here hx rfl (hb hby z20_34) (XS.imul X16.here hx rfl (hb hby z20_36) rfl k))))) ?_
  refine Go.pull (V := T16.setTop (mkF m 43 #[iv (q2 / (100 : Int32)), iv 12, rv ar, iv (q2 / (100 : Int32)), iv (((q2 / (100 : Int32)) * (100 : Int32)) - q2), iv 8, iv 0] [])) (fun t k => XS.iloadN X16.here hx rfl (hb hby z20_37) rfl  (XS.isub X16.here hx rfl (hb hby z20_38) rfl (XS.istore X16.here hx rfl (hb hby z20_39) rfl (l' := #[iv q2, iv 12, rv ar, iv (q2 / (100 : Int32)), iv (((q2 / (100 : Int32)) * (100 : Int32)) - q2), iv 8, iv 0]) rfl (XS.iloadN X16.here hx rfl (hb hby z20_41) rfl  (XS.istoreN X16.here hx rfl (hb hby z20_42) rfl (l' := #[iv (q2 / (100 : Int32)), iv 12, rv ar, iv (q2 / (100 : Int32)), iv (((q2 / (100 : Int32)) * (100 : Int32)) - q2), iv 8, iv 0]) rfl k))))) ?_
  generalize hh2 : (((q2 / (100 : Int32)) * (100 : Int32)) - q2) = w2
  have hr2' : w2.toInt = (pv.toInt / 10000) % 100 := hh2 ▸ own_rem hv0 (by decide) hq2
  refine Go.pull (V := T16.setTop (mkF m 49 #[iv (q2 / (100 : Int32)), iv 12, rv ar, iv (q2 / (100 : Int32)), iv w2, iv 7, iv 0] [(.int 7), (.ref ar)])) (fun t k => XS.aloadN X16.here hx rfl (hb hby z20_43) rfl rfl (XS.iinc X16.here hx rfl (hb hby z20_44) rfl (l' := #[iv (q2 / (100 : Int32)), iv 12, rv ar, iv (q2 / (100 : Int32)), iv w2, iv 7, iv 0]) rfl (XS.iload X16.here hx rfl (hb hby z20_47) rfl  k))) ?_
  obtain ⟨T17, X17, e17, st17⟩ := getS2 X16 hx hZ hown (host := "") (Or.inl (hw _ (List.mem_of_getElem? (i := 152) rfl))) Via.refl e16 ((((Sr1.wr W4).wr W8).wr W12).wr W16) (g := (mkF m 49 #[iv (q2 / (100 : Int32)), iv 12, rv ar, iv (q2 / (100 : Int32)), iv w2, iv 7, iv 0] [(.int 7), (.ref ar)])) rfl (hb hby z20_49)
  refine Go.pull (V := T17.setTop (mkF m 52 #[iv (q2 / (100 : Int32)), iv 12, rv ar, iv (q2 / (100 : Int32)), iv w2, iv 7, iv 0] [(.ref r1), (.int 7), (.ref ar)])) st17 ?_
  refine Go.pull (V := T17.setTop (mkF m 54 #[iv (q2 / (100 : Int32)), iv 12, rv ar, iv (q2 / (100 : Int32)), iv w2, iv 7, iv 0] [(.int w2), (.ref r1), (.int 7), (.ref ar)])) (fun t k => XS.iload X17.here hx rfl (hb hby z20_52) rfl  k) ?_
  obtain ⟨cl18, Ar18, q18, S18, M18, Hs18, G18⟩ := id ((((Vr1.other W4 hr1).other W8 hr1).other W12 hr1).other W16 hr1)
  have hin18 : ¬ (w2 < 0 ∨ cl18.slots.size ≤ (w2).toNatClampNeg) := inb_of S18 (own_in hr2')
  have hat18 : cl18.slots[(w2).toNatClampNeg]? = some (.int (own_dig pv 10000)) := Has.at Hs18 hin18 (own_one hv0 (by decide : (0 : Int) < 10000) (by decide) hr2')
  refine Go.pull (V := T17.setTop (mkF m 55 #[iv (q2 / (100 : Int32)), iv 12, rv ar, iv (q2 / (100 : Int32)), iv w2, iv 7, iv 0] [(.int (own_dig pv 10000)), (.int 7), (.ref ar)])) (fun t k => X17.baloadBytes hx (j := w2) (v := (.int (own_dig pv 10000))) (by rw [e17]; exact Ar18.1) (State.isArrayOf_alike hZ.alike Ar18.2.1) Ar18.2.2 hin18 hat18 (g := (mkF m 54 #[iv (q2 / (100 : Int32)), iv 12, rv ar, iv (q2 / (100 : Int32)), iv w2, iv 7, iv 0] [(.int w2), (.ref r1), (.int 7), (.ref ar)])) rfl rfl (hb hby z20_54) _ k) ?_
  obtain ⟨cl19, Ar19, q19, S19, M19, Hs19, G19⟩ := id V16
  have hin19 : ¬ ((7 : Int32) < 0 ∨ cl19.slots.size ≤ ((7 : Int32)).toNatClampNeg) := inb_of S19 ⟨by decide, by decide⟩
  obtain ⟨T20, h20, X20, e20, W20, st20⟩ := stB X17 hx hZ e17 Ar19 (j := (7 : Int32)) hin19 (g := (mkF m 55 #[iv (q2 / (100 : Int32)), iv 12, rv ar, iv (q2 / (100 : Int32)), iv w2, iv 7, iv 0] [(.int (own_dig pv 10000)), (.int 7), (.ref ar)])) rfl rfl (hb hby z20_55)
  rw [own_narb (pv := pv) (pc := 10000) (c := 10000) hv0 (by decide) (by decide)] at W20
  have V20 : Arv Z h20 ar kA .byte (16 : Int32) [(.int 36), (.int 91), (.int 0), (.int 0), (.int 0), (.int 0), (.int 0), (.int (own_dig pv 10000)), (.int (own_dig pv 1000)), (.int (own_dig pv 100)), (.int (own_dig pv 10)), (.int (own_dig pv 1)), (.int 0), (.int 0), (.int 0), (.int 0)] (.int 0) := Arv.set Ar19 q19 S19 M19 Hs19 G19 (own_narb (pv := pv) (pc := 10000) (c := 10000) hv0 (by decide) (by decide) ▸ fits_nar_byte _) W20 7 rfl (Nat.le_of_ble_eq_true rfl)
  have K20 : Keep h0 h20 [ar] := K16.wr W20 (Or.inl (List.mem_of_getElem? (i := 0) rfl))
  have N20 := Fr.snoc X20 N16 g_ar
  refine Go.pull (V := T20.setTop (mkF m 56 #[iv (q2 / (100 : Int32)), iv 12, rv ar, iv (q2 / (100 : Int32)), iv w2, iv 7, iv 0] [])) st20 ?_
  refine Go.pull (V := T20.setTop (mkF m 62 #[iv (q2 / (100 : Int32)), iv 12, rv ar, iv (q2 / (100 : Int32)), iv w2, iv 6, iv 0] [(.int 6), (.ref ar)])) (fun t k => XS.aloadN X20.here hx rfl (hb hby z20_56) rfl rfl (XS.iinc X20.here hx rfl (hb hby z20_57) rfl (l' := #[iv (q2 / (100 : Int32)), iv 12, rv ar, iv (q2 / (100 : Int32)), iv w2, iv 6, iv 0]) rfl (XS.iload X20.here hx rfl (hb hby z20_60) rfl  k))) ?_
  obtain ⟨T21, X21, e21, st21⟩ := getS2 X20 hx hZ hown (host := "") (Or.inl (hw _ (List.mem_of_getElem? (i := 153) rfl))) Via.refl e20 (((((Sr2.wr W4).wr W8).wr W12).wr W16).wr W20) (g := (mkF m 62 #[iv (q2 / (100 : Int32)), iv 12, rv ar, iv (q2 / (100 : Int32)), iv w2, iv 6, iv 0] [(.int 6), (.ref ar)])) rfl (hb hby z20_62)
  refine Go.pull (V := T21.setTop (mkF m 65 #[iv (q2 / (100 : Int32)), iv 12, rv ar, iv (q2 / (100 : Int32)), iv w2, iv 6, iv 0] [(.ref r2), (.int 6), (.ref ar)])) st21 ?_
  refine Go.pull (V := T21.setTop (mkF m 67 #[iv (q2 / (100 : Int32)), iv 12, rv ar, iv (q2 / (100 : Int32)), iv w2, iv 6, iv 0] [(.int w2), (.ref r2), (.int 6), (.ref ar)])) (fun t k => XS.iload X21.here hx rfl (hb hby z20_65) rfl  k) ?_
  obtain ⟨cl22, Ar22, q22, S22, M22, Hs22, G22⟩ := id (((((Vr2.other W4 hr2).other W8 hr2).other W12 hr2).other W16 hr2).other W20 hr2)
  have hin22 : ¬ (w2 < 0 ∨ cl22.slots.size ≤ (w2).toNatClampNeg) := inb_of S22 (own_in hr2')
  have hat22 : cl22.slots[(w2).toNatClampNeg]? = some (.int (own_dig pv 100000)) := Has.at Hs22 hin22 (own_ten hv0 (by decide : (0 : Int) < 10000) rfl (by decide) hr2')
  refine Go.pull (V := T21.setTop (mkF m 68 #[iv (q2 / (100 : Int32)), iv 12, rv ar, iv (q2 / (100 : Int32)), iv w2, iv 6, iv 0] [(.int (own_dig pv 100000)), (.int 6), (.ref ar)])) (fun t k => X21.baloadBytes hx (j := w2) (v := (.int (own_dig pv 100000))) (by rw [e21]; exact Ar22.1) (State.isArrayOf_alike hZ.alike Ar22.2.1) Ar22.2.2 hin22 hat22 (g := (mkF m 67 #[iv (q2 / (100 : Int32)), iv 12, rv ar, iv (q2 / (100 : Int32)), iv w2, iv 6, iv 0] [(.int w2), (.ref r2), (.int 6), (.ref ar)])) rfl rfl (hb hby z20_67) _ k) ?_
  obtain ⟨cl23, Ar23, q23, S23, M23, Hs23, G23⟩ := id V20
  have hin23 : ¬ ((6 : Int32) < 0 ∨ cl23.slots.size ≤ ((6 : Int32)).toNatClampNeg) := inb_of S23 ⟨by decide, by decide⟩
  obtain ⟨T24, h24, X24, e24, W24, st24⟩ := stB X21 hx hZ e21 Ar23 (j := (6 : Int32)) hin23 (g := (mkF m 68 #[iv (q2 / (100 : Int32)), iv 12, rv ar, iv (q2 / (100 : Int32)), iv w2, iv 6, iv 0] [(.int (own_dig pv 100000)), (.int 6), (.ref ar)])) rfl rfl (hb hby z20_68)
  rw [own_narb (pv := pv) (pc := 100000) (c := 100000) hv0 (by decide) (by decide)] at W24
  have V24 : Arv Z h24 ar kA .byte (16 : Int32) [(.int 36), (.int 91), (.int 0), (.int 0), (.int 0), (.int 0), (.int (own_dig pv 100000)), (.int (own_dig pv 10000)), (.int (own_dig pv 1000)), (.int (own_dig pv 100)), (.int (own_dig pv 10)), (.int (own_dig pv 1)), (.int 0), (.int 0), (.int 0), (.int 0)] (.int 0) := Arv.set Ar23 q23 S23 M23 Hs23 G23 (own_narb (pv := pv) (pc := 100000) (c := 100000) hv0 (by decide) (by decide) ▸ fits_nar_byte _) W24 6 rfl (Nat.le_of_ble_eq_true rfl)
  have K24 : Keep h0 h24 [ar] := K20.wr W24 (Or.inl (List.mem_of_getElem? (i := 0) rfl))
  have N24 := Fr.snoc X24 N20 g_ar
  refine Go.pull (V := T24.setTop (mkF m 69 #[iv (q2 / (100 : Int32)), iv 12, rv ar, iv (q2 / (100 : Int32)), iv w2, iv 6, iv 0] [])) st24 ?_
  refine Go.pull (V := T24.setTop (mkF m 22 #[iv (q2 / (100 : Int32)), iv 12, rv ar, iv (q2 / (100 : Int32)), iv w2, iv 6, iv 0] [])) (fun t k => XS.goto X24.here hx rfl (pc0 := 69) (pc' := 22) rfl (hb hby z20_69) (by decide) (by decide) k) ?_
  generalize hg3 : (q2 / (100 : Int32)) = q3
  have hq3 : q3.toInt = -(pv.toInt / 1000000) := hg3 ▸ own_turn (c := 10000) hv0 (by decide) rfl hq2
  refine Go.pull (V := T24.setTop (mkF m 31 #[iv q3, iv 12, rv ar, iv q3, iv w2, iv 6, iv 0] [(.int 100), (.int q3)])) (fun t k => XS.iloadN X24.here hx rfl (hb hby z20_22) rfl  (XS.bipush X24.here hx rfl (hb hby z20_23) (XS.icmpNo X24.here hx rfl (hb hby z20_25) rfl (XT.ii_gt_f (own_b25f hv0 (by decide) hq3 (own_lo hlo (by decide)))) (XS.iloadN X24.here hx rfl (hb hby z20_28) rfl  (XS.bipush X24.here hx rfl (hb hby z20_29) k))))) ?_
  refine Go.pull (V := T24.setTop (mkF m 37 #[iv q3, iv 12, rv ar, iv (q3 / (100 : Int32)), iv w2, iv 6, iv 0] [(.int ((q3 / (100 : Int32)) * (100 : Int32)))])) (fun t k => XS.idiv X24.here hx rfl (hb hby z20_31) rfl (by decide) (XS.istoreN X24.here hx rfl (hb hby z20_32) rfl (l' := #[iv q3, iv 12, rv ar, iv (q3 / (100 : Int32)), iv w2, iv 6, iv 0]) rfl (XS.iloadN X24.here hx rfl (hb hby z20_33) rfl  (XS.bipush X24.here hx rfl (hb hby z20_34) (XS.imul X24.here hx rfl (hb hby z20_36) rfl k))))) ?_
  refine Go.pull (V := T24.setTop (mkF m 43 #[iv (q3 / (100 : Int32)), iv 12, rv ar, iv (q3 / (100 : Int32)), iv (((q3 / (100 : Int32)) * (100 : Int32)) - q3), iv 6, iv 0] [])) (fun t k => XS.iloadN X24.here hx rfl (hb hby z20_37) rfl  (XS.isub X24.here hx rfl (hb hby z20_38) rfl (XS.istore X24.here hx rfl (hb hby z20_39) rfl (l' := #[iv q3, iv 12, rv ar, iv (q3 / (100 : Int32)), iv (((q3 / (100 : Int32)) * (100 : Int32)) - q3), iv 6, iv 0]) rfl (XS.iloadN X24.here hx rfl (hb hby z20_41) rfl  (XS.istoreN X24.here hx rfl (hb hby z20_42) rfl (l' := #[iv (q3 / (100 : Int32)), iv 12, rv ar, iv (q3 / (100 : Int32)), iv (((q3 / (100 : Int32)) * (100 : Int32)) - q3), iv 6, iv 0]) rfl k))))) ?_
  generalize hh3 : (((q3 / (100 : Int32)) * (100 : Int32)) - q3) = w3
  have hr3' : w3.toInt = (pv.toInt / 1000000) % 100 := hh3 ▸ own_rem hv0 (by decide) hq3
  refine Go.pull (V := T24.setTop (mkF m 49 #[iv (q3 / (100 : Int32)), iv 12, rv ar, iv (q3 / (100 : Int32)), iv w3, iv 5, iv 0] [(.int 5), (.ref ar)])) (fun t k => XS.aloadN X24.here hx rfl (hb hby z20_43) rfl rfl (XS.iinc X24.here hx rfl (hb hby z20_44) rfl (l' := #[iv (q3 / (100 : Int32)), iv 12, rv ar, iv (q3 / (100 : Int32)), iv w3, iv 5, iv 0]) rfl (XS.iload X24.here hx rfl (hb hby z20_47) rfl  k))) ?_
  obtain ⟨T25, X25, e25, st25⟩ := getS2 X24 hx hZ hown (host := "") (Or.inl (hw _ (List.mem_of_getElem? (i := 152) rfl))) Via.refl e24 ((((((Sr1.wr W4).wr W8).wr W12).wr W16).wr W20).wr W24) (g := (mkF m 49 #[iv (q3 / (100 : Int32)), iv 12, rv ar, iv (q3 / (100 : Int32)), iv w3, iv 5, iv 0] [(.int 5), (.ref ar)])) rfl (hb hby z20_49)
  refine Go.pull (V := T25.setTop (mkF m 52 #[iv (q3 / (100 : Int32)), iv 12, rv ar, iv (q3 / (100 : Int32)), iv w3, iv 5, iv 0] [(.ref r1), (.int 5), (.ref ar)])) st25 ?_
  refine Go.pull (V := T25.setTop (mkF m 54 #[iv (q3 / (100 : Int32)), iv 12, rv ar, iv (q3 / (100 : Int32)), iv w3, iv 5, iv 0] [(.int w3), (.ref r1), (.int 5), (.ref ar)])) (fun t k => XS.iload X25.here hx rfl (hb hby z20_52) rfl  k) ?_
  obtain ⟨cl26, Ar26, q26, S26, M26, Hs26, G26⟩ := id ((((((Vr1.other W4 hr1).other W8 hr1).other W12 hr1).other W16 hr1).other W20 hr1).other W24 hr1)
  have hin26 : ¬ (w3 < 0 ∨ cl26.slots.size ≤ (w3).toNatClampNeg) := inb_of S26 (own_in hr3')
  have hat26 : cl26.slots[(w3).toNatClampNeg]? = some (.int (own_dig pv 1000000)) := Has.at Hs26 hin26 (own_one hv0 (by decide : (0 : Int) < 1000000) (by decide) hr3')
  refine Go.pull (V := T25.setTop (mkF m 55 #[iv (q3 / (100 : Int32)), iv 12, rv ar, iv (q3 / (100 : Int32)), iv w3, iv 5, iv 0] [(.int (own_dig pv 1000000)), (.int 5), (.ref ar)])) (fun t k => X25.baloadBytes hx (j := w3) (v := (.int (own_dig pv 1000000))) (by rw [e25]; exact Ar26.1) (State.isArrayOf_alike hZ.alike Ar26.2.1) Ar26.2.2 hin26 hat26 (g := (mkF m 54 #[iv (q3 / (100 : Int32)), iv 12, rv ar, iv (q3 / (100 : Int32)), iv w3, iv 5, iv 0] [(.int w3), (.ref r1), (.int 5), (.ref ar)])) rfl rfl (hb hby z20_54) _ k) ?_
  obtain ⟨cl27, Ar27, q27, S27, M27, Hs27, G27⟩ := id V24
  have hin27 : ¬ ((5 : Int32) < 0 ∨ cl27.slots.size ≤ ((5 : Int32)).toNatClampNeg) := inb_of S27 ⟨by decide, by decide⟩
  obtain ⟨T28, h28, X28, e28, W28, st28⟩ := stB X25 hx hZ e25 Ar27 (j := (5 : Int32)) hin27 (g := (mkF m 55 #[iv (q3 / (100 : Int32)), iv 12, rv ar, iv (q3 / (100 : Int32)), iv w3, iv 5, iv 0] [(.int (own_dig pv 1000000)), (.int 5), (.ref ar)])) rfl rfl (hb hby z20_55)
  rw [own_narb (pv := pv) (pc := 1000000) (c := 1000000) hv0 (by decide) (by decide)] at W28
  have V28 : Arv Z h28 ar kA .byte (16 : Int32) [(.int 36), (.int 91), (.int 0), (.int 0), (.int 0), (.int (own_dig pv 1000000)), (.int (own_dig pv 100000)), (.int (own_dig pv 10000)), (.int (own_dig pv 1000)), (.int (own_dig pv 100)), (.int (own_dig pv 10)), (.int (own_dig pv 1)), (.int 0), (.int 0), (.int 0), (.int 0)] (.int 0) := Arv.set Ar27 q27 S27 M27 Hs27 G27 (own_narb (pv := pv) (pc := 1000000) (c := 1000000) hv0 (by decide) (by decide) ▸ fits_nar_byte _) W28 5 rfl (Nat.le_of_ble_eq_true rfl)
  have K28 : Keep h0 h28 [ar] := K24.wr W28 (Or.inl (List.mem_of_getElem? (i := 0) rfl))
  have N28 := Fr.snoc X28 N24 g_ar
  refine Go.pull (V := T28.setTop (mkF m 56 #[iv (q3 / (100 : Int32)), iv 12, rv ar, iv (q3 / (100 : Int32)), iv w3, iv 5, iv 0] [])) st28 ?_
  refine Go.pull (V := T28.setTop (mkF m 62 #[iv (q3 / (100 : Int32)), iv 12, rv ar, iv (q3 / (100 : Int32)), iv w3, iv 4, iv 0] [(.int 4), (.ref ar)])) (fun t k => XS.aloadN X28.here hx rfl (hb hby z20_56) rfl rfl (XS.iinc X28.here hx rfl (hb hby z20_57) rfl (l' := #[iv (q3 / (100 : Int32)), iv 12, rv ar, iv (q3 / (100 : Int32)), iv w3, iv 4, iv 0]) rfl (XS.iload X28.here hx rfl (hb hby z20_60) rfl  k))) ?_
  obtain ⟨T29, X29, e29, st29⟩ := getS2 X28 hx hZ hown (host := "") (Or.inl (hw _ (List.mem_of_getElem? (i := 153) rfl))) Via.refl e28 (((((((Sr2.wr W4).wr W8).wr W12).wr W16).wr W20).wr W24).wr W28) (g := (mkF m 62 #[iv (q3 / (100 : Int32)), iv 12, rv ar, iv (q3 / (100 : Int32)), iv w3, iv 4, iv 0] [(.int 4), (.ref ar)])) rfl (hb hby z20_62)
  refine Go.pull (V := T29.setTop (mkF m 65 #[iv (q3 / (100 : Int32)), iv 12, rv ar, iv (q3 / (100 : Int32)), iv w3, iv 4, iv 0] [(.ref r2), (.int 4), (.ref ar)])) st29 ?_
  refine Go.pull (V := T29.setTop (mkF m 67 #[iv (q3 / (100 : Int32)), iv 12, rv ar, iv (q3 / (100 : Int32)), iv w3, iv 4, iv 0] [(.int w3), (.ref r2), (.int 4), (.ref ar)])) (fun t k => XS.iload X29.here hx rfl (hb hby z20_65) rfl  k) ?_
  obtain ⟨cl30, Ar30, q30, S30, M30, Hs30, G30⟩ := id (((((((Vr2.other W4 hr2).other W8 hr2).other W12 hr2).other W16 hr2).other W20 hr2).other W24 hr2).other W28 hr2)
  have hin30 : ¬ (w3 < 0 ∨ cl30.slots.size ≤ (w3).toNatClampNeg) := inb_of S30 (own_in hr3')
  have hat30 : cl30.slots[(w3).toNatClampNeg]? = some (.int (own_dig pv 10000000)) := Has.at Hs30 hin30 (own_ten hv0 (by decide : (0 : Int) < 1000000) rfl (by decide) hr3')
  refine Go.pull (V := T29.setTop (mkF m 68 #[iv (q3 / (100 : Int32)), iv 12, rv ar, iv (q3 / (100 : Int32)), iv w3, iv 4, iv 0] [(.int (own_dig pv 10000000)), (.int 4), (.ref ar)])) (fun t k => X29.baloadBytes hx (j := w3) (v := (.int (own_dig pv 10000000))) (by rw [e29]; exact Ar30.1) (State.isArrayOf_alike hZ.alike Ar30.2.1) Ar30.2.2 hin30 hat30 (g := (mkF m 67 #[iv (q3 / (100 : Int32)), iv 12, rv ar, iv (q3 / (100 : Int32)), iv w3, iv 4, iv 0] [(.int w3), (.ref r2), (.int 4), (.ref ar)])) rfl rfl (hb hby z20_67) _ k) ?_
  obtain ⟨cl31, Ar31, q31, S31, M31, Hs31, G31⟩ := id V28
  have hin31 : ¬ ((4 : Int32) < 0 ∨ cl31.slots.size ≤ ((4 : Int32)).toNatClampNeg) := inb_of S31 ⟨by decide, by decide⟩
  obtain ⟨T32, h32, X32, e32, W32, st32⟩ := stB X29 hx hZ e29 Ar31 (j := (4 : Int32)) hin31 (g := (mkF m 68 #[iv (q3 / (100 : Int32)), iv 12, rv ar, iv (q3 / (100 : Int32)), iv w3, iv 4, iv 0] [(.int (own_dig pv 10000000)), (.int 4), (.ref ar)])) rfl rfl (hb hby z20_68)
  rw [own_narb (pv := pv) (pc := 10000000) (c := 10000000) hv0 (by decide) (by decide)] at W32
  have V32 : Arv Z h32 ar kA .byte (16 : Int32) [(.int 36), (.int 91), (.int 0), (.int 0), (.int (own_dig pv 10000000)), (.int (own_dig pv 1000000)), (.int (own_dig pv 100000)), (.int (own_dig pv 10000)), (.int (own_dig pv 1000)), (.int (own_dig pv 100)), (.int (own_dig pv 10)), (.int (own_dig pv 1)), (.int 0), (.int 0), (.int 0), (.int 0)] (.int 0) := Arv.set Ar31 q31 S31 M31 Hs31 G31 (own_narb (pv := pv) (pc := 10000000) (c := 10000000) hv0 (by decide) (by decide) ▸ fits_nar_byte _) W32 4 rfl (Nat.le_of_ble_eq_true rfl)
  have K32 : Keep h0 h32 [ar] := K28.wr W32 (Or.inl (List.mem_of_getElem? (i := 0) rfl))
  have N32 := Fr.snoc X32 N28 g_ar
  refine Go.pull (V := T32.setTop (mkF m 69 #[iv (q3 / (100 : Int32)), iv 12, rv ar, iv (q3 / (100 : Int32)), iv w3, iv 4, iv 0] [])) st32 ?_
  refine Go.pull (V := T32.setTop (mkF m 22 #[iv (q3 / (100 : Int32)), iv 12, rv ar, iv (q3 / (100 : Int32)), iv w3, iv 4, iv 0] [])) (fun t k => XS.goto X32.here hx rfl (pc0 := 69) (pc' := 22) rfl (hb hby z20_69) (by decide) (by decide) k) ?_
  generalize hg4 : (q3 / (100 : Int32)) = q4
  have hq4 : q4.toInt = -(pv.toInt / 100000000) := hg4 ▸ own_turn (c := 1000000) hv0 (by decide) rfl hq3
  refine Go.pull (V := T32.setTop (mkF m 76 #[iv q4, iv 12, rv ar, iv q4, iv w3, iv 3, iv 0] [(.ref ar)])) (fun t k => XS.iloadN X32.here hx rfl (hb hby z20_22) rfl  (XS.bipush X32.here hx rfl (hb hby z20_23) (XS.icmpYes X32.here hx rfl (pc0 := 25) (pc' := 72) rfl (hb hby z20_25) rfl (XT.ii_gt_t (own_b25t hq4 (by have := own_nn hv0; have := pv.toInt_lt; omega))) (by decide) (by decide) (XS.aloadN X32.here hx rfl (hb hby z20_72) rfl rfl (XS.iinc X32.here hx rfl (hb hby z20_73) rfl (l' := #[iv q4, iv 12, rv ar, iv q4, iv w3, iv 3, iv 0]) rfl k))))) ?_
  refine Go.pull (V := T32.setTop (mkF m 78 #[iv q4, iv 12, rv ar, iv q4, iv w3, iv 3, iv 0] [(.int 3), (.ref ar)])) (fun t k => XS.iload X32.here hx rfl (hb hby z20_76) rfl  k) ?_
  obtain ⟨T33, X33, e33, st33⟩ := getS2 X32 hx hZ hown (host := "") (Or.inl (hw _ (List.mem_of_getElem? (i := 152) rfl))) Via.refl e32 ((((((((Sr1.wr W4).wr W8).wr W12).wr W16).wr W20).wr W24).wr W28).wr W32) (g := (mkF m 78 #[iv q4, iv 12, rv ar, iv q4, iv w3, iv 3, iv 0] [(.int 3), (.ref ar)])) rfl (hb hby z20_78)
  refine Go.pull (V := T33.setTop (mkF m 81 #[iv q4, iv 12, rv ar, iv q4, iv w3, iv 3, iv 0] [(.ref r1), (.int 3), (.ref ar)])) st33 ?_
  refine Go.pull (V := T33.setTop (mkF m 83 #[iv q4, iv 12, rv ar, iv q4, iv w3, iv 3, iv 0] [(.int (-q4)), (.ref r1), (.int 3), (.ref ar)])) (fun t k => XS.iloadN X33.here hx rfl (hb hby z20_81) rfl  (XS.ineg X33.here hx rfl (hb hby z20_82) rfl k)) ?_
  have hr4' : (-q4).toInt = (pv.toInt / 100000000) % 100 := own_last hv0 (by decide) (by have := own_nn hv0; have := pv.toInt_lt; omega) hq4
  obtain ⟨cl34, Ar34, q34, S34, M34, Hs34, G34⟩ := id ((((((((Vr1.other W4 hr1).other W8 hr1).other W12 hr1).other W16 hr1).other W20 hr1).other W24 hr1).other W28 hr1).other W32 hr1)
  have hin34 : ¬ ((-q4) < 0 ∨ cl34.slots.size ≤ ((-q4)).toNatClampNeg) := inb_of S34 (own_in hr4')
  have hat34 : cl34.slots[((-q4)).toNatClampNeg]? = some (.int (own_dig pv 100000000)) := Has.at Hs34 hin34 (own_one hv0 (by decide : (0 : Int) < 100000000) (by decide) hr4')
  refine Go.pull (V := T33.setTop (mkF m 84 #[iv q4, iv 12, rv ar, iv q4, iv w3, iv 3, iv 0] [(.int (own_dig pv 100000000)), (.int 3), (.ref ar)])) (fun t k => X33.baloadBytes hx (j := (-q4)) (v := (.int (own_dig pv 100000000))) (by rw [e33]; exact Ar34.1) (State.isArrayOf_alike hZ.alike Ar34.2.1) Ar34.2.2 hin34 hat34 (g := (mkF m 83 #[iv q4, iv 12, rv ar, iv q4, iv w3, iv 3, iv 0] [(.int (-q4)), (.ref r1), (.int 3), (.ref ar)])) rfl rfl (hb hby z20_83) _ k) ?_
  obtain ⟨cl35, Ar35, q35, S35, M35, Hs35, G35⟩ := id V32
  have hin35 : ¬ ((3 : Int32) < 0 ∨ cl35.slots.size ≤ ((3 : Int32)).toNatClampNeg) := inb_of S35 ⟨by decide, by decide⟩
  obtain ⟨T36, h36, X36, e36, W36, st36⟩ := stB X33 hx hZ e33 Ar35 (j := (3 : Int32)) hin35 (g := (mkF m 84 #[iv q4, iv 12, rv ar, iv q4, iv w3, iv 3, iv 0] [(.int (own_dig pv 100000000)), (.int 3), (.ref ar)])) rfl rfl (hb hby z20_84)
  rw [own_narb (pv := pv) (pc := 100000000) (c := 100000000) hv0 (by decide) (by decide)] at W36
  have V36 : Arv Z h36 ar kA .byte (16 : Int32) [(.int 36), (.int 91), (.int 0), (.int (own_dig pv 100000000)), (.int (own_dig pv 10000000)), (.int (own_dig pv 1000000)), (.int (own_dig pv 100000)), (.int (own_dig pv 10000)), (.int (own_dig pv 1000)), (.int (own_dig pv 100)), (.int (own_dig pv 10)), (.int (own_dig pv 1)), (.int 0), (.int 0), (.int 0), (.int 0)] (.int 0) := Arv.set Ar35 q35 S35 M35 Hs35 G35 (own_narb (pv := pv) (pc := 100000000) (c := 100000000) hv0 (by decide) (by decide) ▸ fits_nar_byte _) W36 3 rfl (Nat.le_of_ble_eq_true rfl)
  have K36 : Keep h0 h36 [ar] := K32.wr W36 (Or.inl (List.mem_of_getElem? (i := 0) rfl))
  have N36 := Fr.snoc X36 N32 g_ar
  refine Go.pull (V := T36.setTop (mkF m 85 #[iv q4, iv 12, rv ar, iv q4, iv w3, iv 3, iv 0] [])) st36 ?_
  refine Go.pull (V := T36.setTop (mkF m 95 #[iv q4, iv 12, rv ar, iv q4, iv w3, iv 2, iv 0] [(.ref ar)])) (fun t k => XS.iloadN X36.here hx rfl (hb hby z20_85) rfl  (XS.bipush X36.here hx rfl (hb hby z20_86) (XS.icmpNo X36.here hx rfl (hb hby z20_88) rfl (XT.ii_ge_f (own_b88t hq4 (own_10 hlo (by decide) (by decide)))) (XS.aloadN X36.here hx rfl (hb hby z20_91) rfl rfl (XS.iinc X36.here hx rfl (hb hby z20_92) rfl (l' := #[iv q4, iv 12, rv ar, iv q4, iv w3, iv 2, iv 0]) rfl k))))) ?_
  refine Go.pull (V := T36.setTop (mkF m 97 #[iv q4, iv 12, rv ar, iv q4, iv w3, iv 2, iv 0] [(.int 2), (.ref ar)])) (fun t k => XS.iload X36.here hx rfl (hb hby z20_95) rfl  k) ?_
  obtain ⟨T37, X37, e37, st37⟩ := getS2 X36 hx hZ hown (host := "") (Or.inl (hw _ (List.mem_of_getElem? (i := 153) rfl))) Via.refl e36 (((((((((Sr2.wr W4).wr W8).wr W12).wr W16).wr W20).wr W24).wr W28).wr W32).wr W36) (g := (mkF m 97 #[iv q4, iv 12, rv ar, iv q4, iv w3, iv 2, iv 0] [(.int 2), (.ref ar)])) rfl (hb hby z20_97)
  refine Go.pull (V := T37.setTop (mkF m 100 #[iv q4, iv 12, rv ar, iv q4, iv w3, iv 2, iv 0] [(.ref r2), (.int 2), (.ref ar)])) st37 ?_
  refine Go.pull (V := T37.setTop (mkF m 102 #[iv q4, iv 12, rv ar, iv q4, iv w3, iv 2, iv 0] [(.int (-q4)), (.ref r2), (.int 2), (.ref ar)])) (fun t k => XS.iloadN X37.here hx rfl (hb hby z20_100) rfl  (XS.ineg X37.here hx rfl (hb hby z20_101) rfl k)) ?_
  obtain ⟨cl38, Ar38, q38, S38, M38, Hs38, G38⟩ := id (((((((((Vr2.other W4 hr2).other W8 hr2).other W12 hr2).other W16 hr2).other W20 hr2).other W24 hr2).other W28 hr2).other W32 hr2).other W36 hr2)
  have hin38 : ¬ ((-q4) < 0 ∨ cl38.slots.size ≤ ((-q4)).toNatClampNeg) := inb_of S38 (own_in hr4')
  have hat38 : cl38.slots[((-q4)).toNatClampNeg]? = some (.int (own_dig pv 1000000000)) := Has.at Hs38 hin38 (own_ten hv0 (by decide : (0 : Int) < 100000000) rfl (by decide) hr4')
  refine Go.pull (V := T37.setTop (mkF m 103 #[iv q4, iv 12, rv ar, iv q4, iv w3, iv 2, iv 0] [(.int (own_dig pv 1000000000)), (.int 2), (.ref ar)])) (fun t k => X37.baloadBytes hx (j := (-q4)) (v := (.int (own_dig pv 1000000000))) (by rw [e37]; exact Ar38.1) (State.isArrayOf_alike hZ.alike Ar38.2.1) Ar38.2.2 hin38 hat38 (g := (mkF m 102 #[iv q4, iv 12, rv ar, iv q4, iv w3, iv 2, iv 0] [(.int (-q4)), (.ref r2), (.int 2), (.ref ar)])) rfl rfl (hb hby z20_102) _ k) ?_
  obtain ⟨cl39, Ar39, q39, S39, M39, Hs39, G39⟩ := id V36
  have hin39 : ¬ ((2 : Int32) < 0 ∨ cl39.slots.size ≤ ((2 : Int32)).toNatClampNeg) := inb_of S39 ⟨by decide, by decide⟩
  obtain ⟨T40, h40, X40, e40, W40, st40⟩ := stB X37 hx hZ e37 Ar39 (j := (2 : Int32)) hin39 (g := (mkF m 103 #[iv q4, iv 12, rv ar, iv q4, iv w3, iv 2, iv 0] [(.int (own_dig pv 1000000000)), (.int 2), (.ref ar)])) rfl rfl (hb hby z20_103)
  rw [own_narb (pv := pv) (pc := 1000000000) (c := 1000000000) hv0 (by decide) (by decide)] at W40
  have V40 : Arv Z h40 ar kA .byte (16 : Int32) [(.int 36), (.int 91), (.int (own_dig pv 1000000000)), (.int (own_dig pv 100000000)), (.int (own_dig pv 10000000)), (.int (own_dig pv 1000000)), (.int (own_dig pv 100000)), (.int (own_dig pv 10000)), (.int (own_dig pv 1000)), (.int (own_dig pv 100)), (.int (own_dig pv 10)), (.int (own_dig pv 1)), (.int 0), (.int 0), (.int 0), (.int 0)] (.int 0) := Arv.set Ar39 q39 S39 M39 Hs39 G39 (own_narb (pv := pv) (pc := 1000000000) (c := 1000000000) hv0 (by decide) (by decide) ▸ fits_nar_byte _) W40 2 rfl (Nat.le_of_ble_eq_true rfl)
  have K40 : Keep h0 h40 [ar] := K36.wr W40 (Or.inl (List.mem_of_getElem? (i := 0) rfl))
  have N40 := Fr.snoc X40 N36 g_ar
  refine Go.pull (V := T40.setTop (mkF m 104 #[iv q4, iv 12, rv ar, iv q4, iv w3, iv 2, iv 0] [])) st40 ?_
  refine Go.pull (V := T40.setTop (mkF m 120 #[iv q4, iv 12, rv ar, iv q4, iv w3, iv 2, iv 0] [(.int 2)])) (fun t k => XS.iload X40.here hx rfl (hb hby z20_104) rfl  (XS.ifYes X40.here hx rfl (pc0 := 106) (pc' := 118) rfl (hb hby z20_106) rfl (XT.i0_eq_t (by decide)) (by decide) (by decide) (XS.iload X40.here hx rfl (hb hby z20_118) rfl  k))) ?_
  exact Go.retI X40 hx Bd.notSynchronized Bd.returns (hb hby z20_120) (by rw [e40]; exact ⟨rfl, N40, K40, V40⟩) (by decide) (by decide)
def own_L2 : List Value := [(.int 36), (.int 91), (.int 0), (.int 0), (.int 0), (.int 0), (.int 0), (.int 0), (.int 0), (.int 0), (.int 0), (.int 0), (.int 0), (.int 0), (.int 0), (.int 0)]
def own_rel (pv pd : Int32) (ls : List Value) : Prop := ¬ pv < 0 ∧ ((pd = 1 ∧ ¬ pv < 0 ∧ pv < 10 ∧ ls = [(.int (own_dig pv 1))]) ∨ (pd = 2 ∧ ¬ pv < 10 ∧ pv < 100 ∧ ls = [(.int (own_dig pv 10)), (.int (own_dig pv 1))]) ∨ (pd = 3 ∧ ¬ pv < 100 ∧ pv < 1000 ∧ ls = [(.int (own_dig pv 100)), (.int (own_dig pv 10)), (.int (own_dig pv 1))]) ∨ (pd = 4 ∧ ¬ pv < 1000 ∧ pv < 10000 ∧ ls = [(.int (own_dig pv 1000)), (.int (own_dig pv 100)), (.int (own_dig pv 10)), (.int (own_dig pv 1))]) ∨ (pd = 5 ∧ ¬ pv < 10000 ∧ pv < 100000 ∧ ls = [(.int (own_dig pv 10000)), (.int (own_dig pv 1000)), (.int (own_dig pv 100)), (.int (own_dig pv 10)), (.int (own_dig pv 1))]) ∨ (pd = 6 ∧ ¬ pv < 100000 ∧ pv < 1000000 ∧ ls = [(.int (own_dig pv 100000)), (.int (own_dig pv 10000)), (.int (own_dig pv 1000)), (.int (own_dig pv 100)), (.int (own_dig pv 10)), (.int (own_dig pv 1))]) ∨ (pd = 7 ∧ ¬ pv < 1000000 ∧ pv < 10000000 ∧ ls = [(.int (own_dig pv 1000000)), (.int (own_dig pv 100000)), (.int (own_dig pv 10000)), (.int (own_dig pv 1000)), (.int (own_dig pv 100)), (.int (own_dig pv 10)), (.int (own_dig pv 1))]) ∨ (pd = 8 ∧ ¬ pv < 10000000 ∧ pv < 100000000 ∧ ls = [(.int (own_dig pv 10000000)), (.int (own_dig pv 1000000)), (.int (own_dig pv 100000)), (.int (own_dig pv 10000)), (.int (own_dig pv 1000)), (.int (own_dig pv 100)), (.int (own_dig pv 10)), (.int (own_dig pv 1))]) ∨ (pd = 9 ∧ ¬ pv < 100000000 ∧ pv < 1000000000 ∧ ls = [(.int (own_dig pv 100000000)), (.int (own_dig pv 10000000)), (.int (own_dig pv 1000000)), (.int (own_dig pv 100000)), (.int (own_dig pv 10000)), (.int (own_dig pv 1000)), (.int (own_dig pv 100)), (.int (own_dig pv 10)), (.int (own_dig pv 1))]) ∨ (pd = 10 ∧ ¬ pv < 1000000000 ∧ pv = pv ∧ ls = [(.int (own_dig pv 1000000000)), (.int (own_dig pv 100000000)), (.int (own_dig pv 10000000)), (.int (own_dig pv 1000000)), (.int (own_dig pv 100000)), (.int (own_dig pv 10000)), (.int (own_dig pv 1000)), (.int (own_dig pv 100)), (.int (own_dig pv 10)), (.int (own_dig pv 1))]))
theorem own_rel_size {pv pd : Int32} {ls : List Value} (hrel : own_rel pv pd ls) : own_size pv = pd := by
  obtain ⟨hv0, hrel⟩ := hrel
  rcases hrel with ⟨rfl, hlo, hhi, rfl⟩ | ⟨rfl, hlo, hhi, rfl⟩ | ⟨rfl, hlo, hhi, rfl⟩ | ⟨rfl, hlo, hhi, rfl⟩ | ⟨rfl, hlo, hhi, rfl⟩ | ⟨rfl, hlo, hhi, rfl⟩ | ⟨rfl, hlo, hhi, rfl⟩ | ⟨rfl, hlo, hhi, rfl⟩ | ⟨rfl, hlo, hhi, rfl⟩ | ⟨rfl, hlo, hhi, rfl⟩
  · exact own_size_1 pv hv0 hlo hhi
  · exact own_size_2 pv hv0 hlo hhi
  · exact own_size_3 pv hv0 hlo hhi
  · exact own_size_4 pv hv0 hlo hhi
  · exact own_size_5 pv hv0 hlo hhi
  · exact own_size_6 pv hv0 hlo hhi
  · exact own_size_7 pv hv0 hlo hhi
  · exact own_size_8 pv hv0 hlo hhi
  · exact own_size_9 pv hv0 hlo hhi
  · exact own_size_10 pv hv0 hlo hhi
def own_digits (pv : Int32) : Int32 := if pv < (10 : Int32) then 1 else if pv < (100 : Int32) then 2 else if pv < (1000 : Int32) then 3 else if pv < (10000 : Int32) then 4 else if pv < (100000 : Int32) then 5 else if pv < (1000000 : Int32) then 6 else if pv < (10000000 : Int32) then 7 else if pv < (100000000 : Int32) then 8 else if pv < (1000000000 : Int32) then 9 else 10
theorem own_digits_1 (pv : Int32) (hv0 : ¬ pv < 0) (hlo : ¬ pv < 0) (hhi : pv < 10) : own_digits pv = 1 := by
  have a1 :  pv < (10 : Int32) := hhi
  rw [own_digits, if_pos a1]
theorem own_digits_2 (pv : Int32) (hv0 : ¬ pv < 0) (hlo : ¬ pv < 10) (hhi : pv < 100) : own_digits pv = 2 := by
  have a1 : ¬ pv < (10 : Int32) := fun z => hlo (Int32.lt_iff_toInt_lt.mpr (Int.lt_of_lt_of_le (Int32.lt_iff_toInt_lt.mp z) (by decide)))
  have a2 :  pv < (100 : Int32) := hhi
  rw [own_digits, if_neg a1, if_pos a2]
theorem own_digits_3 (pv : Int32) (hv0 : ¬ pv < 0) (hlo : ¬ pv < 100) (hhi : pv < 1000) : own_digits pv = 3 := by
  have a1 : ¬ pv < (10 : Int32) := fun z => hlo (Int32.lt_iff_toInt_lt.mpr (Int.lt_of_lt_of_le (Int32.lt_iff_toInt_lt.mp z) (by decide)))
  have a2 : ¬ pv < (100 : Int32) := fun z => hlo (Int32.lt_iff_toInt_lt.mpr (Int.lt_of_lt_of_le (Int32.lt_iff_toInt_lt.mp z) (by decide)))
  have a3 :  pv < (1000 : Int32) := hhi
  rw [own_digits, if_neg a1, if_neg a2, if_pos a3]
theorem own_digits_4 (pv : Int32) (hv0 : ¬ pv < 0) (hlo : ¬ pv < 1000) (hhi : pv < 10000) : own_digits pv = 4 := by
  have a1 : ¬ pv < (10 : Int32) := fun z => hlo (Int32.lt_iff_toInt_lt.mpr (Int.lt_of_lt_of_le (Int32.lt_iff_toInt_lt.mp z) (by decide)))
  have a2 : ¬ pv < (100 : Int32) := fun z => hlo (Int32.lt_iff_toInt_lt.mpr (Int.lt_of_lt_of_le (Int32.lt_iff_toInt_lt.mp z) (by decide)))
  have a3 : ¬ pv < (1000 : Int32) := fun z => hlo (Int32.lt_iff_toInt_lt.mpr (Int.lt_of_lt_of_le (Int32.lt_iff_toInt_lt.mp z) (by decide)))
  have a4 :  pv < (10000 : Int32) := hhi
  rw [own_digits, if_neg a1, if_neg a2, if_neg a3, if_pos a4]
theorem own_digits_5 (pv : Int32) (hv0 : ¬ pv < 0) (hlo : ¬ pv < 10000) (hhi : pv < 100000) : own_digits pv = 5 := by
  have a1 : ¬ pv < (10 : Int32) := fun z => hlo (Int32.lt_iff_toInt_lt.mpr (Int.lt_of_lt_of_le (Int32.lt_iff_toInt_lt.mp z) (by decide)))
  have a2 : ¬ pv < (100 : Int32) := fun z => hlo (Int32.lt_iff_toInt_lt.mpr (Int.lt_of_lt_of_le (Int32.lt_iff_toInt_lt.mp z) (by decide)))
  have a3 : ¬ pv < (1000 : Int32) := fun z => hlo (Int32.lt_iff_toInt_lt.mpr (Int.lt_of_lt_of_le (Int32.lt_iff_toInt_lt.mp z) (by decide)))
  have a4 : ¬ pv < (10000 : Int32) := fun z => hlo (Int32.lt_iff_toInt_lt.mpr (Int.lt_of_lt_of_le (Int32.lt_iff_toInt_lt.mp z) (by decide)))
  have a5 :  pv < (100000 : Int32) := hhi
  rw [own_digits, if_neg a1, if_neg a2, if_neg a3, if_neg a4, if_pos a5]
theorem own_digits_6 (pv : Int32) (hv0 : ¬ pv < 0) (hlo : ¬ pv < 100000) (hhi : pv < 1000000) : own_digits pv = 6 := by
  have a1 : ¬ pv < (10 : Int32) := fun z => hlo (Int32.lt_iff_toInt_lt.mpr (Int.lt_of_lt_of_le (Int32.lt_iff_toInt_lt.mp z) (by decide)))
  have a2 : ¬ pv < (100 : Int32) := fun z => hlo (Int32.lt_iff_toInt_lt.mpr (Int.lt_of_lt_of_le (Int32.lt_iff_toInt_lt.mp z) (by decide)))
  have a3 : ¬ pv < (1000 : Int32) := fun z => hlo (Int32.lt_iff_toInt_lt.mpr (Int.lt_of_lt_of_le (Int32.lt_iff_toInt_lt.mp z) (by decide)))
  have a4 : ¬ pv < (10000 : Int32) := fun z => hlo (Int32.lt_iff_toInt_lt.mpr (Int.lt_of_lt_of_le (Int32.lt_iff_toInt_lt.mp z) (by decide)))
  have a5 : ¬ pv < (100000 : Int32) := fun z => hlo (Int32.lt_iff_toInt_lt.mpr (Int.lt_of_lt_of_le (Int32.lt_iff_toInt_lt.mp z) (by decide)))
  have a6 :  pv < (1000000 : Int32) := hhi
  rw [own_digits, if_neg a1, if_neg a2, if_neg a3, if_neg a4, if_neg a5, if_pos a6]
theorem own_digits_7 (pv : Int32) (hv0 : ¬ pv < 0) (hlo : ¬ pv < 1000000) (hhi : pv < 10000000) : own_digits pv = 7 := by
  have a1 : ¬ pv < (10 : Int32) := fun z => hlo (Int32.lt_iff_toInt_lt.mpr (Int.lt_of_lt_of_le (Int32.lt_iff_toInt_lt.mp z) (by decide)))
  have a2 : ¬ pv < (100 : Int32) := fun z => hlo (Int32.lt_iff_toInt_lt.mpr (Int.lt_of_lt_of_le (Int32.lt_iff_toInt_lt.mp z) (by decide)))
  have a3 : ¬ pv < (1000 : Int32) := fun z => hlo (Int32.lt_iff_toInt_lt.mpr (Int.lt_of_lt_of_le (Int32.lt_iff_toInt_lt.mp z) (by decide)))
  have a4 : ¬ pv < (10000 : Int32) := fun z => hlo (Int32.lt_iff_toInt_lt.mpr (Int.lt_of_lt_of_le (Int32.lt_iff_toInt_lt.mp z) (by decide)))
  have a5 : ¬ pv < (100000 : Int32) := fun z => hlo (Int32.lt_iff_toInt_lt.mpr (Int.lt_of_lt_of_le (Int32.lt_iff_toInt_lt.mp z) (by decide)))
  have a6 : ¬ pv < (1000000 : Int32) := fun z => hlo (Int32.lt_iff_toInt_lt.mpr (Int.lt_of_lt_of_le (Int32.lt_iff_toInt_lt.mp z) (by decide)))
  have a7 :  pv < (10000000 : Int32) := hhi
  rw [own_digits, if_neg a1, if_neg a2, if_neg a3, if_neg a4, if_neg a5, if_neg a6, if_pos a7]
theorem own_digits_8 (pv : Int32) (hv0 : ¬ pv < 0) (hlo : ¬ pv < 10000000) (hhi : pv < 100000000) : own_digits pv = 8 := by
  have a1 : ¬ pv < (10 : Int32) := fun z => hlo (Int32.lt_iff_toInt_lt.mpr (Int.lt_of_lt_of_le (Int32.lt_iff_toInt_lt.mp z) (by decide)))
  have a2 : ¬ pv < (100 : Int32) := fun z => hlo (Int32.lt_iff_toInt_lt.mpr (Int.lt_of_lt_of_le (Int32.lt_iff_toInt_lt.mp z) (by decide)))
  have a3 : ¬ pv < (1000 : Int32) := fun z => hlo (Int32.lt_iff_toInt_lt.mpr (Int.lt_of_lt_of_le (Int32.lt_iff_toInt_lt.mp z) (by decide)))
  have a4 : ¬ pv < (10000 : Int32) := fun z => hlo (Int32.lt_iff_toInt_lt.mpr (Int.lt_of_lt_of_le (Int32.lt_iff_toInt_lt.mp z) (by decide)))
  have a5 : ¬ pv < (100000 : Int32) := fun z => hlo (Int32.lt_iff_toInt_lt.mpr (Int.lt_of_lt_of_le (Int32.lt_iff_toInt_lt.mp z) (by decide)))
  have a6 : ¬ pv < (1000000 : Int32) := fun z => hlo (Int32.lt_iff_toInt_lt.mpr (Int.lt_of_lt_of_le (Int32.lt_iff_toInt_lt.mp z) (by decide)))
  have a7 : ¬ pv < (10000000 : Int32) := fun z => hlo (Int32.lt_iff_toInt_lt.mpr (Int.lt_of_lt_of_le (Int32.lt_iff_toInt_lt.mp z) (by decide)))
  have a8 :  pv < (100000000 : Int32) := hhi
  rw [own_digits, if_neg a1, if_neg a2, if_neg a3, if_neg a4, if_neg a5, if_neg a6, if_neg a7, if_pos a8]
theorem own_digits_9 (pv : Int32) (hv0 : ¬ pv < 0) (hlo : ¬ pv < 100000000) (hhi : pv < 1000000000) : own_digits pv = 9 := by
  have a1 : ¬ pv < (10 : Int32) := fun z => hlo (Int32.lt_iff_toInt_lt.mpr (Int.lt_of_lt_of_le (Int32.lt_iff_toInt_lt.mp z) (by decide)))
  have a2 : ¬ pv < (100 : Int32) := fun z => hlo (Int32.lt_iff_toInt_lt.mpr (Int.lt_of_lt_of_le (Int32.lt_iff_toInt_lt.mp z) (by decide)))
  have a3 : ¬ pv < (1000 : Int32) := fun z => hlo (Int32.lt_iff_toInt_lt.mpr (Int.lt_of_lt_of_le (Int32.lt_iff_toInt_lt.mp z) (by decide)))
  have a4 : ¬ pv < (10000 : Int32) := fun z => hlo (Int32.lt_iff_toInt_lt.mpr (Int.lt_of_lt_of_le (Int32.lt_iff_toInt_lt.mp z) (by decide)))
  have a5 : ¬ pv < (100000 : Int32) := fun z => hlo (Int32.lt_iff_toInt_lt.mpr (Int.lt_of_lt_of_le (Int32.lt_iff_toInt_lt.mp z) (by decide)))
  have a6 : ¬ pv < (1000000 : Int32) := fun z => hlo (Int32.lt_iff_toInt_lt.mpr (Int.lt_of_lt_of_le (Int32.lt_iff_toInt_lt.mp z) (by decide)))
  have a7 : ¬ pv < (10000000 : Int32) := fun z => hlo (Int32.lt_iff_toInt_lt.mpr (Int.lt_of_lt_of_le (Int32.lt_iff_toInt_lt.mp z) (by decide)))
  have a8 : ¬ pv < (100000000 : Int32) := fun z => hlo (Int32.lt_iff_toInt_lt.mpr (Int.lt_of_lt_of_le (Int32.lt_iff_toInt_lt.mp z) (by decide)))
  have a9 :  pv < (1000000000 : Int32) := hhi
  rw [own_digits, if_neg a1, if_neg a2, if_neg a3, if_neg a4, if_neg a5, if_neg a6, if_neg a7, if_neg a8, if_pos a9]
theorem own_digits_10 (pv : Int32) (hv0 : ¬ pv < 0) (hlo : ¬ pv < 1000000000) (hhi : pv = pv) : own_digits pv = 10 := by
  have a1 : ¬ pv < (10 : Int32) := fun z => hlo (Int32.lt_iff_toInt_lt.mpr (Int.lt_of_lt_of_le (Int32.lt_iff_toInt_lt.mp z) (by decide)))
  have a2 : ¬ pv < (100 : Int32) := fun z => hlo (Int32.lt_iff_toInt_lt.mpr (Int.lt_of_lt_of_le (Int32.lt_iff_toInt_lt.mp z) (by decide)))
  have a3 : ¬ pv < (1000 : Int32) := fun z => hlo (Int32.lt_iff_toInt_lt.mpr (Int.lt_of_lt_of_le (Int32.lt_iff_toInt_lt.mp z) (by decide)))
  have a4 : ¬ pv < (10000 : Int32) := fun z => hlo (Int32.lt_iff_toInt_lt.mpr (Int.lt_of_lt_of_le (Int32.lt_iff_toInt_lt.mp z) (by decide)))
  have a5 : ¬ pv < (100000 : Int32) := fun z => hlo (Int32.lt_iff_toInt_lt.mpr (Int.lt_of_lt_of_le (Int32.lt_iff_toInt_lt.mp z) (by decide)))
  have a6 : ¬ pv < (1000000 : Int32) := fun z => hlo (Int32.lt_iff_toInt_lt.mpr (Int.lt_of_lt_of_le (Int32.lt_iff_toInt_lt.mp z) (by decide)))
  have a7 : ¬ pv < (10000000 : Int32) := fun z => hlo (Int32.lt_iff_toInt_lt.mpr (Int.lt_of_lt_of_le (Int32.lt_iff_toInt_lt.mp z) (by decide)))
  have a8 : ¬ pv < (100000000 : Int32) := fun z => hlo (Int32.lt_iff_toInt_lt.mpr (Int.lt_of_lt_of_le (Int32.lt_iff_toInt_lt.mp z) (by decide)))
  have a9 : ¬ pv < (1000000000 : Int32) := fun z => hlo (Int32.lt_iff_toInt_lt.mpr (Int.lt_of_lt_of_le (Int32.lt_iff_toInt_lt.mp z) (by decide)))
  rw [own_digits, if_neg a1, if_neg a2, if_neg a3, if_neg a4, if_neg a5, if_neg a6, if_neg a7, if_neg a8, if_neg a9]
theorem own_rel_digits {pv pd : Int32} {ls : List Value} (hrel : own_rel pv pd ls) : own_digits pv = pd := by
  obtain ⟨hv0, hrel⟩ := hrel
  rcases hrel with ⟨rfl, hlo, hhi, rfl⟩ | ⟨rfl, hlo, hhi, rfl⟩ | ⟨rfl, hlo, hhi, rfl⟩ | ⟨rfl, hlo, hhi, rfl⟩ | ⟨rfl, hlo, hhi, rfl⟩ | ⟨rfl, hlo, hhi, rfl⟩ | ⟨rfl, hlo, hhi, rfl⟩ | ⟨rfl, hlo, hhi, rfl⟩ | ⟨rfl, hlo, hhi, rfl⟩ | ⟨rfl, hlo, hhi, rfl⟩
  · exact own_digits_1 pv hv0 hlo hhi
  · exact own_digits_2 pv hv0 hlo hhi
  · exact own_digits_3 pv hv0 hlo hhi
  · exact own_digits_4 pv hv0 hlo hhi
  · exact own_digits_5 pv hv0 hlo hhi
  · exact own_digits_6 pv hv0 hlo hhi
  · exact own_digits_7 pv hv0 hlo hhi
  · exact own_digits_8 pv hv0 hlo hhi
  · exact own_digits_9 pv hv0 hlo hhi
  · exact own_digits_10 pv hv0 hlo hhi
theorem own_rel_of (pv : Int32) (hv0 : ¬ pv < 0) : ∃ pd ls, own_rel pv pd ls := by
  by_cases h1 : pv < (10 : Int32)
  · exact ⟨_, _, hv0, (Or.inl ⟨rfl, hv0, h1, rfl⟩)⟩
  by_cases h2 : pv < (100 : Int32)
  · exact ⟨_, _, hv0, (Or.inr (Or.inl ⟨rfl, h1, h2, rfl⟩))⟩
  by_cases h3 : pv < (1000 : Int32)
  · exact ⟨_, _, hv0, (Or.inr (Or.inr (Or.inl ⟨rfl, h2, h3, rfl⟩)))⟩
  by_cases h4 : pv < (10000 : Int32)
  · exact ⟨_, _, hv0, (Or.inr (Or.inr (Or.inr (Or.inl ⟨rfl, h3, h4, rfl⟩))))⟩
  by_cases h5 : pv < (100000 : Int32)
  · exact ⟨_, _, hv0, (Or.inr (Or.inr (Or.inr (Or.inr (Or.inl ⟨rfl, h4, h5, rfl⟩)))))⟩
  by_cases h6 : pv < (1000000 : Int32)
  · exact ⟨_, _, hv0, (Or.inr (Or.inr (Or.inr (Or.inr (Or.inr (Or.inl ⟨rfl, h5, h6, rfl⟩))))))⟩
  by_cases h7 : pv < (10000000 : Int32)
  · exact ⟨_, _, hv0, (Or.inr (Or.inr (Or.inr (Or.inr (Or.inr (Or.inr (Or.inl ⟨rfl, h6, h7, rfl⟩)))))))⟩
  by_cases h8 : pv < (100000000 : Int32)
  · exact ⟨_, _, hv0, (Or.inr (Or.inr (Or.inr (Or.inr (Or.inr (Or.inr (Or.inr (Or.inl ⟨rfl, h7, h8, rfl⟩))))))))⟩
  by_cases h9 : pv < (1000000000 : Int32)
  · exact ⟨_, _, hv0, (Or.inr (Or.inr (Or.inr (Or.inr (Or.inr (Or.inr (Or.inr (Or.inr (Or.inl ⟨rfl, h8, h9, rfl⟩)))))))))⟩
  exact ⟨_, _, hv0, (Or.inr (Or.inr (Or.inr (Or.inr (Or.inr (Or.inr (Or.inr (Or.inr (Or.inr ⟨rfl, h9, rfl, rfl⟩)))))))))⟩
def QGc (Z : State) (pv : Int32) (px : Int32) (ar : Addr) (r1 : Addr) (r2 : Addr) (kr1 : ClassId) (kr2 : ClassId) (kA : ClassId) (pd : Int32) (ls : List Value) (h0 : Heap) (n0 : Nat) (v : Option Value) (h : Heap) (L : List Loc) : Prop := v = some (.int 2) ∧ Fr n0 L ∧ Keep h0 h [ar] ∧ Arv Z h ar kA .byte (16 : Int32) (own_cp own_L2 ls 2 pd) (.int 0)
theorem rmGc (l : Launch) (Z : State) (a0 : Array Value) (hw : ∀ d ∈ tables_1, d.before a0 Z = true) (ws : List Jvm.Cond) (pv : Int32) (px : Int32) (ar : Addr) (r1 : Addr) (r2 : Addr) (kr1 : ClassId) (kr2 : ClassId) (kA : ClassId) (pd : Int32) (ls : List Value) (h0 : Heap) (n0 : Nat) (Z0 : n0 ≤ h0.size) (g_ar : n0 ≤ ar) (Sr1 : Sta Z h0 "java/lang/Integer" "DigitOnes" "[B" (.ref r1)) (Sr2 : Sta Z h0 "java/lang/Integer" "DigitTens" "[B" (.ref r2)) (Vr1 : Arv Z h0 r1 kr1 .byte (100 : Int32) own_ones (.int 0)) (Vr2 : Arv Z h0 r2 kr2 .byte (100 : Int32) own_tens (.int 0)) (Va : Arv Z h0 ar kA .byte (16 : Int32) own_L2 (.int 0)) (hrel : own_rel pv pd ls) (hpx : px = ((2 : Int32) + pd)) (hr1 : r1 ≠ ar) (hr2 : r2 ≠ ar) :
    MetFree l (⟨"java/lang/Integer", "getChars", "(II[B)I"⟩ : MethodName) (head1 (Jvm.Cond.code (⟨"java/lang/Integer", "getChars", "(II[B)I"⟩ : MethodName) jdk_33_method_12_code 7 (some .int) :: ws) ({ frames := 0, cells := 0, slots := 0, locals := 0 } : Room)) (fun as' U => as' = #[(.int pv), (.int px), (.ref ar)] ∧ Z.Warmed39 U.vm ∧ U.heap = h0) (fun _ _ _ _ _ => True) (fun _ U o U' => ∃ v L, o = .returned v ∧ QGc Z pv px ar r1 r2 kr1 kr2 kA pd ls h0 n0 v U'.heap L ∧ FrameEnd U o U' L ({ frames := 0, cells := 0, slots := 0, locals := 0 } : Room).cells ({ frames := 0, cells := 0, slots := 0, locals := 0 } : Room).slots) := by
  subst hpx
  obtain ⟨hv0, hrel⟩ := hrel
  rcases hrel with ⟨rfl, hlo, hhi, rfl⟩ | ⟨rfl, hlo, hhi, rfl⟩ | ⟨rfl, hlo, hhi, rfl⟩ | ⟨rfl, hlo, hhi, rfl⟩ | ⟨rfl, hlo, hhi, rfl⟩ | ⟨rfl, hlo, hhi, rfl⟩ | ⟨rfl, hlo, hhi, rfl⟩ | ⟨rfl, hlo, hhi, rfl⟩ | ⟨rfl, hlo, hhi, rfl⟩ | ⟨rfl, hlo, hhi, rfl⟩
  · exact rmGc1 l Z a0 hw ws pv ar r1 r2 kr1 kr2 kA h0 n0 Z0 g_ar Sr1 Sr2 Vr1 Vr2 Va hv0 hlo hhi hr1 hr2
  · exact rmGc2 l Z a0 hw ws pv ar r1 r2 kr1 kr2 kA h0 n0 Z0 g_ar Sr1 Sr2 Vr1 Vr2 Va hv0 hlo hhi hr1 hr2
  · exact rmGc3 l Z a0 hw ws pv ar r1 r2 kr1 kr2 kA h0 n0 Z0 g_ar Sr1 Sr2 Vr1 Vr2 Va hv0 hlo hhi hr1 hr2
  · exact rmGc4 l Z a0 hw ws pv ar r1 r2 kr1 kr2 kA h0 n0 Z0 g_ar Sr1 Sr2 Vr1 Vr2 Va hv0 hlo hhi hr1 hr2
  · exact rmGc5 l Z a0 hw ws pv ar r1 r2 kr1 kr2 kA h0 n0 Z0 g_ar Sr1 Sr2 Vr1 Vr2 Va hv0 hlo hhi hr1 hr2
  · exact rmGc6 l Z a0 hw ws pv ar r1 r2 kr1 kr2 kA h0 n0 Z0 g_ar Sr1 Sr2 Vr1 Vr2 Va hv0 hlo hhi hr1 hr2
  · exact rmGc7 l Z a0 hw ws pv ar r1 r2 kr1 kr2 kA h0 n0 Z0 g_ar Sr1 Sr2 Vr1 Vr2 Va hv0 hlo hhi hr1 hr2
  · exact rmGc8 l Z a0 hw ws pv ar r1 r2 kr1 kr2 kA h0 n0 Z0 g_ar Sr1 Sr2 Vr1 Vr2 Va hv0 hlo hhi hr1 hr2
  · exact rmGc9 l Z a0 hw ws pv ar r1 r2 kr1 kr2 kA h0 n0 Z0 g_ar Sr1 Sr2 Vr1 Vr2 Va hv0 hlo hhi hr1 hr2
  · exact rmGc10 l Z a0 hw ws pv ar r1 r2 kr1 kr2 kA h0 n0 Z0 g_ar Sr1 Sr2 Vr1 Vr2 Va hv0 hlo hhi hr1 hr2
theorem own_rel_cap {pv pd : Int32} {ls : List Value} (hrel : own_rel pv pd ls) : ¬ 0 < (((2 : Int32) + pd) - (16 : Int32)) := by
  obtain ⟨hv0, hrel⟩ := hrel
  rcases hrel with ⟨rfl, hlo, hhi, rfl⟩ | ⟨rfl, hlo, hhi, rfl⟩ | ⟨rfl, hlo, hhi, rfl⟩ | ⟨rfl, hlo, hhi, rfl⟩ | ⟨rfl, hlo, hhi, rfl⟩ | ⟨rfl, hlo, hhi, rfl⟩ | ⟨rfl, hlo, hhi, rfl⟩ | ⟨rfl, hlo, hhi, rfl⟩ | ⟨rfl, hlo, hhi, rfl⟩ | ⟨rfl, hlo, hhi, rfl⟩
  · exact by decide
  · exact by decide
  · exact by decide
  · exact by decide
  · exact by decide
  · exact by decide
  · exact by decide
  · exact by decide
  · exact by decide
  · exact by decide
theorem z21_0 : decode jdk_68_method_32_code 0 = .ok (.aload_n 0, 1) := by decide +kernel
theorem z21_1 : decode jdk_68_method_32_code 1 = .ok (.getfield 79, 3) := by decide +kernel
theorem z21_4 : decode jdk_68_method_32_code 4 = .ok (.istore_n 2, 1) := by decide +kernel
theorem z21_5 : decode jdk_68_method_32_code 5 = .ok (.iload_n 2, 1) := by decide +kernel
theorem z21_6 : decode jdk_68_method_32_code 6 = .ok (.iload_n 1, 1) := by decide +kernel
theorem z21_7 : decode jdk_68_method_32_code 7 = .ok (.invokestatic 245, 3) := by decide +kernel
theorem z21_10 : decode jdk_68_method_32_code 10 = .ok (.iadd, 1) := by decide +kernel
theorem z21_11 : decode jdk_68_method_32_code 11 = .ok (.istore_n 3, 1) := by decide +kernel
theorem z21_12 : decode jdk_68_method_32_code 12 = .ok (.aload_n 0, 1) := by decide +kernel
theorem z21_13 : decode jdk_68_method_32_code 13 = .ok (.iload_n 3, 1) := by decide +kernel
theorem z21_14 : decode jdk_68_method_32_code 14 = .ok (.invokevirtual 100, 3) := by decide +kernel
theorem z21_17 : decode jdk_68_method_32_code 17 = .ok (.aload_n 0, 1) := by decide +kernel
theorem z21_18 : decode jdk_68_method_32_code 18 = .ok (.invokevirtual 83, 3) := by decide +kernel
theorem z21_21 : decode jdk_68_method_32_code 21 = .ok (.ifCond .eq 16, 3) := by decide +kernel
theorem z21_24 : decode jdk_68_method_32_code 24 = .ok (.iload_n 1, 1) := by decide +kernel
theorem z21_25 : decode jdk_68_method_32_code 25 = .ok (.iload_n 3, 1) := by decide +kernel
theorem z21_26 : decode jdk_68_method_32_code 26 = .ok (.aload_n 0, 1) := by decide +kernel
theorem z21_27 : decode jdk_68_method_32_code 27 = .ok (.getfield 15, 3) := by decide +kernel
theorem z21_30 : decode jdk_68_method_32_code 30 = .ok (.invokestatic 248, 3) := by decide +kernel
theorem z21_33 : decode jdk_68_method_32_code 33 = .ok (.pop, 1) := by decide +kernel
theorem z21_34 : decode jdk_68_method_32_code 34 = .ok (.goto 14, 3) := by decide +kernel
theorem z21_48 : decode jdk_68_method_32_code 48 = .ok (.aload_n 0, 1) := by decide +kernel
theorem z21_49 : decode jdk_68_method_32_code 49 = .ok (.iload_n 3, 1) := by decide +kernel
theorem z21_50 : decode jdk_68_method_32_code 50 = .ok (.putfield 79, 3) := by decide +kernel
theorem z21_53 : decode jdk_68_method_32_code 53 = .ok (.aload_n 0, 1) := by decide +kernel
theorem z21_54 : decode jdk_68_method_32_code 54 = .ok (.areturn, 1) := by decide +kernel
theorem efAi (m : MethodId) (x0 : Addr) (x1 : Int32) : entryFrame m #[(.ref x0), (.int x1)] 4 = mkF m 0 #[rv x0, iv x1, .unset, .unset] [] := by first | (simp [entryFrame, mkF, argsToLocals, Value.category]; done) | rfl
def QAi (Z : State) (a : Addr) (pv : Int32) (cs : Int32) (r1 : Addr) (r2 : Addr) (kr1 : ClassId) (kr2 : ClassId) (ar : Addr) (kA : ClassId) (pd : Int32) (ls : List Value) (h0 : Heap) (n0 : Nat) (v : Option Value) (h : Heap) (L : List Loc) : Prop := v = some (.ref a) ∧ Fr n0 L ∧ Keep h0 h [a, ar] ∧ Fld Z h a "java/lang/AbstractStringBuilder" "value" "[B" (.ref ar) ∧ Fld Z h a "java/lang/AbstractStringBuilder" "coder" "B" (.int 0) ∧ Fld Z h a "java/lang/AbstractStringBuilder" "count" "I" (.int ((2 : Int32) + pd)) ∧ Arv Z h ar kA .byte (16 : Int32) (own_cp own_L2 ls 2 pd) (.int 0)
set_option maxRecDepth 65536 in
set_option maxHeartbeats 40000000 in
theorem rmAi (l : Launch) (Z : State) (a0 : Array Value) (hw : ∀ d ∈ tables_1, d.before a0 Z = true) (ws : List Jvm.Cond) (a : Addr) (pv : Int32) (cs : Int32) (r1 : Addr) (r2 : Addr) (kr1 : ClassId) (kr2 : ClassId) (ar : Addr) (kA : ClassId) (pd : Int32) (ls : List Value) (h0 : Heap) (n0 : Nat) (Z0 : n0 ≤ h0.size) (g_a : n0 ≤ a) (g_ar : n0 ≤ ar) (Scs : Sta Z h0 "java/lang/String" "COMPACT_STRINGS" "Z" (.int cs)) (Sr1 : Sta Z h0 "java/lang/Integer" "DigitOnes" "[B" (.ref r1)) (Sr2 : Sta Z h0 "java/lang/Integer" "DigitTens" "[B" (.ref r2)) (Vr1 : Arv Z h0 r1 kr1 .byte (100 : Int32) own_ones (.int 0)) (Vr2 : Arv Z h0 r2 kr2 .byte (100 : Int32) own_tens (.int 0)) (Eb : Exa Z h0 a "java/lang/StringBuilder") (Gv : Fld Z h0 a "java/lang/AbstractStringBuilder" "value" "[B" (.ref ar)) (Er : Exa Z h0 ar "[B") (Gc : Fld Z h0 a "java/lang/AbstractStringBuilder" "coder" "B" (.int 0)) (Gn : Fld Z h0 a "java/lang/AbstractStringBuilder" "count" "I" (.int 2)) (Va : Arv Z h0 ar kA .byte (16 : Int32) own_L2 (.int 0)) (hcs : ¬ cs = 0) (hrel : own_rel pv pd ls) (hr1 : r1 ≠ ar) (hr2 : r2 ≠ ar) (hs1 : r1 ≠ a) (hs2 : r2 ≠ a) (hab : a ≠ ar) :
    MetFree l (⟨"java/lang/AbstractStringBuilder", "append", "(I)Ljava/lang/AbstractStringBuilder;"⟩ : MethodName) (head1 (Jvm.Cond.code (⟨"java/lang/AbstractStringBuilder", "append", "(I)Ljava/lang/AbstractStringBuilder;"⟩ : MethodName) jdk_68_method_32_code 4 (some (.object "java/lang/AbstractStringBuilder")) :: ws) ({ frames := 1, cells := 0, slots := 0, locals := 18 } : Room)) (fun as' U => as' = #[(.ref a), (.int pv)] ∧ Z.Warmed39 U.vm ∧ U.heap = h0) (fun _ _ _ _ _ => True) (fun _ U o U' => ∃ v L, o = .returned v ∧ QAi Z a pv cs r1 r2 kr1 kr2 ar kA pd ls h0 n0 v U'.heap L ∧ FrameEnd U o U' L ({ frames := 1, cells := 0, slots := 0, locals := 18 } : Room).cells ({ frames := 1, cells := 0, slots := 0, locals := 18 } : Room).slots) := by
  refine MetFree.of_bodySF (plainFor_of_name pn_java_lang_AbstractStringBuilder) hisR ?_
  intro p e s m args below meth c s₁ Bd hml0 hP hK
  obtain ⟨rfl, hZ, hh⟩ := hP
  have hx := Bd.exec
  have hby := Bd.bytes
  have hml : c.maxLocals = 4 := hml0
  have hown : s.vm.findClass "java/lang/AbstractStringBuilder" = some m.cls := findClass_of_methodNamed Bd.named
  have hnm := (name_of_methodNamed Bd.named Bd.method).1
  have X0 : Stand p l e ({ frames := 1, cells := 0, slots := 0, locals := 18 } : Room) s m #[(.ref a), (.int pv)] below meth c s₁ [] 0 0 := Stand.of_body Bd
  have e0 : s₁.heap = h0 := by rw [← hh, Bd.state]; rfl
  have N0 := Fr.nil n0
  show Go p e below s (fun v h L => QAi Z a pv cs r1 r2 kr1 kr2 ar kA pd ls h0 n0 v h L) 0 0 _
  refine Go.pull (V := s₁.setTop (mkF m 0 #[rv a, iv pv, .unset, .unset] [])) (fun t k => castTop (efAi m a pv) k) ?_
  refine Go.pull (V := s₁.setTop (mkF m 1 #[rv a, iv pv, .unset, .unset] [(.ref a)])) (fun t k => XS.aloadN X0.here hx rfl (hb hby z21_0) rfl rfl k) ?_
  obtain ⟨T1, X1, e1, st1⟩ := getF X0 hx hZ hown (host := "") (Or.inl (hw _ (List.mem_of_getElem? (i := 104) rfl))) Via.refl e0 Gn (g := (mkF m 1 #[rv a, iv pv, .unset, .unset] [(.ref a)])) rfl rfl (hb hby z21_1)
  refine Go.pull (V := T1.setTop (mkF m 4 #[rv a, iv pv, .unset, .unset] [(.int 2)])) st1 ?_
  refine Go.pull (V := T1.setTop (mkF m 7 #[rv a, iv pv, iv 2, .unset] [(.int pv), (.int 2)])) (fun t k => XS.istoreN X1.here hx rfl (hb hby z21_4) rfl (l' := #[rv a, iv pv, iv 2, .unset]) rfl (XS.iloadN X1.here hx rfl (hb hby z21_5) rfl  (XS.iloadN X1.here hx rfl (hb hby z21_6) rfl  k))) ?_
  obtain ⟨_, _, ⟨T2, L2, k2, n2⟩, -, X2, ⟨Lc2, hQ2, l2, y2, z2⟩, st2⟩ := Jvm.LawKit.callS X1 hx (y := (⟨"java/lang/Integer", "stringSize", "(I)I"⟩ : MethodName)) hown (mvT hZ (hw _ (List.mem_of_getElem? (i := 140) rfl))) (mvT hZ (hw _ (List.mem_of_getElem? (i := 141) rfl))) (mvT hZ (hw _ (List.mem_of_getElem? (i := 142) rfl))) (mvT hZ (hw _ (List.mem_of_getElem? (i := 143) rfl))) (by decide) (backOf (W := 1) (rmSs l Z a0 hw [] pv h0 n0 hrel.1) hZ (hw _ (List.mem_of_getElem? (i := 143) rfl)) (hw _ (List.mem_of_getElem? (i := 142) rfl)) (by decide) (by decide)) (g := (mkF m 7 #[rv a, iv pv, iv 2, .unset] [(.int pv), (.int 2)])) rfl (by rw [hml]; rfl) (argsL := [(.int pv)]) (rest := [(.int 2)]) (lenOf pd_9 rfl) rfl (by show 2 * 0 + _ ≤ _; exact Nat.le_of_eq rfl) (hb hby z21_7) (fun _ _ => ⟨rfl, e1, (by decide : 0 + 0 ≤ _), (by decide : 0 + 0 ≤ _)⟩)
  dsimp only [Pt.U, Pt.locs, Pt.cells, Pt.slots] at X2 l2 y2 z2 st2 hQ2
  subst l2 y2 z2
  obtain ⟨hv2, N2q, e2⟩ := hQ2
  rw [(show (own_size pv) = pd from own_rel_size hrel)] at hv2; subst hv2
  have N2 := Fr.app N0 N2q
  refine Go.pull (V := T2.setTop (mkF m 10 #[rv a, iv pv, iv 2, .unset] [(.int pd), (.int 2)])) st2 ?_
  refine Go.pull (V := T2.setTop (mkF m 14 #[rv a, iv pv, iv 2, iv ((2 : Int32) + pd)] [(.int ((2 : Int32) + pd)), (.ref a)])) (fun t k => XS.iadd X2.here hx rfl (hb hby z21_10) rfl (XS.istoreN X2.here hx rfl (hb hby z21_11) rfl (l' := #[rv a, iv pv, iv 2, iv ((2 : Int32) + pd)]) rfl (XS.aloadN X2.here hx rfl (hb hby z21_12) rfl rfl (XS.iloadN X2.here hx rfl (hb hby z21_13) rfl  k)))) ?_
  obtain ⟨ce3, he3, hs3⟩ := Eb.cell
  obtain ⟨_, _, ⟨T3, L3, k3, n3⟩, -, X3, ⟨Lc3, hQ3, l3, y3, z3⟩, st3⟩ := X2.privateBack hx (y := (⟨"java/lang/AbstractStringBuilder", "ensureCapacityInternal", "(I)V"⟩ : MethodName)) hown (mvT hZ (hw _ (List.mem_of_getElem? (i := 106) rfl))) (mvT hZ (hw _ (List.mem_of_getElem? (i := 107) rfl))) (own_selP hZ (hw _ (List.mem_of_getElem? (i := 109) rfl)) (hw _ (List.mem_of_getElem? (i := 108) rfl)) (hw _ (List.mem_of_getElem? (i := 107) rfl)) (by decide)) (Cond.privateMethod_at (mvP hZ (hw _ (List.mem_of_getElem? (i := 108) rfl)) (args := #[]))) (mvT hZ (hw _ (List.mem_of_getElem? (i := 110) rfl))) (by decide) (backOf (W := 0) (rmEn l Z a0 hw [] a ((2 : Int32) + pd) ar kA (own_L2 : List Value) h0 n0 Gv Gc Va (own_rel_cap hrel)) hZ (hw _ (List.mem_of_getElem? (i := 110) rfl)) (hw _ (List.mem_of_getElem? (i := 73) rfl)) (by decide) (by decide)) (g := (mkF m 14 #[rv a, iv pv, iv 2, iv ((2 : Int32) + pd)] [(.int ((2 : Int32) + pd)), (.ref a)])) rfl (by rw [hml]; rfl) (Steps.refl _) (a := a) (cell := ce3) (by rw [e2]; exact he3) hs3 (argsL := [(.int ((2 : Int32) + pd))]) (rest := []) (lenOf pd_3 rfl) rfl (by show 2 * 0 + _ ≤ _; exact Nat.le_of_eq rfl) (hb hby z21_14) (fun _ _ => ⟨rfl, e2, (by decide : 0 + 0 ≤ _), (by decide : 0 + 0 ≤ _)⟩)
  dsimp only [Pt.U, Pt.locs, Pt.cells, Pt.slots] at X3 l3 y3 z3 st3 hQ3
  subst l3 y3 z3
  obtain ⟨rfl, N3q, e3⟩ := hQ3
  have N3 := Fr.app N2 N3q
  refine Go.pull (V := T3.setTop (mkF m 17 #[rv a, iv pv, iv 2, iv ((2 : Int32) + pd)] [])) (fun _ k => st3.trans k) ?_
  refine Go.pull (V := T3.setTop (mkF m 18 #[rv a, iv pv, iv 2, iv ((2 : Int32) + pd)] [(.ref a)])) (fun t k => XS.aloadN X3.here hx rfl (hb hby z21_17) rfl rfl k) ?_
  obtain ⟨cq4, kq4, q4a, q4b, q4c⟩ := isOf hZ e3 Eb
  obtain ⟨_, _, ⟨T4, L4, k4, n4⟩, -, X4, ⟨Lc4, hQ4, l4, y4, z4⟩, st4⟩ := X3.virtualBack hx (y := (⟨"java/lang/AbstractStringBuilder", "isLatin1", "()Z"⟩ : MethodName)) (z := (⟨"java/lang/AbstractStringBuilder", "isLatin1", "()Z"⟩ : MethodName)) hown (mvT hZ (hw _ (List.mem_of_getElem? (i := 144) rfl))) (mvT hZ (hw _ (List.mem_of_getElem? (i := 145) rfl))) (notFace_of_selects (args := #[]) (mvT hZ (hw _ (List.mem_of_getElem? (i := 147) rfl)))) (mvT hZ (hw _ (List.mem_of_getElem? (i := 147) rfl))) (mvT hZ (hw _ (List.mem_of_getElem? (i := 146) rfl))) (by decide) (backOf (W := 0) (rmB1 l Z a0 hw [] a cs h0 n0 Scs Gc hcs) hZ (hw _ (List.mem_of_getElem? (i := 148) rfl)) (hw _ (List.mem_of_getElem? (i := 73) rfl)) (by decide) (by decide)) q4a q4c (g := (mkF m 18 #[rv a, iv pv, iv 2, iv ((2 : Int32) + pd)] [(.ref a)])) rfl (by rw [hml]; rfl) (Steps.refl _) (argsL := []) (rest := []) (lenOf pd_10 rfl) rfl (by show 2 * 0 + _ ≤ _; exact Nat.le_of_eq rfl) (hb hby z21_18) (fun _ _ => ⟨rfl, e3, (by decide : 0 + 0 ≤ _), (by decide : 0 + 0 ≤ _)⟩)
  dsimp only [Pt.U, Pt.locs, Pt.cells, Pt.slots] at X4 l4 y4 z4 st4 hQ4
  subst l4 y4 z4
  obtain ⟨rfl, N4q, e4⟩ := hQ4
  have N4 := Fr.app N3 N4q
  refine Go.pull (V := T4.setTop (mkF m 21 #[rv a, iv pv, iv 2, iv ((2 : Int32) + pd)] [(.int 1)])) (fun _ k => st4.trans k) ?_
  refine Go.pull (V := T4.setTop (mkF m 27 #[rv a, iv pv, iv 2, iv ((2 : Int32) + pd)] [(.ref a), (.int ((2 : Int32) + pd)), (.int pv)])) (fun t k => XS.ifNo X4.here hx rfl (hb hby z21_21) rfl (XT.i0_eq_f (by decide)) (XS.iloadN X4.here hx rfl (hb hby z21_24) rfl  (XS.iloadN X4.here hx rfl (hb hby z21_25) rfl  (XS.aloadN X4.here hx rfl (hb hby z21_26) rfl rfl k)))) ?_
  obtain ⟨T5, X5, e5, st5⟩ := getF X4 hx hZ hown (host := "") (Or.inl (hw _ (List.mem_of_getElem? (i := 77) rfl))) Via.refl e4 Gv (g := (mkF m 27 #[rv a, iv pv, iv 2, iv ((2 : Int32) + pd)] [(.ref a), (.int ((2 : Int32) + pd)), (.int pv)])) rfl rfl (hb hby z21_27)
  refine Go.pull (V := T5.setTop (mkF m 30 #[rv a, iv pv, iv 2, iv ((2 : Int32) + pd)] [(.ref ar), (.int ((2 : Int32) + pd)), (.int pv)])) st5 ?_
  obtain ⟨_, _, ⟨T6, L6, k6, n6⟩, -, X6, ⟨Lc6, hQ6, l6, y6, z6⟩, st6⟩ := Jvm.LawKit.callS X5 hx (y := (⟨"java/lang/Integer", "getChars", "(II[B)I"⟩ : MethodName)) hown (mvT hZ (hw _ (List.mem_of_getElem? (i := 149) rfl))) (mvT hZ (hw _ (List.mem_of_getElem? (i := 150) rfl))) (mvT hZ (hw _ (List.mem_of_getElem? (i := 142) rfl))) (mvT hZ (hw _ (List.mem_of_getElem? (i := 151) rfl))) (by decide) (backOf (W := 0) (rmGc l Z a0 hw [] pv ((2 : Int32) + pd) ar r1 r2 kr1 kr2 kA pd ls h0 n0 (Nat.le_trans Z0 ((Keep.refl h0 [a, ar])).1) (g_ar) Sr1 Sr2 Vr1 Vr2 Va hrel rfl hr1 hr2) hZ (hw _ (List.mem_of_getElem? (i := 151) rfl)) (hw _ (List.mem_of_getElem? (i := 142) rfl)) (by decide) (by decide)) (g := (mkF m 30 #[rv a, iv pv, iv 2, iv ((2 : Int32) + pd)] [(.ref ar), (.int ((2 : Int32) + pd)), (.int pv)])) rfl (by rw [hml]; rfl) (argsL := [(.int pv), (.int ((2 : Int32) + pd)), (.ref ar)]) (rest := []) (lenOf pd_11 rfl) rfl (by show 2 * 0 + _ ≤ _; exact Nat.le_of_eq rfl) (hb hby z21_30) (fun _ _ => ⟨rfl, e5, (by decide : 0 + 0 ≤ _), (by decide : 0 + 0 ≤ _)⟩)
  dsimp only [Pt.U, Pt.locs, Pt.cells, Pt.slots] at X6 l6 y6 z6 st6 hQ6
  subst l6 y6 z6
  obtain ⟨rfl, N6q, Kc6, Fc6_0⟩ := hQ6
  have K6 : Keep h0 T6.heap [a, ar] := (Keep.refl h0 [a, ar]).trans Kc6 ((allS (Or.inl (List.mem_of_getElem? (i := 1) rfl)) all0))
  have N6 := Fr.app N4 N6q
  refine Go.pull (V := T6.setTop (mkF m 33 #[rv a, iv pv, iv 2, iv ((2 : Int32) + pd)] [(.int 2)])) st6 ?_
  refine Go.pull (V := T6.setTop (mkF m 50 #[rv a, iv pv, iv 2, iv ((2 : Int32) + pd)] [(.int ((2 : Int32) + pd)), (.ref a)])) (fun t k => XS.pop X6.here hx rfl (hb hby z21_33) rfl rfl (XS.goto X6.here hx rfl (pc0 := 34) (pc' := 48) rfl (hb hby z21_34) (by decide) (by decide) (XS.aloadN X6.here hx rfl (hb hby z21_48) rfl rfl (XS.iloadN X6.here hx rfl (hb hby z21_49) rfl  k)))) ?_
  obtain ⟨T7, h7, X7, e7, W7, st7⟩ := putF X6 hx hZ hown (host := "") (Or.inl (hw _ (List.mem_of_getElem? (i := 104) rfl))) Via.refl rfl (Gn.keep Kc6 (ninS hab nin0)) (Eb.keep Kc6) (Or.inl (hw _ (List.mem_of_getElem? (i := 105) rfl))) (hw _ (List.mem_of_getElem? (i := 64) rfl)) (ty := .int) (by decide) rfl rfl (g := (mkF m 50 #[rv a, iv pv, iv 2, iv ((2 : Int32) + pd)] [(.int ((2 : Int32) + pd)), (.ref a)])) rfl rfl (hb hby z21_50)
  have Fw7 : Fld Z h7 a "java/lang/AbstractStringBuilder" "count" "I" (.int ((2 : Int32) + pd)) := (Gn.keep Kc6 (ninS hab nin0)).same W7
  have K7 : Keep h0 h7 [a, ar] := K6.wr W7 (Or.inl (List.mem_of_getElem? (i := 0) rfl))
  have N7 := Fr.snoc X7 N6 g_a
  refine Go.pull (V := T7.setTop (mkF m 53 #[rv a, iv pv, iv 2, iv ((2 : Int32) + pd)] [])) st7 ?_
  refine Go.pull (V := T7.setTop (mkF m 54 #[rv a, iv pv, iv 2, iv ((2 : Int32) + pd)] [(.ref a)])) (fun t k => XS.aloadN X7.here hx rfl (hb hby z21_53) rfl rfl k) ?_
  exact Go.retR X7 hx Bd.notSynchronized Bd.returns rfl rfl rfl (hb hby z21_54) (by rw [e7]; exact ⟨rfl, N7, K7, ((Gv.keep Kc6 (ninS hab nin0)).other W7 (Or.inr (slot_ne (Or.inl (hw _ (List.mem_of_getElem? (i := 78) rfl))) (Or.inl (hw _ (List.mem_of_getElem? (i := 105) rfl))) (by decide) (t := (.array .byte)) (t' := .int) (by decide) (by decide)))), ((Gc.keep Kc6 (ninS hab nin0)).other W7 (Or.inr (slot_ne (Or.inl (hw _ (List.mem_of_getElem? (i := 80) rfl))) (Or.inl (hw _ (List.mem_of_getElem? (i := 105) rfl))) (by decide) (t := .byte) (t' := .int) (by decide) (by decide)))), Fw7, (Fc6_0.other W7 (Ne.symm hab))⟩) (by decide) (by decide)
theorem z22_0 : decode jdk_67_method_15_code 0 = .ok (.aload_n 0, 1) := by decide +kernel
theorem z22_1 : decode jdk_67_method_15_code 1 = .ok (.iload_n 1, 1) := by decide +kernel
theorem z22_2 : decode jdk_67_method_15_code 2 = .ok (.invokespecial 53, 3) := by decide +kernel
theorem z22_5 : decode jdk_67_method_15_code 5 = .ok (.pop, 1) := by decide +kernel
theorem z22_6 : decode jdk_67_method_15_code 6 = .ok (.aload_n 0, 1) := by decide +kernel
theorem z22_7 : decode jdk_67_method_15_code 7 = .ok (.areturn, 1) := by decide +kernel
theorem efBj (m : MethodId) (x0 : Addr) (x1 : Int32) : entryFrame m #[(.ref x0), (.int x1)] 2 = mkF m 0 #[rv x0, iv x1] [] := by first | (simp [entryFrame, mkF, argsToLocals, Value.category]; done) | rfl
def QBj (Z : State) (a : Addr) (pv : Int32) (cs : Int32) (r1 : Addr) (r2 : Addr) (kr1 : ClassId) (kr2 : ClassId) (ar : Addr) (kA : ClassId) (pd : Int32) (ls : List Value) (h0 : Heap) (n0 : Nat) (v : Option Value) (h : Heap) (L : List Loc) : Prop := v = some (.ref a) ∧ Fr n0 L ∧ Keep h0 h [a, ar] ∧ Fld Z h a "java/lang/AbstractStringBuilder" "value" "[B" (.ref ar) ∧ Fld Z h a "java/lang/AbstractStringBuilder" "coder" "B" (.int 0) ∧ Fld Z h a "java/lang/AbstractStringBuilder" "count" "I" (.int ((2 : Int32) + pd)) ∧ Arv Z h ar kA .byte (16 : Int32) (own_cp own_L2 ls 2 pd) (.int 0)
set_option maxRecDepth 65536 in
set_option maxHeartbeats 40000000 in
theorem rmBj (l : Launch) (Z : State) (a0 : Array Value) (hw : ∀ d ∈ tables_1, d.before a0 Z = true) (ws : List Jvm.Cond) (a : Addr) (pv : Int32) (cs : Int32) (r1 : Addr) (r2 : Addr) (kr1 : ClassId) (kr2 : ClassId) (ar : Addr) (kA : ClassId) (pd : Int32) (ls : List Value) (h0 : Heap) (n0 : Nat) (Z0 : n0 ≤ h0.size) (g_a : n0 ≤ a) (g_ar : n0 ≤ ar) (Scs : Sta Z h0 "java/lang/String" "COMPACT_STRINGS" "Z" (.int cs)) (Sr1 : Sta Z h0 "java/lang/Integer" "DigitOnes" "[B" (.ref r1)) (Sr2 : Sta Z h0 "java/lang/Integer" "DigitTens" "[B" (.ref r2)) (Vr1 : Arv Z h0 r1 kr1 .byte (100 : Int32) own_ones (.int 0)) (Vr2 : Arv Z h0 r2 kr2 .byte (100 : Int32) own_tens (.int 0)) (Eb : Exa Z h0 a "java/lang/StringBuilder") (Gv : Fld Z h0 a "java/lang/AbstractStringBuilder" "value" "[B" (.ref ar)) (Er : Exa Z h0 ar "[B") (Gc : Fld Z h0 a "java/lang/AbstractStringBuilder" "coder" "B" (.int 0)) (Gn : Fld Z h0 a "java/lang/AbstractStringBuilder" "count" "I" (.int 2)) (Va : Arv Z h0 ar kA .byte (16 : Int32) own_L2 (.int 0)) (hcs : ¬ cs = 0) (hrel : own_rel pv pd ls) (hr1 : r1 ≠ ar) (hr2 : r2 ≠ ar) (hs1 : r1 ≠ a) (hs2 : r2 ≠ a) (hab : a ≠ ar) :
    MetFree l (⟨"java/lang/StringBuilder", "append", "(I)Ljava/lang/StringBuilder;"⟩ : MethodName) (head1 (Jvm.Cond.code (⟨"java/lang/StringBuilder", "append", "(I)Ljava/lang/StringBuilder;"⟩ : MethodName) jdk_67_method_15_code 2 (some (.object "java/lang/StringBuilder")) :: ws) ({ frames := 2, cells := 0, slots := 0, locals := 33 } : Room)) (fun as' U => as' = #[(.ref a), (.int pv)] ∧ Z.Warmed39 U.vm ∧ U.heap = h0) (fun _ _ _ _ _ => True) (fun _ U o U' => ∃ v L, o = .returned v ∧ QBj Z a pv cs r1 r2 kr1 kr2 ar kA pd ls h0 n0 v U'.heap L ∧ FrameEnd U o U' L ({ frames := 2, cells := 0, slots := 0, locals := 33 } : Room).cells ({ frames := 2, cells := 0, slots := 0, locals := 33 } : Room).slots) := by
  refine MetFree.of_bodySF (plainFor_of_name pn_java_lang_StringBuilder) hisR ?_
  intro p e s m args below meth c s₁ Bd hml0 hP hK
  obtain ⟨rfl, hZ, hh⟩ := hP
  have hx := Bd.exec
  have hby := Bd.bytes
  have hml : c.maxLocals = 2 := hml0
  have hown : s.vm.findClass "java/lang/StringBuilder" = some m.cls := findClass_of_methodNamed Bd.named
  have hnm := (name_of_methodNamed Bd.named Bd.method).1
  have X0 : Stand p l e ({ frames := 2, cells := 0, slots := 0, locals := 33 } : Room) s m #[(.ref a), (.int pv)] below meth c s₁ [] 0 0 := Stand.of_body Bd
  have e0 : s₁.heap = h0 := by rw [← hh, Bd.state]; rfl
  have N0 := Fr.nil n0
  show Go p e below s (fun v h L => QBj Z a pv cs r1 r2 kr1 kr2 ar kA pd ls h0 n0 v h L) 0 0 _
  refine Go.pull (V := s₁.setTop (mkF m 0 #[rv a, iv pv] [])) (fun t k => castTop (efBj m a pv) k) ?_
  refine Go.pull (V := s₁.setTop (mkF m 2 #[rv a, iv pv] [(.int pv), (.ref a)])) (fun t k => XS.aloadN X0.here hx rfl (hb hby z22_0) rfl rfl (XS.iloadN X0.here hx rfl (hb hby z22_1) rfl  k)) ?_
  obtain ⟨_, _, ⟨T1, L1, k1, n1⟩, -, X1, ⟨Lc1, hQ1, l1, y1, z1⟩, st1⟩ := superBack X0 hx hZ (y := (⟨"java/lang/AbstractStringBuilder", "append", "(I)Ljava/lang/AbstractStringBuilder;"⟩ : MethodName)) hown (hw _ (List.mem_of_getElem? (i := 136) rfl)) (own_same (by decide) (hw _ (List.mem_of_getElem? (i := 138) rfl)) (hw _ (List.mem_of_getElem? (i := 109) rfl)) rfl) (hw _ (List.mem_of_getElem? (i := 137) rfl)) (hw _ (List.mem_of_getElem? (i := 89) rfl)) (by decide) (backOf (W := 0) (rmAi l Z a0 hw [] a pv cs r1 r2 kr1 kr2 ar kA pd ls h0 n0 (Nat.le_trans Z0 ((Keep.refl h0 [a, ar])).1) (g_a) (g_ar) Scs Sr1 Sr2 Vr1 Vr2 Eb Gv Er Gc Gn Va hcs hrel hr1 hr2 hs1 hs2 hab) hZ (hw _ (List.mem_of_getElem? (i := 139) rfl)) (hw _ (List.mem_of_getElem? (i := 73) rfl)) (by decide) (by decide)) e0 (Ins.self Eb) (g := (mkF m 2 #[rv a, iv pv] [(.int pv), (.ref a)])) rfl (by rw [hml]; rfl) (hw _ (List.mem_of_getElem? (i := 139) rfl)) (argsL := [(.int pv)]) (rest := []) (lenOf pd_12 rfl) rfl (by show 2 * 0 + _ ≤ _; exact Nat.le_of_eq rfl) (hb hby z22_2) (fun _ _ => ⟨rfl, e0, (by decide : 0 + 0 ≤ _), (by decide : 0 + 0 ≤ _)⟩)
  dsimp only [Pt.U, Pt.locs, Pt.cells, Pt.slots] at X1 l1 y1 z1 st1 hQ1
  subst l1 y1 z1
  obtain ⟨rfl, N1q, Kc1, Fc1_0, Fc1_1, Fc1_2, Fc1_3⟩ := hQ1
  have K1 : Keep h0 T1.heap [a, ar] := (Keep.refl h0 [a, ar]).trans Kc1 ((allS (Or.inl (List.mem_of_getElem? (i := 0) rfl)) (allS (Or.inl (List.mem_of_getElem? (i := 1) rfl)) all0)))
  have N1 := Fr.app N0 N1q
  refine Go.pull (V := T1.setTop (mkF m 5 #[rv a, iv pv] [(.ref a)])) (fun _ k => st1.trans k) ?_
  refine Go.pull (V := T1.setTop (mkF m 7 #[rv a, iv pv] [(.ref a)])) (fun t k => XS.pop X1.here hx rfl (hb hby z22_5) rfl rfl (XS.aloadN X1.here hx rfl (hb hby z22_6) rfl rfl k)) ?_
  exact Go.retR X1 hx Bd.notSynchronized Bd.returns rfl rfl rfl (hb hby z22_7) (by exact ⟨rfl, N1, K1, Fc1_0, Fc1_1, Fc1_2, Fc1_3⟩) (by decide) (by decide)
theorem z23_0 : decode jdk_68_method_64_code 0 = .ok (.aload_n 0, 1) := by decide +kernel
theorem z23_1 : decode jdk_68_method_64_code 1 = .ok (.getfield 15, 3) := by decide +kernel
theorem z23_4 : decode jdk_68_method_64_code 4 = .ok (.areturn, 1) := by decide +kernel
theorem efGv (m : MethodId) (x0 : Addr) : entryFrame m #[(.ref x0)] 1 = mkF m 0 #[rv x0] [] := by first | (simp [entryFrame, mkF, argsToLocals, Value.category]; done) | rfl
def QGv (Z : State) (a : Addr) (ar : Addr) (h0 : Heap) (n0 : Nat) (v : Option Value) (h : Heap) (L : List Loc) : Prop := v = some (.ref ar) ∧ Fr n0 L ∧ h = h0
set_option maxRecDepth 65536 in
set_option maxHeartbeats 40000000 in
theorem rmGv (l : Launch) (Z : State) (a0 : Array Value) (hw : ∀ d ∈ tables_1, d.before a0 Z = true) (ws : List Jvm.Cond) (a : Addr) (ar : Addr) (h0 : Heap) (n0 : Nat) (Gv : Fld Z h0 a "java/lang/AbstractStringBuilder" "value" "[B" (.ref ar)) :
    MetFree l (⟨"java/lang/AbstractStringBuilder", "getValue", "()[B"⟩ : MethodName) (head1 (Jvm.Cond.code (⟨"java/lang/AbstractStringBuilder", "getValue", "()[B"⟩ : MethodName) jdk_68_method_64_code 1 (some (.array .byte)) :: ws) ({ frames := 0, cells := 0, slots := 0, locals := 0 } : Room)) (fun as' U => as' = #[(.ref a)] ∧ Z.Warmed39 U.vm ∧ U.heap = h0) (fun _ _ _ _ _ => True) (fun _ U o U' => ∃ v L, o = .returned v ∧ QGv Z a ar h0 n0 v U'.heap L ∧ FrameEnd U o U' L ({ frames := 0, cells := 0, slots := 0, locals := 0 } : Room).cells ({ frames := 0, cells := 0, slots := 0, locals := 0 } : Room).slots) := by
  refine MetFree.of_bodySF (plainFor_of_name pn_java_lang_AbstractStringBuilder) hisR ?_
  intro p e s m args below meth c s₁ Bd hml0 hP hK
  obtain ⟨rfl, hZ, hh⟩ := hP
  have hx := Bd.exec
  have hby := Bd.bytes
  have hml : c.maxLocals = 1 := hml0
  have hown : s.vm.findClass "java/lang/AbstractStringBuilder" = some m.cls := findClass_of_methodNamed Bd.named
  have hnm := (name_of_methodNamed Bd.named Bd.method).1
  have X0 : Stand p l e ({ frames := 0, cells := 0, slots := 0, locals := 0 } : Room) s m #[(.ref a)] below meth c s₁ [] 0 0 := Stand.of_body Bd
  have e0 : s₁.heap = h0 := by rw [← hh, Bd.state]; rfl
  have N0 := Fr.nil n0
  show Go p e below s (fun v h L => QGv Z a ar h0 n0 v h L) 0 0 _
  refine Go.pull (V := s₁.setTop (mkF m 0 #[rv a] [])) (fun t k => castTop (efGv m a) k) ?_
  refine Go.pull (V := s₁.setTop (mkF m 1 #[rv a] [(.ref a)])) (fun t k => XS.aloadN X0.here hx rfl (hb hby z23_0) rfl rfl k) ?_
  obtain ⟨T1, X1, e1, st1⟩ := getF X0 hx hZ hown (host := "") (Or.inl (hw _ (List.mem_of_getElem? (i := 77) rfl))) Via.refl e0 Gv (g := (mkF m 1 #[rv a] [(.ref a)])) rfl rfl (hb hby z23_1)
  refine Go.pull (V := T1.setTop (mkF m 4 #[rv a] [(.ref ar)])) st1 ?_
  exact Go.retR X1 hx Bd.notSynchronized Bd.returns rfl rfl rfl (hb hby z23_4) ⟨rfl, N0, e1⟩ (by decide) (by decide)
theorem z24_0 : decode jdk_68_method_6_code 0 = .ok (.aload_n 0, 1) := by decide +kernel
theorem z24_1 : decode jdk_68_method_6_code 1 = .ok (.getfield 79, 3) := by decide +kernel
theorem z24_4 : decode jdk_68_method_6_code 4 = .ok (.ireturn, 1) := by decide +kernel
theorem efLn (m : MethodId) (x0 : Addr) : entryFrame m #[(.ref x0)] 1 = mkF m 0 #[rv x0] [] := by first | (simp [entryFrame, mkF, argsToLocals, Value.category]; done) | rfl
def QLn (Z : State) (a : Addr) (pn : Int32) (h0 : Heap) (n0 : Nat) (v : Option Value) (h : Heap) (L : List Loc) : Prop := v = some (.int pn) ∧ Fr n0 L ∧ h = h0
set_option maxRecDepth 65536 in
set_option maxHeartbeats 40000000 in
theorem rmLn (l : Launch) (Z : State) (a0 : Array Value) (hw : ∀ d ∈ tables_1, d.before a0 Z = true) (ws : List Jvm.Cond) (a : Addr) (pn : Int32) (h0 : Heap) (n0 : Nat) (Gn : Fld Z h0 a "java/lang/AbstractStringBuilder" "count" "I" (.int pn)) :
    MetFree l (⟨"java/lang/AbstractStringBuilder", "length", "()I"⟩ : MethodName) (head1 (Jvm.Cond.code (⟨"java/lang/AbstractStringBuilder", "length", "()I"⟩ : MethodName) jdk_68_method_6_code 1 (some .int) :: ws) ({ frames := 0, cells := 0, slots := 0, locals := 0 } : Room)) (fun as' U => as' = #[(.ref a)] ∧ Z.Warmed39 U.vm ∧ U.heap = h0) (fun _ _ _ _ _ => True) (fun _ U o U' => ∃ v L, o = .returned v ∧ QLn Z a pn h0 n0 v U'.heap L ∧ FrameEnd U o U' L ({ frames := 0, cells := 0, slots := 0, locals := 0 } : Room).cells ({ frames := 0, cells := 0, slots := 0, locals := 0 } : Room).slots) := by
  refine MetFree.of_bodySF (plainFor_of_name pn_java_lang_AbstractStringBuilder) hisR ?_
  intro p e s m args below meth c s₁ Bd hml0 hP hK
  obtain ⟨rfl, hZ, hh⟩ := hP
  have hx := Bd.exec
  have hby := Bd.bytes
  have hml : c.maxLocals = 1 := hml0
  have hown : s.vm.findClass "java/lang/AbstractStringBuilder" = some m.cls := findClass_of_methodNamed Bd.named
  have hnm := (name_of_methodNamed Bd.named Bd.method).1
  have X0 : Stand p l e ({ frames := 0, cells := 0, slots := 0, locals := 0 } : Room) s m #[(.ref a)] below meth c s₁ [] 0 0 := Stand.of_body Bd
  have e0 : s₁.heap = h0 := by rw [← hh, Bd.state]; rfl
  have N0 := Fr.nil n0
  show Go p e below s (fun v h L => QLn Z a pn h0 n0 v h L) 0 0 _
  refine Go.pull (V := s₁.setTop (mkF m 0 #[rv a] [])) (fun t k => castTop (efLn m a) k) ?_
  refine Go.pull (V := s₁.setTop (mkF m 1 #[rv a] [(.ref a)])) (fun t k => XS.aloadN X0.here hx rfl (hb hby z24_0) rfl rfl k) ?_
  obtain ⟨T1, X1, e1, st1⟩ := getF X0 hx hZ hown (host := "") (Or.inl (hw _ (List.mem_of_getElem? (i := 104) rfl))) Via.refl e0 Gn (g := (mkF m 1 #[rv a] [(.ref a)])) rfl rfl (hb hby z24_1)
  refine Go.pull (V := T1.setTop (mkF m 4 #[rv a] [(.int pn)])) st1 ?_
  exact Go.retI X1 hx Bd.notSynchronized Bd.returns (hb hby z24_4) ⟨rfl, N0, e1⟩ (by decide) (by decide)
theorem z25_0 : decode jdk_67_method_93_code 0 = .ok (.aload_n 0, 1) := by decide +kernel
theorem z25_1 : decode jdk_67_method_93_code 1 = .ok (.invokespecial 343, 3) := by decide +kernel
theorem z25_4 : decode jdk_67_method_93_code 4 = .ok (.ireturn, 1) := by decide +kernel
theorem efBl (m : MethodId) (x0 : Addr) : entryFrame m #[(.ref x0)] 1 = mkF m 0 #[rv x0] [] := by first | (simp [entryFrame, mkF, argsToLocals, Value.category]; done) | rfl
def QBl (Z : State) (a : Addr) (pn : Int32) (h0 : Heap) (n0 : Nat) (v : Option Value) (h : Heap) (L : List Loc) : Prop := v = some (.int pn) ∧ Fr n0 L ∧ h = h0
set_option maxRecDepth 65536 in
set_option maxHeartbeats 40000000 in
theorem rmBl (l : Launch) (Z : State) (a0 : Array Value) (hw : ∀ d ∈ tables_1, d.before a0 Z = true) (ws : List Jvm.Cond) (a : Addr) (pn : Int32) (h0 : Heap) (n0 : Nat) (Eb : Exa Z h0 a "java/lang/StringBuilder") (Gn : Fld Z h0 a "java/lang/AbstractStringBuilder" "count" "I" (.int pn)) :
    MetFree l (⟨"java/lang/StringBuilder", "length", "()I"⟩ : MethodName) (head1 (Jvm.Cond.code (⟨"java/lang/StringBuilder", "length", "()I"⟩ : MethodName) jdk_67_method_93_code 1 (some .int) :: ws) ({ frames := 1, cells := 0, slots := 0, locals := 12 } : Room)) (fun as' U => as' = #[(.ref a)] ∧ Z.Warmed39 U.vm ∧ U.heap = h0) (fun _ _ _ _ _ => True) (fun _ U o U' => ∃ v L, o = .returned v ∧ QBl Z a pn h0 n0 v U'.heap L ∧ FrameEnd U o U' L ({ frames := 1, cells := 0, slots := 0, locals := 12 } : Room).cells ({ frames := 1, cells := 0, slots := 0, locals := 12 } : Room).slots) := by
  refine MetFree.of_bodySF (plainFor_of_name pn_java_lang_StringBuilder) hisR ?_
  intro p e s m args below meth c s₁ Bd hml0 hP hK
  obtain ⟨rfl, hZ, hh⟩ := hP
  have hx := Bd.exec
  have hby := Bd.bytes
  have hml : c.maxLocals = 1 := hml0
  have hown : s.vm.findClass "java/lang/StringBuilder" = some m.cls := findClass_of_methodNamed Bd.named
  have hnm := (name_of_methodNamed Bd.named Bd.method).1
  have X0 : Stand p l e ({ frames := 1, cells := 0, slots := 0, locals := 12 } : Room) s m #[(.ref a)] below meth c s₁ [] 0 0 := Stand.of_body Bd
  have e0 : s₁.heap = h0 := by rw [← hh, Bd.state]; rfl
  have N0 := Fr.nil n0
  show Go p e below s (fun v h L => QBl Z a pn h0 n0 v h L) 0 0 _
  refine Go.pull (V := s₁.setTop (mkF m 0 #[rv a] [])) (fun t k => castTop (efBl m a) k) ?_
  refine Go.pull (V := s₁.setTop (mkF m 1 #[rv a] [(.ref a)])) (fun t k => XS.aloadN X0.here hx rfl (hb hby z25_0) rfl rfl k) ?_
  obtain ⟨_, _, ⟨T1, L1, k1, n1⟩, -, X1, ⟨Lc1, hQ1, l1, y1, z1⟩, st1⟩ := superBack X0 hx hZ (y := (⟨"java/lang/AbstractStringBuilder", "length", "()I"⟩ : MethodName)) hown (hw _ (List.mem_of_getElem? (i := 180) rfl)) (own_same (by decide) (hw _ (List.mem_of_getElem? (i := 175) rfl)) (hw _ (List.mem_of_getElem? (i := 109) rfl)) rfl) (hw _ (List.mem_of_getElem? (i := 176) rfl)) (hw _ (List.mem_of_getElem? (i := 89) rfl)) (by decide) (backOf (W := 0) (rmLn l Z a0 hw [] a pn h0 n0 Gn) hZ (hw _ (List.mem_of_getElem? (i := 181) rfl)) (hw _ (List.mem_of_getElem? (i := 73) rfl)) (by decide) (by decide)) e0 (Ins.self Eb) (g := (mkF m 1 #[rv a] [(.ref a)])) rfl (by rw [hml]; rfl) (hw _ (List.mem_of_getElem? (i := 181) rfl)) (argsL := []) (rest := []) (lenOf pd_6 rfl) rfl (by show 2 * 0 + _ ≤ _; exact Nat.le_of_eq rfl) (hb hby z25_1) (fun _ _ => ⟨rfl, e0, (by decide : 0 + 0 ≤ _), (by decide : 0 + 0 ≤ _)⟩)
  dsimp only [Pt.U, Pt.locs, Pt.cells, Pt.slots] at X1 l1 y1 z1 st1 hQ1
  subst l1 y1 z1
  obtain ⟨rfl, N1q, e1⟩ := hQ1
  have N1 := Fr.app N0 N1q
  refine Go.pull (V := T1.setTop (mkF m 4 #[rv a] [(.int pn)])) (fun _ k => st1.trans k) ?_
  exact Go.retI X1 hx Bd.notSynchronized Bd.returns (hb hby z25_4) ⟨rfl, N1, e1⟩ (by decide) (by decide)
def own_min (pa pb : Int32) : Int32 := if pb < pa then pb else pa
theorem z26_0 : decode jdk_29_method_69_code 0 = .ok (.iload_n 0, 1) := by decide +kernel
theorem z26_1 : decode jdk_29_method_69_code 1 = .ok (.iload_n 1, 1) := by decide +kernel
theorem z26_2 : decode jdk_29_method_69_code 2 = .ok (.if_icmp .gt 7, 3) := by decide +kernel
theorem z26_5 : decode jdk_29_method_69_code 5 = .ok (.iload_n 0, 1) := by decide +kernel
theorem z26_6 : decode jdk_29_method_69_code 6 = .ok (.goto 4, 3) := by decide +kernel
theorem z26_9 : decode jdk_29_method_69_code 9 = .ok (.iload_n 1, 1) := by decide +kernel
theorem z26_10 : decode jdk_29_method_69_code 10 = .ok (.ireturn, 1) := by decide +kernel
theorem efMi (m : MethodId) (x0 : Int32) (x1 : Int32) : entryFrame m #[(.int x0), (.int x1)] 2 = mkF m 0 #[iv x0, iv x1] [] := by first | (simp [entryFrame, mkF, argsToLocals, Value.category]; done) | rfl
def QMi (Z : State) (pa : Int32) (pb : Int32) (h0 : Heap) (n0 : Nat) (v : Option Value) (h : Heap) (L : List Loc) : Prop := v = some (.int (own_min pa pb)) ∧ Fr n0 L ∧ h = h0
set_option maxRecDepth 65536 in
set_option maxHeartbeats 40000000 in
theorem rmMi (l : Launch) (Z : State) (a0 : Array Value) (hw : ∀ d ∈ tables_1, d.before a0 Z = true) (ws : List Jvm.Cond) (pa : Int32) (pb : Int32) (h0 : Heap) (n0 : Nat) :
    MetFree l (⟨"java/lang/Math", "min", "(II)I"⟩ : MethodName) (head1 (Jvm.Cond.code (⟨"java/lang/Math", "min", "(II)I"⟩ : MethodName) jdk_29_method_69_code 2 (some .int) :: ws) ({ frames := 0, cells := 0, slots := 0, locals := 0 } : Room)) (fun as' U => as' = #[(.int pa), (.int pb)] ∧ Z.Warmed39 U.vm ∧ U.heap = h0) (fun _ _ _ _ _ => True) (fun _ U o U' => ∃ v L, o = .returned v ∧ QMi Z pa pb h0 n0 v U'.heap L ∧ FrameEnd U o U' L ({ frames := 0, cells := 0, slots := 0, locals := 0 } : Room).cells ({ frames := 0, cells := 0, slots := 0, locals := 0 } : Room).slots) := by
  refine MetFree.of_bodySF (Jvm.Free.JP.mathPlain rfl (by decide +kernel)) hisR ?_
  intro p e s m args below meth c s₁ Bd hml0 hP hK
  obtain ⟨rfl, hZ, hh⟩ := hP
  have hx := Bd.exec
  have hby := Bd.bytes
  have hml : c.maxLocals = 2 := hml0
  have hown : s.vm.findClass "java/lang/Math" = some m.cls := findClass_of_methodNamed Bd.named
  have hnm := (name_of_methodNamed Bd.named Bd.method).1
  have X0 : Stand p l e ({ frames := 0, cells := 0, slots := 0, locals := 0 } : Room) s m #[(.int pa), (.int pb)] below meth c s₁ [] 0 0 := Stand.of_body Bd
  have e0 : s₁.heap = h0 := by rw [← hh, Bd.state]; rfl
  have N0 := Fr.nil n0
  show Go p e below s (fun v h L => QMi Z pa pb h0 n0 v h L) 0 0 _
  refine Go.pull (V := s₁.setTop (mkF m 0 #[iv pa, iv pb] [])) (fun t k => castTop (efMi m pa pb) k) ?_
  refine Go.pull (V := s₁.setTop (mkF m 2 #[iv pa, iv pb] [(.int pb), (.int pa)])) (fun t k => XS.iloadN X0.here hx rfl (hb hby z26_0) rfl  (XS.iloadN X0.here hx rfl (hb hby z26_1) rfl  k)) ?_
  by_cases hc2_1 : pb < pa
  · skip
    refine Go.pull (V := s₁.setTop (mkF m 10 #[iv pa, iv pb] [(.int pb)])) (fun t k => XS.icmpYes X0.here hx rfl (pc0 := 2) (pc' := 9) rfl (hb hby z26_2) rfl (XT.ii_gt_t hc2_1) (by decide) (by decide) (XS.iloadN X0.here hx rfl (hb hby z26_9) rfl  k)) ?_
    exact Go.retI X0 hx Bd.notSynchronized Bd.returns (hb hby z26_10) ⟨(by rw [own_min, if_pos hc2_1] <;> rfl), N0, e0⟩ (by decide) (by decide)
  · skip
    refine Go.pull (V := s₁.setTop (mkF m 10 #[iv pa, iv pb] [(.int pa)])) (fun t k => XS.icmpNo X0.here hx rfl (hb hby z26_2) rfl (XT.ii_gt_f hc2_1) (XS.iloadN X0.here hx rfl (hb hby z26_5) rfl  (XS.goto X0.here hx rfl (pc0 := 6) (pc' := 10) rfl (hb hby z26_6) (by decide) (by decide) k))) ?_
    exact Go.retI X0 hx Bd.notSynchronized Bd.returns (hb hby z26_10) ⟨(by rw [own_min, if_neg hc2_1] <;> rfl), N0, e0⟩ (by decide) (by decide)
theorem z27_0 : decode jdk_65_method_131_code 0 = .ok (.iload_n 1, 1) := by decide +kernel
theorem z27_1 : decode jdk_65_method_131_code 1 = .ok (.iload_n 0, 1) := by decide +kernel
theorem z27_2 : decode jdk_65_method_131_code 2 = .ok (.if_icmp .ge 35, 3) := by decide +kernel
theorem z27_37 : decode jdk_65_method_131_code 37 = .ok (.return_, 1) := by decide +kernel
theorem efCk (m : MethodId) (x1 : Int32) : entryFrame m #[(.int 0), (.int x1)] 2 = mkF m 0 #[iv 0, iv x1] [] := by first | (simp [entryFrame, mkF, argsToLocals, Value.category]; done) | rfl
theorem pn_java_util_Arrays : plainName "java/util/Arrays" = true := by first | (simp [plainName, overriddenIn]; done) | decide +kernel
def QCk (Z : State) (pn : Int32) (h0 : Heap) (n0 : Nat) (v : Option Value) (h : Heap) (L : List Loc) : Prop := v = none ∧ Fr n0 L ∧ h = h0
set_option maxRecDepth 65536 in
set_option maxHeartbeats 40000000 in
theorem rmCk (l : Launch) (Z : State) (a0 : Array Value) (hw : ∀ d ∈ tables_1, d.before a0 Z = true) (ws : List Jvm.Cond) (pn : Int32) (h0 : Heap) (n0 : Nat) (hn0 : ¬ pn < 0) :
    MetFree l (⟨"java/util/Arrays", "checkLength", "(II)V"⟩ : MethodName) (head1 (Jvm.Cond.code (⟨"java/util/Arrays", "checkLength", "(II)V"⟩ : MethodName) jdk_65_method_131_code 2 none :: ws) ({ frames := 0, cells := 0, slots := 0, locals := 0 } : Room)) (fun as' U => as' = #[(.int 0), (.int pn)] ∧ Z.Warmed39 U.vm ∧ U.heap = h0) (fun _ _ _ _ _ => True) (fun _ U o U' => ∃ v L, o = .returned v ∧ QCk Z pn h0 n0 v U'.heap L ∧ FrameEnd U o U' L ({ frames := 0, cells := 0, slots := 0, locals := 0 } : Room).cells ({ frames := 0, cells := 0, slots := 0, locals := 0 } : Room).slots) := by
  refine MetFree.of_bodySF (plainFor_of_name pn_java_util_Arrays) hisR ?_
  intro p e s m args below meth c s₁ Bd hml0 hP hK
  obtain ⟨rfl, hZ, hh⟩ := hP
  have hx := Bd.exec
  have hby := Bd.bytes
  have hml : c.maxLocals = 2 := hml0
  have hown : s.vm.findClass "java/util/Arrays" = some m.cls := findClass_of_methodNamed Bd.named
  have hnm := (name_of_methodNamed Bd.named Bd.method).1
  have X0 : Stand p l e ({ frames := 0, cells := 0, slots := 0, locals := 0 } : Room) s m #[(.int 0), (.int pn)] below meth c s₁ [] 0 0 := Stand.of_body Bd
  have e0 : s₁.heap = h0 := by rw [← hh, Bd.state]; rfl
  have N0 := Fr.nil n0
  show Go p e below s (fun v h L => QCk Z pn h0 n0 v h L) 0 0 _
  refine Go.pull (V := s₁.setTop (mkF m 0 #[iv 0, iv pn] [])) (fun t k => castTop (efCk m pn) k) ?_
  refine Go.pull (V := s₁.setTop (mkF m 37 #[iv 0, iv pn] [])) (fun t k => XS.iloadN X0.here hx rfl (hb hby z27_0) rfl  (XS.iloadN X0.here hx rfl (hb hby z27_1) rfl  (XS.icmpYes X0.here hx rfl (pc0 := 2) (pc' := 37) rfl (hb hby z27_2) rfl (XT.ii_ge_t hn0) (by decide) (by decide) k))) ?_
  exact Go.ret0 X0 hx Bd.notSynchronized Bd.returns (hb hby z27_37) ⟨rfl, N0, e0⟩ (by decide) (by decide)
theorem z28_0 : decode jdk_65_method_133_code 0 = .ok (.iload_n 1, 1) := by decide +kernel
theorem z28_1 : decode jdk_65_method_133_code 1 = .ok (.iload_n 2, 1) := by decide +kernel
theorem z28_2 : decode jdk_65_method_133_code 2 = .ok (.invokestatic 343, 3) := by decide +kernel
theorem z28_5 : decode jdk_65_method_133_code 5 = .ok (.iload_n 2, 1) := by decide +kernel
theorem z28_6 : decode jdk_65_method_133_code 6 = .ok (.iload_n 1, 1) := by decide +kernel
theorem z28_7 : decode jdk_65_method_133_code 7 = .ok (.isub, 1) := by decide +kernel
theorem z28_8 : decode jdk_65_method_133_code 8 = .ok (.istore_n 3, 1) := by decide +kernel
theorem z28_9 : decode jdk_65_method_133_code 9 = .ok (.iload_n 3, 1) := by decide +kernel
theorem z28_10 : decode jdk_65_method_133_code 10 = .ok (.newarray .byte, 2) := by decide +kernel
theorem z28_12 : decode jdk_65_method_133_code 12 = .ok (.astore 4, 2) := by decide +kernel
theorem z28_14 : decode jdk_65_method_133_code 14 = .ok (.aload_n 0, 1) := by decide +kernel
theorem z28_15 : decode jdk_65_method_133_code 15 = .ok (.iload_n 1, 1) := by decide +kernel
theorem z28_16 : decode jdk_65_method_133_code 16 = .ok (.aload 4, 2) := by decide +kernel
theorem z28_18 : decode jdk_65_method_133_code 18 = .ok (.iconst 0, 1) := by decide +kernel
theorem z28_19 : decode jdk_65_method_133_code 19 = .ok (.aload_n 0, 1) := by decide +kernel
theorem z28_20 : decode jdk_65_method_133_code 20 = .ok (.arraylength, 1) := by decide +kernel
theorem z28_21 : decode jdk_65_method_133_code 21 = .ok (.iload_n 1, 1) := by decide +kernel
theorem z28_22 : decode jdk_65_method_133_code 22 = .ok (.isub, 1) := by decide +kernel
theorem z28_23 : decode jdk_65_method_133_code 23 = .ok (.iload_n 3, 1) := by decide +kernel
theorem z28_24 : decode jdk_65_method_133_code 24 = .ok (.invokestatic 304, 3) := by decide +kernel
theorem z28_27 : decode jdk_65_method_133_code 27 = .ok (.invokestatic 150, 3) := by decide +kernel
theorem z28_30 : decode jdk_65_method_133_code 30 = .ok (.aload 4, 2) := by decide +kernel
theorem z28_32 : decode jdk_65_method_133_code 32 = .ok (.areturn, 1) := by decide +kernel
theorem efCb (m : MethodId) (x0 : Addr) (x2 : Int32) : entryFrame m #[(.ref x0), (.int 0), (.int x2)] 5 = mkF m 0 #[rv x0, iv 0, iv x2, .unset, .unset] [] := by first | (simp [entryFrame, mkF, argsToLocals, Value.category]; done) | rfl
def QCb (Z : State) (ar : Addr) (pn : Int32) (kA : ClassId) (vs : List Value) (h0 : Heap) (n0 : Nat) (v : Option Value) (h : Heap) (L : List Loc) : Prop := ∃ (sa : Addr), ∃ (ks : ClassId), v = some (.ref sa) ∧ Fr n0 L ∧ Keep h0 h [] ∧ h0.size ≤ sa ∧ Exa Z h sa "[B" ∧ Arv Z h sa ks .byte pn (own_cut vs pn) (.int 0)
set_option maxRecDepth 65536 in
set_option maxHeartbeats 40000000 in
theorem rmCb (l : Launch) (Z : State) (a0 : Array Value) (hw : ∀ d ∈ tables_1, d.before a0 Z = true) (ws : List Jvm.Cond) (ar : Addr) (pn : Int32) (kA : ClassId) (vs : List Value) (h0 : Heap) (n0 : Nat) (Z0 : n0 ≤ h0.size) (Va : Arv Z h0 ar kA .byte (16 : Int32) vs (.int 0)) (hn0 : ¬ pn < 0) (hn16 : pn < 16) :
    MetFree l (⟨"java/util/Arrays", "copyOfRangeByte", "([BII)[B"⟩ : MethodName) (head1 (Jvm.Cond.code (⟨"java/util/Arrays", "copyOfRangeByte", "([BII)[B"⟩ : MethodName) jdk_65_method_133_code 5 (some (.array .byte)) :: ws) ({ frames := 1, cells := 1, slots := 16, locals := 18 } : Room)) (fun as' U => as' = #[(.ref ar), (.int 0), (.int pn)] ∧ Z.Warmed39 U.vm ∧ U.heap = h0) (fun _ _ _ _ _ => True) (fun _ U o U' => ∃ v L, o = .returned v ∧ QCb Z ar pn kA vs h0 n0 v U'.heap L ∧ FrameEnd U o U' L ({ frames := 1, cells := 1, slots := 16, locals := 18 } : Room).cells ({ frames := 1, cells := 1, slots := 16, locals := 18 } : Room).slots) := by
  refine MetFree.of_bodySF (plainFor_of_name pn_java_util_Arrays) hisR ?_
  intro p e s m args below meth c s₁ Bd hml0 hP hK
  obtain ⟨rfl, hZ, hh⟩ := hP
  have hx := Bd.exec
  have hby := Bd.bytes
  have hml : c.maxLocals = 5 := hml0
  have hown : s.vm.findClass "java/util/Arrays" = some m.cls := findClass_of_methodNamed Bd.named
  have hnm := (name_of_methodNamed Bd.named Bd.method).1
  have X0 : Stand p l e ({ frames := 1, cells := 1, slots := 16, locals := 18 } : Room) s m #[(.ref ar), (.int 0), (.int pn)] below meth c s₁ [] 0 0 := Stand.of_body Bd
  have e0 : s₁.heap = h0 := by rw [← hh, Bd.state]; rfl
  have N0 := Fr.nil n0
  show Go p e below s (fun v h L => QCb Z ar pn kA vs h0 n0 v h L) 1 16 _
  refine Go.pull (V := s₁.setTop (mkF m 0 #[rv ar, iv 0, iv pn, .unset, .unset] [])) (fun t k => castTop (efCb m ar pn) k) ?_
  refine Go.pull (V := s₁.setTop (mkF m 2 #[rv ar, iv 0, iv pn, .unset, .unset] [(.int pn), (.int 0)])) (fun t k => XS.iloadN X0.here hx rfl (hb hby z28_0) rfl  (XS.iloadN X0.here hx rfl (hb hby z28_1) rfl  k)) ?_
  obtain ⟨_, _, ⟨T1, L1, k1, n1⟩, -, X1, ⟨Lc1, hQ1, l1, y1, z1⟩, st1⟩ := Jvm.LawKit.callS X0 hx (y := (⟨"java/util/Arrays", "checkLength", "(II)V"⟩ : MethodName)) hown (mvT hZ (hw _ (List.mem_of_getElem? (i := 190) rfl))) (mvT hZ (hw _ (List.mem_of_getElem? (i := 191) rfl))) (mvT hZ (hw _ (List.mem_of_getElem? (i := 185) rfl))) (mvT hZ (hw _ (List.mem_of_getElem? (i := 192) rfl))) (by decide) (backOf (W := 0) (rmCk l Z a0 hw [] pn h0 n0 hn0) hZ (hw _ (List.mem_of_getElem? (i := 192) rfl)) (hw _ (List.mem_of_getElem? (i := 185) rfl)) (by decide) (by decide)) (g := (mkF m 2 #[rv ar, iv 0, iv pn, .unset, .unset] [(.int pn), (.int 0)])) rfl (by rw [hml]; rfl) (argsL := [(.int 0), (.int pn)]) (rest := []) (lenOf pd_13 rfl) rfl (by show 2 * 0 + _ ≤ _; exact Nat.le_of_eq rfl) (hb hby z28_2) (fun _ _ => ⟨rfl, e0, (by decide : 0 + 0 ≤ _), (by decide : 0 + 0 ≤ _)⟩)
  dsimp only [Pt.U, Pt.locs, Pt.cells, Pt.slots] at X1 l1 y1 z1 st1 hQ1
  subst l1 y1 z1
  obtain ⟨rfl, N1q, e1⟩ := hQ1
  have N1 := Fr.app N0 N1q
  refine Go.pull (V := T1.setTop (mkF m 5 #[rv ar, iv 0, iv pn, .unset, .unset] [])) st1 ?_
  refine Go.pull (V := T1.setTop (mkF m 8 #[rv ar, iv 0, iv pn, .unset, .unset] [(.int (pn - (0 : Int32)))])) (fun t k => XS.iloadN X1.here hx rfl (hb hby z28_5) rfl  (XS.iloadN X1.here hx rfl (hb hby z28_6) rfl  (XS.isub X1.here hx rfl (hb hby z28_7) rfl k))) ?_
  rw [show (pn - (0 : Int32)) = pn from own_sub0 _]
  refine Go.pull (V := T1.setTop (mkF m 10 #[rv ar, iv 0, iv pn, iv pn, .unset] [(.int pn)])) (fun t k => XS.istoreN X1.here hx rfl (hb hby z28_8) rfl (l' := #[rv ar, iv 0, iv pn, iv pn, .unset]) rfl (XS.iloadN X1.here hx rfl (hb hby z28_9) rfl  k)) ?_
  obtain ⟨T2, h2, k2, X2, e2, E2, A2, D2, st2⟩ := newPE X1 hx hZ (hw _ (List.mem_of_getElem? (i := 52) rfl)) e1 (g := (mkF m 10 #[rv ar, iv 0, iv pn, iv pn, .unset] [(.int pn)])) rfl (hb hby z28_10) rfl hn0 (cap := 16) (own_le16 hn16) (by decide) (by decide) (by decide) (ad := "[B") rfl
  obtain ⟨b2, g2⟩ : ∃ z, z = h0.size := ⟨_, rfl⟩
  rw [← g2] at A2 D2 st2
  have ne_ar_b2 : ar ≠ b2 := Nat.ne_of_lt (Nat.lt_of_lt_of_le Va.lt (Nat.le_of_eq g2.symm))
  have sz_b2 : h0.size ≤ b2 := Nat.le_trans ((Keep.refl h0 [])).1 (Nat.le_of_eq g2.symm)
  have g_b2 : n0 ≤ b2 := Nat.le_trans Z0 sz_b2
  have K2 : Keep h0 h2 [] := (Keep.refl h0 []).ext E2
  have V2 : Arv Z h2 b2 k2 .byte pn (List.replicate pn.toNatClampNeg (.int 0)) (.int 0) := (Arv.new A2 hn0).pad (pad_rep [] (.int 0) _)
  refine Go.pull (V := T2.setTop (mkF m 12 #[rv ar, iv 0, iv pn, iv pn, .unset] [(.ref b2)])) st2 ?_
  refine Go.pull (V := T2.setTop (mkF m 19 #[rv ar, iv 0, iv pn, iv pn, rv b2] [(.int 0), (.ref b2), (.int 0), (.ref ar)])) (fun t k => XS.astore X2.here hx rfl (hb hby z28_12) rfl rfl (l' := #[rv ar, iv 0, iv pn, iv pn, rv b2]) rfl (XS.aloadN X2.here hx rfl (hb hby z28_14) rfl rfl (XS.iloadN X2.here hx rfl (hb hby z28_15) rfl  (XS.aload X2.here hx rfl (hb hby z28_16) rfl rfl (XS.iconst X2.here hx rfl (hb hby z28_18) k))))) ?_
  refine Go.pull (V := T2.setTop (mkF m 20 #[rv ar, iv 0, iv pn, iv pn, rv b2] [(.ref ar), (.int 0), (.ref b2), (.int 0), (.ref ar)])) (fun t k => XS.aloadN X2.here hx rfl (hb hby z28_19) rfl rfl k) ?_
  obtain ⟨cl3, Ar3, q3, S3, M3, Hs3, G3⟩ := id (Va.ext E2)
  refine Go.pull (V := T2.setTop (mkF m 21 #[rv ar, iv 0, iv pn, iv pn, rv b2] [(.int 16), (.int 0), (.ref b2), (.int 0), (.ref ar)])) (fun t k => X2.arraylength hx (by rw [e2]; exact Ar3.1) (State.isArrayOf_alike hZ.alike Ar3.2.1) (g := (mkF m 20 #[rv ar, iv 0, iv pn, iv pn, rv b2] [(.ref ar), (.int 0), (.ref b2), (.int 0), (.ref ar)])) rfl rfl (hb hby z28_20) _ (by rw [len_of S3 M3]; exact k)) ?_
  refine Go.pull (V := T2.setTop (mkF m 24 #[rv ar, iv 0, iv pn, iv pn, rv b2] [(.int pn), (.int 16), (.int 0), (.ref b2), (.int 0), (.ref ar)])) (fun t k => XS.iloadN X2.here hx rfl (hb hby z28_21) rfl  (XS.isub X2.here hx rfl (hb hby z28_22) rfl (XS.iloadN X2.here hx rfl (hb hby z28_23) rfl  k))) ?_
  obtain ⟨_, _, ⟨T4, L4, k4, n4⟩, -, X4, ⟨Lc4, hQ4, l4, y4, z4⟩, st4⟩ := Jvm.LawKit.callS X2 hx (y := (⟨"java/lang/Math", "min", "(II)I"⟩ : MethodName)) hown (mvT hZ (hw _ (List.mem_of_getElem? (i := 193) rfl))) (mvT hZ (hw _ (List.mem_of_getElem? (i := 194) rfl))) (mvT hZ (hw _ (List.mem_of_getElem? (i := 195) rfl))) (mvT hZ (hw _ (List.mem_of_getElem? (i := 196) rfl))) (by decide) (backOf (W := 4) (rmMi l Z a0 hw [] (16 : Int32) pn h2 n0 ) hZ (hw _ (List.mem_of_getElem? (i := 196) rfl)) (hw _ (List.mem_of_getElem? (i := 195) rfl)) (by decide) (by decide)) (g := (mkF m 24 #[rv ar, iv 0, iv pn, iv pn, rv b2] [(.int pn), (.int 16), (.int 0), (.ref b2), (.int 0), (.ref ar)])) rfl (by rw [hml]; rfl) (argsL := [(.int 16), (.int pn)]) (rest := [(.int 0), (.ref b2), (.int 0), (.ref ar)]) (lenOf pd_14 rfl) rfl (by show 2 * 0 + _ ≤ _; exact Nat.le_of_eq rfl) (hb hby z28_24) (fun _ _ => ⟨rfl, e2, (by decide : 1 + 0 ≤ _), (by decide : 16 + 0 ≤ _)⟩)
  dsimp only [Pt.U, Pt.locs, Pt.cells, Pt.slots] at X4 l4 y4 z4 st4 hQ4
  subst l4 y4 z4
  obtain ⟨hv4, N4q, e4⟩ := hQ4
  rw [(show (own_min (16 : Int32) pn) = pn from by rw [own_min, if_pos hn16])] at hv4; subst hv4
  have N4 := Fr.app N1 N4q
  refine Go.pull (V := T4.setTop (mkF m 27 #[rv ar, iv 0, iv pn, iv pn, rv b2] [(.int pn), (.int 0), (.ref b2), (.int 0), (.ref ar)])) st4 ?_
  obtain ⟨T5, h5, L5, X5, e5, N5, Kc5, Va5, st5⟩ := cpA X4 hx hZ hown (hw _ (List.mem_of_getElem? (i := 197) rfl)) (hw _ (List.mem_of_getElem? (i := 130) rfl)) (hw _ (List.mem_of_getElem? (i := 128) rfl)) (hw _ (List.mem_of_getElem? (i := 129) rfl)) e4 (Va.ext E2) V2 (Or.inl ⟨rfl, rfl⟩) (by decide) (by decide) hn0 (own_le16' hn16) (Nat.le_of_eq (Nat.zero_add _)) (us := (own_cut vs pn)) rfl (by rw [List.length_replicate]; exact Nat.le_of_eq (Nat.zero_add _)) N4 g_b2 (g := (mkF m 27 #[rv ar, iv 0, iv pn, iv pn, rv b2] [(.int pn), (.int 0), (.ref b2), (.int 0), (.ref ar)])) rfl (by rw [hml]; rfl) rfl (hb hby z28_27) (by decide) (W := 0) (by show 2 * 0 + _ ≤ _; exact Nat.le_of_eq rfl) (by decide)
  have V5 : Arv Z h5 b2 k2 .byte pn (own_cut vs pn) (.int 0) := (by have z := Va5; rw [own_cpres] at z; exact z)
  have K5 : Keep h0 h5 [] := K2.trans Kc5 ((allS (Or.inr sz_b2) all0))
  refine Go.pull (V := T5.setTop (mkF m 30 #[rv ar, iv 0, iv pn, iv pn, rv b2] [])) st5 ?_
  refine Go.pull (V := T5.setTop (mkF m 32 #[rv ar, iv 0, iv pn, iv pn, rv b2] [(.ref b2)])) (fun t k => XS.aload X5.here hx rfl (hb hby z28_30) rfl rfl k) ?_
  exact Go.retR X5 hx Bd.notSynchronized Bd.returns rfl rfl rfl (hb hby z28_32) (by rw [e5]; exact ⟨b2, k2, rfl, N5, K5, sz_b2, (D2.keep Kc5), V5⟩) (by decide) (by decide)
theorem z29_0 : decode jdk_65_method_132_code 0 = .ok (.iload_n 1, 1) := by decide +kernel
theorem z29_1 : decode jdk_65_method_132_code 1 = .ok (.ifCond .ne 9, 3) := by decide +kernel
theorem z29_4 : decode jdk_65_method_132_code 4 = .ok (.iload_n 2, 1) := by decide +kernel
theorem z29_5 : decode jdk_65_method_132_code 5 = .ok (.aload_n 0, 1) := by decide +kernel
theorem z29_6 : decode jdk_65_method_132_code 6 = .ok (.arraylength, 1) := by decide +kernel
theorem z29_7 : decode jdk_65_method_132_code 7 = .ok (.if_icmp .eq 10, 3) := by decide +kernel
theorem z29_10 : decode jdk_65_method_132_code 10 = .ok (.aload_n 0, 1) := by decide +kernel
theorem z29_11 : decode jdk_65_method_132_code 11 = .ok (.iload_n 1, 1) := by decide +kernel
theorem z29_12 : decode jdk_65_method_132_code 12 = .ok (.iload_n 2, 1) := by decide +kernel
theorem z29_13 : decode jdk_65_method_132_code 13 = .ok (.invokestatic 339, 3) := by decide +kernel
theorem z29_16 : decode jdk_65_method_132_code 16 = .ok (.areturn, 1) := by decide +kernel
theorem efCr (m : MethodId) (x0 : Addr) (x2 : Int32) : entryFrame m #[(.ref x0), (.int 0), (.int x2)] 3 = mkF m 0 #[rv x0, iv 0, iv x2] [] := by first | (simp [entryFrame, mkF, argsToLocals, Value.category]; done) | rfl
def QCr (Z : State) (ar : Addr) (pn : Int32) (kA : ClassId) (vs : List Value) (h0 : Heap) (n0 : Nat) (v : Option Value) (h : Heap) (L : List Loc) : Prop := ∃ (sa : Addr), ∃ (ks : ClassId), v = some (.ref sa) ∧ Fr n0 L ∧ Keep h0 h [] ∧ h0.size ≤ sa ∧ Exa Z h sa "[B" ∧ Arv Z h sa ks .byte pn (own_cut vs pn) (.int 0)
set_option maxRecDepth 65536 in
set_option maxHeartbeats 40000000 in
theorem rmCr (l : Launch) (Z : State) (a0 : Array Value) (hw : ∀ d ∈ tables_1, d.before a0 Z = true) (ws : List Jvm.Cond) (ar : Addr) (pn : Int32) (kA : ClassId) (vs : List Value) (h0 : Heap) (n0 : Nat) (Z0 : n0 ≤ h0.size) (Va : Arv Z h0 ar kA .byte (16 : Int32) vs (.int 0)) (hn0 : ¬ pn < 0) (hn16 : pn < 16) :
    MetFree l (⟨"java/util/Arrays", "copyOfRange", "([BII)[B"⟩ : MethodName) (head1 (Jvm.Cond.code (⟨"java/util/Arrays", "copyOfRange", "([BII)[B"⟩ : MethodName) jdk_65_method_132_code 3 (some (.array .byte)) :: ws) ({ frames := 2, cells := 1, slots := 16, locals := 34 } : Room)) (fun as' U => as' = #[(.ref ar), (.int 0), (.int pn)] ∧ Z.Warmed39 U.vm ∧ U.heap = h0) (fun _ _ _ _ _ => True) (fun _ U o U' => ∃ v L, o = .returned v ∧ QCr Z ar pn kA vs h0 n0 v U'.heap L ∧ FrameEnd U o U' L ({ frames := 2, cells := 1, slots := 16, locals := 34 } : Room).cells ({ frames := 2, cells := 1, slots := 16, locals := 34 } : Room).slots) := by
  refine MetFree.of_bodySF (plainFor_of_name pn_java_util_Arrays) hisR ?_
  intro p e s m args below meth c s₁ Bd hml0 hP hK
  obtain ⟨rfl, hZ, hh⟩ := hP
  have hx := Bd.exec
  have hby := Bd.bytes
  have hml : c.maxLocals = 3 := hml0
  have hown : s.vm.findClass "java/util/Arrays" = some m.cls := findClass_of_methodNamed Bd.named
  have hnm := (name_of_methodNamed Bd.named Bd.method).1
  have X0 : Stand p l e ({ frames := 2, cells := 1, slots := 16, locals := 34 } : Room) s m #[(.ref ar), (.int 0), (.int pn)] below meth c s₁ [] 0 0 := Stand.of_body Bd
  have e0 : s₁.heap = h0 := by rw [← hh, Bd.state]; rfl
  have N0 := Fr.nil n0
  show Go p e below s (fun v h L => QCr Z ar pn kA vs h0 n0 v h L) 1 16 _
  refine Go.pull (V := s₁.setTop (mkF m 0 #[rv ar, iv 0, iv pn] [])) (fun t k => castTop (efCr m ar pn) k) ?_
  refine Go.pull (V := s₁.setTop (mkF m 6 #[rv ar, iv 0, iv pn] [(.ref ar), (.int pn)])) (fun t k => XS.iloadN X0.here hx rfl (hb hby z29_0) rfl  (XS.ifNo X0.here hx rfl (hb hby z29_1) rfl (XT.i0_ne_f (by decide)) (XS.iloadN X0.here hx rfl (hb hby z29_4) rfl  (XS.aloadN X0.here hx rfl (hb hby z29_5) rfl rfl k)))) ?_
  obtain ⟨cl1, Ar1, q1, S1, M1, Hs1, G1⟩ := id Va
  refine Go.pull (V := s₁.setTop (mkF m 7 #[rv ar, iv 0, iv pn] [(.int 16), (.int pn)])) (fun t k => X0.arraylength hx (by rw [e0]; exact Ar1.1) (State.isArrayOf_alike hZ.alike Ar1.2.1) (g := (mkF m 6 #[rv ar, iv 0, iv pn] [(.ref ar), (.int pn)])) rfl rfl (hb hby z29_6) _ (by rw [len_of S1 M1]; exact k)) ?_
  refine Go.pull (V := s₁.setTop (mkF m 13 #[rv ar, iv 0, iv pn] [(.int pn), (.int 0), (.ref ar)])) (fun t k => XS.icmpNo X0.here hx rfl (hb hby z29_7) rfl (XT.ii_eq_f (own_ne16 hn16)) (XS.aloadN X0.here hx rfl (hb hby z29_10) rfl rfl (XS.iloadN X0.here hx rfl (hb hby z29_11) rfl  (XS.iloadN X0.here hx rfl (hb hby z29_12) rfl  k)))) ?_
  obtain ⟨_, _, ⟨T2, L2, k2, n2⟩, -, X2, ⟨Lc2, hQ2, l2, y2, z2⟩, st2⟩ := Jvm.LawKit.callS X0 hx (y := (⟨"java/util/Arrays", "copyOfRangeByte", "([BII)[B"⟩ : MethodName)) hown (mvT hZ (hw _ (List.mem_of_getElem? (i := 187) rfl))) (mvT hZ (hw _ (List.mem_of_getElem? (i := 188) rfl))) (mvT hZ (hw _ (List.mem_of_getElem? (i := 185) rfl))) (mvT hZ (hw _ (List.mem_of_getElem? (i := 189) rfl))) (by decide) (backOf (W := 0) (rmCb l Z a0 hw [] ar pn kA (vs : List Value) h0 n0 (Nat.le_trans Z0 ((Keep.refl h0 [])).1) Va hn0 hn16) hZ (hw _ (List.mem_of_getElem? (i := 189) rfl)) (hw _ (List.mem_of_getElem? (i := 185) rfl)) (by decide) (by decide)) (g := (mkF m 13 #[rv ar, iv 0, iv pn] [(.int pn), (.int 0), (.ref ar)])) rfl (by rw [hml]; rfl) (argsL := [(.ref ar), (.int 0), (.int pn)]) (rest := []) (lenOf pd_15 rfl) rfl (by show 2 * 0 + _ ≤ _; exact Nat.le_of_eq rfl) (hb hby z29_13) (fun _ _ => ⟨rfl, e0, (by decide : 0 + 1 ≤ _), (by decide : 0 + 16 ≤ _)⟩)
  dsimp only [Pt.U, Pt.locs, Pt.cells, Pt.slots] at X2 l2 y2 z2 st2 hQ2
  subst l2 y2 z2
  obtain ⟨sa_2, ks_2, rfl, N2q, Kc2, nex2_0, Fc2_0, Fc2_1⟩ := hQ2
  have ne_ar_sa_2 : ar ≠ sa_2 := Nat.ne_of_lt (Nat.lt_of_lt_of_le Va.lt nex2_0)
  have sz_sa_2 : h0.size ≤ sa_2 := Nat.le_trans ((Keep.refl h0 [])).1 nex2_0
  have g_sa_2 : n0 ≤ sa_2 := Nat.le_trans Z0 sz_sa_2
  have K2 : Keep h0 T2.heap [] := (Keep.refl h0 []).trans Kc2 (all0)
  have N2 := Fr.app N0 N2q
  refine Go.pull (V := T2.setTop (mkF m 16 #[rv ar, iv 0, iv pn] [(.ref sa_2)])) st2 ?_
  exact Go.retR X2 hx Bd.notSynchronized Bd.returns rfl rfl rfl (hb hby z29_16) (by exact ⟨sa_2, ks_2, rfl, N2, K2, sz_sa_2, Fc2_0, Fc2_1⟩) (by decide) (by decide)
theorem z30_0 : decode jdk_42_method_150_code 0 = .ok (.aload_n 0, 1) := by decide +kernel
theorem z30_1 : decode jdk_42_method_150_code 1 = .ok (.invokespecial 1, 3) := by decide +kernel
theorem z30_4 : decode jdk_42_method_150_code 4 = .ok (.aload_n 1, 1) := by decide +kernel
theorem z30_5 : decode jdk_42_method_150_code 5 = .ok (.invokevirtual 552, 3) := by decide +kernel
theorem z30_8 : decode jdk_42_method_150_code 8 = .ok (.astore_n 3, 1) := by decide +kernel
theorem z30_9 : decode jdk_42_method_150_code 9 = .ok (.aload_n 1, 1) := by decide +kernel
theorem z30_10 : decode jdk_42_method_150_code 10 = .ok (.invokevirtual 549, 3) := by decide +kernel
theorem z30_13 : decode jdk_42_method_150_code 13 = .ok (.istore 4, 2) := by decide +kernel
theorem z30_15 : decode jdk_42_method_150_code 15 = .ok (.aload_n 1, 1) := by decide +kernel
theorem z30_16 : decode jdk_42_method_150_code 16 = .ok (.invokevirtual 1047, 3) := by decide +kernel
theorem z30_19 : decode jdk_42_method_150_code 19 = .ok (.ifCond .eq 22, 3) := by decide +kernel
theorem z30_22 : decode jdk_42_method_150_code 22 = .ok (.aload_n 0, 1) := by decide +kernel
theorem z30_23 : decode jdk_42_method_150_code 23 = .ok (.iconst 0, 1) := by decide +kernel
theorem z30_24 : decode jdk_42_method_150_code 24 = .ok (.putfield 15, 3) := by decide +kernel
theorem z30_27 : decode jdk_42_method_150_code 27 = .ok (.aload_n 0, 1) := by decide +kernel
theorem z30_28 : decode jdk_42_method_150_code 28 = .ok (.aload_n 3, 1) := by decide +kernel
theorem z30_29 : decode jdk_42_method_150_code 29 = .ok (.iconst 0, 1) := by decide +kernel
theorem z30_30 : decode jdk_42_method_150_code 30 = .ok (.iload 4, 2) := by decide +kernel
theorem z30_32 : decode jdk_42_method_150_code 32 = .ok (.invokestatic 54, 3) := by decide +kernel
theorem z30_35 : decode jdk_42_method_150_code 35 = .ok (.putfield 9, 3) := by decide +kernel
theorem z30_38 : decode jdk_42_method_150_code 38 = .ok (.goto 59, 3) := by decide +kernel
theorem z30_97 : decode jdk_42_method_150_code 97 = .ok (.return_, 1) := by decide +kernel
theorem efSi (m : MethodId) (x0 : Addr) (x1 : Addr) : entryFrame m #[(.ref x0), (.ref x1), .null] 5 = mkF m 0 #[rv x0, rv x1, .val .null, .unset, .unset] [] := by first | (simp [entryFrame, mkF, argsToLocals, Value.category]; done) | rfl
def QSi (Z : State) (a : Addr) (pb : Addr) (cs : Int32) (u0 : Value) (u1 : Value) (ar : Addr) (kA : ClassId) (pn : Int32) (vs : List Value) (h0 : Heap) (n0 : Nat) (v : Option Value) (h : Heap) (L : List Loc) : Prop := ∃ (sa : Addr), ∃ (ks : ClassId), v = none ∧ Fr n0 L ∧ Keep h0 h [a] ∧ h0.size ≤ sa ∧ Fld Z h a "java/lang/String" "coder" "B" (.int 0) ∧ Fld Z h a "java/lang/String" "value" "[B" (.ref sa) ∧ Exa Z h sa "[B" ∧ Arv Z h sa ks .byte pn (own_cut vs pn) (.int 0)
set_option maxRecDepth 65536 in
set_option maxHeartbeats 40000000 in
theorem rmSi (l : Launch) (Z : State) (a0 : Array Value) (hw : ∀ d ∈ tables_1, d.before a0 Z = true) (ws : List Jvm.Cond) (a : Addr) (pb : Addr) (cs : Int32) (u0 : Value) (u1 : Value) (ar : Addr) (kA : ClassId) (pn : Int32) (vs : List Value) (h0 : Heap) (n0 : Nat) (Z0 : n0 ≤ h0.size) (g_a : n0 ≤ a) (Scs : Sta Z h0 "java/lang/String" "COMPACT_STRINGS" "Z" (.int cs)) (Ea : Exa Z h0 a "java/lang/String") (F0' : Fld Z h0 a "java/lang/String" "value" "[B" u0) (F1' : Fld Z h0 a "java/lang/String" "coder" "B" u1) (Eb : Exa Z h0 pb "java/lang/StringBuilder") (Gv : Fld Z h0 pb "java/lang/AbstractStringBuilder" "value" "[B" (.ref ar)) (Er : Exa Z h0 ar "[B") (Gc : Fld Z h0 pb "java/lang/AbstractStringBuilder" "coder" "B" (.int 0)) (Gn : Fld Z h0 pb "java/lang/AbstractStringBuilder" "count" "I" (.int pn)) (Va : Arv Z h0 ar kA .byte (16 : Int32) vs (.int 0)) (hcs : ¬ cs = 0) (hn0 : ¬ pn < 0) (hn16 : pn < 16) (hba : pb ≠ a) (hra : ar ≠ a) :
    MetFree l (⟨"java/lang/String", "<init>", "(Ljava/lang/AbstractStringBuilder;Ljava/lang/Void;)V"⟩ : MethodName) (head1 (Jvm.Cond.code (⟨"java/lang/String", "<init>", "(Ljava/lang/AbstractStringBuilder;Ljava/lang/Void;)V"⟩ : MethodName) jdk_42_method_150_code 5 none :: ws) ({ frames := 3, cells := 1, slots := 16, locals := 49 } : Room)) (fun as' U => as' = #[(.ref a), (.ref pb), .null] ∧ Z.Warmed39 U.vm ∧ U.heap = h0) (fun _ _ _ _ _ => True) (fun _ U o U' => ∃ v L, o = .returned v ∧ QSi Z a pb cs u0 u1 ar kA pn vs h0 n0 v U'.heap L ∧ FrameEnd U o U' L ({ frames := 3, cells := 1, slots := 16, locals := 49 } : Room).cells ({ frames := 3, cells := 1, slots := 16, locals := 49 } : Room).slots) := by
  refine MetFree.of_bodySF (plainFor_of_name pn_java_lang_String) hisR ?_
  intro p e s m args below meth c s₁ Bd hml0 hP hK
  obtain ⟨rfl, hZ, hh⟩ := hP
  have hx := Bd.exec
  have hby := Bd.bytes
  have hml : c.maxLocals = 5 := hml0
  have hown : s.vm.findClass "java/lang/String" = some m.cls := findClass_of_methodNamed Bd.named
  have hnm := (name_of_methodNamed Bd.named Bd.method).1
  have X0 : Stand p l e ({ frames := 3, cells := 1, slots := 16, locals := 49 } : Room) s m #[(.ref a), (.ref pb), .null] below meth c s₁ [] 0 0 := Stand.of_body Bd
  have e0 : s₁.heap = h0 := by rw [← hh, Bd.state]; rfl
  have N0 := Fr.nil n0
  show Go p e below s (fun v h L => QSi Z a pb cs u0 u1 ar kA pn vs h0 n0 v h L) 1 16 _
  refine Go.pull (V := s₁.setTop (mkF m 0 #[rv a, rv pb, .val .null, .unset, .unset] [])) (fun t k => castTop (efSi m a pb) k) ?_
  refine Go.pull (V := s₁.setTop (mkF m 1 #[rv a, rv pb, .val .null, .unset, .unset] [(.ref a)])) (fun t k => XS.aloadN X0.here hx rfl (hb hby z30_0) rfl rfl k) ?_
  obtain ⟨T1, X1, e1, st1⟩ := initO X0 hx hZ hown (hw _ (List.mem_of_getElem? (i := 168) rfl)) (hw _ (List.mem_of_getElem? (i := 10) rfl)) (hw _ (List.mem_of_getElem? (i := 11) rfl)) e0 (g := (mkF m 1 #[rv a, rv pb, .val .null, .unset, .unset] [(.ref a)])) rfl (by rw [hml]; rfl) rfl (hb hby z30_1) (by decide) (W := 0) (by show 2 * 0 + _ ≤ _; exact Nat.le_of_eq rfl) (by decide)
  refine Go.pull (V := T1.setTop (mkF m 4 #[rv a, rv pb, .val .null, .unset, .unset] [])) st1 ?_
  refine Go.pull (V := T1.setTop (mkF m 5 #[rv a, rv pb, .val .null, .unset, .unset] [(.ref pb)])) (fun t k => XS.aloadN X1.here hx rfl (hb hby z30_4) rfl rfl k) ?_
  obtain ⟨cq2, kq2, q2a, q2b, q2c⟩ := isOf hZ e1 Eb
  obtain ⟨_, _, ⟨T2, L2, k2, n2⟩, -, X2, ⟨Lc2, hQ2, l2, y2, z2⟩, st2⟩ := X1.virtualBack hx (y := (⟨"java/lang/AbstractStringBuilder", "getValue", "()[B"⟩ : MethodName)) (z := (⟨"java/lang/AbstractStringBuilder", "getValue", "()[B"⟩ : MethodName)) hown (mvT hZ (hw _ (List.mem_of_getElem? (i := 169) rfl))) (mvT hZ (hw _ (List.mem_of_getElem? (i := 170) rfl))) (notFace_of_selects (args := #[]) (mvT hZ (hw _ (List.mem_of_getElem? (i := 172) rfl)))) (mvT hZ (hw _ (List.mem_of_getElem? (i := 172) rfl))) (mvT hZ (hw _ (List.mem_of_getElem? (i := 171) rfl))) (by decide) (backOf (W := 0) (rmGv l Z a0 hw [] pb ar h0 n0 Gv) hZ (hw _ (List.mem_of_getElem? (i := 173) rfl)) (hw _ (List.mem_of_getElem? (i := 73) rfl)) (by decide) (by decide)) q2a q2c (g := (mkF m 5 #[rv a, rv pb, .val .null, .unset, .unset] [(.ref pb)])) rfl (by rw [hml]; rfl) (Steps.refl _) (argsL := []) (rest := []) (lenOf pd_16 rfl) rfl (by show 2 * 0 + _ ≤ _; exact Nat.le_of_eq rfl) (hb hby z30_5) (fun _ _ => ⟨rfl, e1, (by decide : 0 + 0 ≤ _), (by decide : 0 + 0 ≤ _)⟩)
  dsimp only [Pt.U, Pt.locs, Pt.cells, Pt.slots] at X2 l2 y2 z2 st2 hQ2
  subst l2 y2 z2
  obtain ⟨rfl, N2q, e2⟩ := hQ2
  have N2 := Fr.app N0 N2q
  refine Go.pull (V := T2.setTop (mkF m 8 #[rv a, rv pb, .val .null, .unset, .unset] [(.ref ar)])) (fun _ k => st2.trans k) ?_
  refine Go.pull (V := T2.setTop (mkF m 10 #[rv a, rv pb, .val .null, rv ar, .unset] [(.ref pb)])) (fun t k => XS.astoreN X2.here hx rfl (hb hby z30_8) rfl rfl (l' := #[rv a, rv pb, .val .null, rv ar, .unset]) rfl (XS.aloadN X2.here hx rfl (hb hby z30_9) rfl rfl k)) ?_
  obtain ⟨cq3, kq3, q3a, q3b, q3c⟩ := isOf hZ e2 Eb
  obtain ⟨_, _, ⟨T3, L3, k3, n3⟩, -, X3, ⟨Lc3, hQ3, l3, y3, z3⟩, st3⟩ := X2.virtualBack hx (y := (⟨"java/lang/AbstractStringBuilder", "length", "()I"⟩ : MethodName)) (z := (⟨"java/lang/StringBuilder", "length", "()I"⟩ : MethodName)) hown (mvT hZ (hw _ (List.mem_of_getElem? (i := 174) rfl))) (mvT hZ (hw _ (List.mem_of_getElem? (i := 175) rfl))) (own_nface hZ (hw _ (List.mem_of_getElem? (i := 109) rfl)) rfl) (mvT hZ (hw _ (List.mem_of_getElem? (i := 177) rfl))) (mvT hZ (hw _ (List.mem_of_getElem? (i := 178) rfl))) (by decide) (backOf (W := 0) (rmBl l Z a0 hw [] pb pn h0 n0 Eb Gn) hZ (hw _ (List.mem_of_getElem? (i := 179) rfl)) (hw _ (List.mem_of_getElem? (i := 65) rfl)) (by decide) (by decide)) q3a q3c (g := (mkF m 10 #[rv a, rv pb, .val .null, rv ar, .unset] [(.ref pb)])) rfl (by rw [hml]; rfl) (Steps.refl _) (argsL := []) (rest := []) (lenOf pd_6 rfl) rfl (by show 2 * 0 + _ ≤ _; exact Nat.le_of_eq rfl) (hb hby z30_10) (fun _ _ => ⟨rfl, e2, (by decide : 0 + 0 ≤ _), (by decide : 0 + 0 ≤ _)⟩)
  dsimp only [Pt.U, Pt.locs, Pt.cells, Pt.slots] at X3 l3 y3 z3 st3 hQ3
  subst l3 y3 z3
  obtain ⟨rfl, N3q, e3⟩ := hQ3
  have N3 := Fr.app N2 N3q
  refine Go.pull (V := T3.setTop (mkF m 13 #[rv a, rv pb, .val .null, rv ar, .unset] [(.int pn)])) (fun _ k => st3.trans k) ?_
  refine Go.pull (V := T3.setTop (mkF m 16 #[rv a, rv pb, .val .null, rv ar, iv pn] [(.ref pb)])) (fun t k => XS.istore X3.here hx rfl (hb hby z30_13) rfl (l' := #[rv a, rv pb, .val .null, rv ar, iv pn]) rfl (XS.aloadN X3.here hx rfl (hb hby z30_15) rfl rfl k)) ?_
  obtain ⟨cq4, kq4, q4a, q4b, q4c⟩ := isOf hZ e3 Eb
  obtain ⟨_, _, ⟨T4, L4, k4, n4⟩, -, X4, ⟨Lc4, hQ4, l4, y4, z4⟩, st4⟩ := X3.virtualBack hx (y := (⟨"java/lang/AbstractStringBuilder", "isLatin1", "()Z"⟩ : MethodName)) (z := (⟨"java/lang/AbstractStringBuilder", "isLatin1", "()Z"⟩ : MethodName)) hown (mvT hZ (hw _ (List.mem_of_getElem? (i := 182) rfl))) (mvT hZ (hw _ (List.mem_of_getElem? (i := 145) rfl))) (notFace_of_selects (args := #[]) (mvT hZ (hw _ (List.mem_of_getElem? (i := 147) rfl)))) (mvT hZ (hw _ (List.mem_of_getElem? (i := 147) rfl))) (mvT hZ (hw _ (List.mem_of_getElem? (i := 146) rfl))) (by decide) (backOf (W := 0) (rmB1 l Z a0 hw [] pb cs h0 n0 Scs Gc hcs) hZ (hw _ (List.mem_of_getElem? (i := 148) rfl)) (hw _ (List.mem_of_getElem? (i := 73) rfl)) (by decide) (by decide)) q4a q4c (g := (mkF m 16 #[rv a, rv pb, .val .null, rv ar, iv pn] [(.ref pb)])) rfl (by rw [hml]; rfl) (Steps.refl _) (argsL := []) (rest := []) (lenOf pd_10 rfl) rfl (by show 2 * 0 + _ ≤ _; exact Nat.le_of_eq rfl) (hb hby z30_16) (fun _ _ => ⟨rfl, e3, (by decide : 0 + 0 ≤ _), (by decide : 0 + 0 ≤ _)⟩)
  dsimp only [Pt.U, Pt.locs, Pt.cells, Pt.slots] at X4 l4 y4 z4 st4 hQ4
  subst l4 y4 z4
  obtain ⟨rfl, N4q, e4⟩ := hQ4
  have N4 := Fr.app N3 N4q
  refine Go.pull (V := T4.setTop (mkF m 19 #[rv a, rv pb, .val .null, rv ar, iv pn] [(.int 1)])) (fun _ k => st4.trans k) ?_
  refine Go.pull (V := T4.setTop (mkF m 24 #[rv a, rv pb, .val .null, rv ar, iv pn] [(.int 0), (.ref a)])) (fun t k => XS.ifNo X4.here hx rfl (hb hby z30_19) rfl (XT.i0_eq_f (by decide)) (XS.aloadN X4.here hx rfl (hb hby z30_22) rfl rfl (XS.iconst X4.here hx rfl (hb hby z30_23) k))) ?_
  obtain ⟨T5, h5, X5, e5, W5, st5⟩ := putFN X4 hx hZ hown (hw _ (List.mem_of_getElem? (i := 103) rfl)) Via.refl e4 F1' Ea (Or.inr ⟨(hw _ (List.mem_of_getElem? (i := 54) rfl)), rfl, hnm⟩) (hw _ (List.mem_of_getElem? (i := 51) rfl)) (ty := .byte) (v := (.int 0)) (v' := (.int 0)) (by decide) rfl rfl (g := (mkF m 24 #[rv a, rv pb, .val .null, rv ar, iv pn] [(.int 0), (.ref a)])) rfl rfl (hb hby z30_24)
  have Fw5 : Fld Z h5 a "java/lang/String" "coder" "B" (.int 0) := F1'.same W5
  have K5 : Keep h0 h5 [a] := (Keep.refl h0 [a]).wr W5 (Or.inl (List.mem_of_getElem? (i := 0) rfl))
  have N5 := Fr.snoc X5 N4 g_a
  refine Go.pull (V := T5.setTop (mkF m 27 #[rv a, rv pb, .val .null, rv ar, iv pn] [])) st5 ?_
  refine Go.pull (V := T5.setTop (mkF m 32 #[rv a, rv pb, .val .null, rv ar, iv pn] [(.int pn), (.int 0), (.ref ar), (.ref a)])) (fun t k => XS.aloadN X5.here hx rfl (hb hby z30_27) rfl rfl (XS.aloadN X5.here hx rfl (hb hby z30_28) rfl rfl (XS.iconst X5.here hx rfl (hb hby z30_29) (XS.iload X5.here hx rfl (hb hby z30_30) rfl  k)))) ?_
  obtain ⟨_, _, ⟨T6, L6, k6, n6⟩, -, X6, ⟨Lc6, hQ6, l6, y6, z6⟩, st6⟩ := Jvm.LawKit.callS X5 hx (y := (⟨"java/util/Arrays", "copyOfRange", "([BII)[B"⟩ : MethodName)) hown (mvT hZ (hw _ (List.mem_of_getElem? (i := 183) rfl))) (mvT hZ (hw _ (List.mem_of_getElem? (i := 184) rfl))) (mvT hZ (hw _ (List.mem_of_getElem? (i := 185) rfl))) (mvT hZ (hw _ (List.mem_of_getElem? (i := 186) rfl))) (by decide) (backOf (W := 1) (rmCr l Z a0 hw [] ar pn kA (vs : List Value) h5 n0 (Nat.le_trans Z0 (K5).1) (Va.other W5 hra) hn0 hn16) hZ (hw _ (List.mem_of_getElem? (i := 186) rfl)) (hw _ (List.mem_of_getElem? (i := 185) rfl)) (by decide) (by decide)) (g := (mkF m 32 #[rv a, rv pb, .val .null, rv ar, iv pn] [(.int pn), (.int 0), (.ref ar), (.ref a)])) rfl (by rw [hml]; rfl) (argsL := [(.ref ar), (.int 0), (.int pn)]) (rest := [(.ref a)]) (lenOf pd_15 rfl) rfl (by show 2 * 0 + _ ≤ _; exact Nat.le_of_eq rfl) (hb hby z30_32) (fun _ _ => ⟨rfl, e5, (by decide : 0 + 1 ≤ _), (by decide : 0 + 16 ≤ _)⟩)
  dsimp only [Pt.U, Pt.locs, Pt.cells, Pt.slots] at X6 l6 y6 z6 st6 hQ6
  subst l6 y6 z6
  obtain ⟨sa_6, ks_6, rfl, N6q, Kc6, nex6_0, Fc6_0, Fc6_1⟩ := hQ6
  have ne_a_sa_6 : a ≠ sa_6 := Nat.ne_of_lt (Nat.lt_of_lt_of_le (Ea.wr W5).lt nex6_0)
  have ne_pb_sa_6 : pb ≠ sa_6 := Nat.ne_of_lt (Nat.lt_of_lt_of_le (Eb.wr W5).lt nex6_0)
  have ne_ar_sa_6 : ar ≠ sa_6 := Nat.ne_of_lt (Nat.lt_of_lt_of_le (Er.wr W5).lt nex6_0)
  have sz_sa_6 : h0.size ≤ sa_6 := Nat.le_trans (K5).1 nex6_0
  have g_sa_6 : n0 ≤ sa_6 := Nat.le_trans Z0 sz_sa_6
  have K6 : Keep h0 T6.heap [a] := K5.trans Kc6 (all0)
  have N6 := Fr.app N5 N6q
  refine Go.pull (V := T6.setTop (mkF m 35 #[rv a, rv pb, .val .null, rv ar, iv pn] [(.ref sa_6), (.ref a)])) st6 ?_
  obtain ⟨T7, h7, X7, e7, W7, st7⟩ := putF X6 hx hZ hown (host := "") (Or.inl (hw _ (List.mem_of_getElem? (i := 62) rfl))) Via.refl rfl ((F0'.other W5 (Or.inr (slot_ne (Or.inr (hw _ (List.mem_of_getElem? (i := 53) rfl))) (Or.inr (hw _ (List.mem_of_getElem? (i := 54) rfl))) (by decide) (t := (.array .byte)) (t' := .byte) (by decide) (by decide)))).keep Kc6 nin0) ((Ea.wr W5).keep Kc6) (Or.inr ⟨(hw _ (List.mem_of_getElem? (i := 53) rfl)), rfl, hnm⟩) (hw _ (List.mem_of_getElem? (i := 51) rfl)) (ty := (.array .byte)) (by decide) rfl rfl (g := (mkF m 35 #[rv a, rv pb, .val .null, rv ar, iv pn] [(.ref sa_6), (.ref a)])) rfl rfl (hb hby z30_35)
  have Fw7 : Fld Z h7 a "java/lang/String" "value" "[B" (.ref sa_6) := ((F0'.other W5 (Or.inr (slot_ne (Or.inr (hw _ (List.mem_of_getElem? (i := 53) rfl))) (Or.inr (hw _ (List.mem_of_getElem? (i := 54) rfl))) (by decide) (t := (.array .byte)) (t' := .byte) (by decide) (by decide)))).keep Kc6 nin0).same W7
  have K7 : Keep h0 h7 [a] := K6.wr W7 (Or.inl (List.mem_of_getElem? (i := 0) rfl))
  have N7 := Fr.snoc X7 N6 g_a
  refine Go.pull (V := T7.setTop (mkF m 38 #[rv a, rv pb, .val .null, rv ar, iv pn] [])) st7 ?_
  refine Go.pull (V := T7.setTop (mkF m 97 #[rv a, rv pb, .val .null, rv ar, iv pn] [])) (fun t k => XS.goto X7.here hx rfl (pc0 := 38) (pc' := 97) rfl (hb hby z30_38) (by decide) (by decide) k) ?_
  exact Go.ret0 X7 hx Bd.notSynchronized Bd.returns (hb hby z30_97) (by rw [e7]; exact ⟨sa_6, ks_6, rfl, N7, K7, sz_sa_6, ((Fw5.keep Kc6 nin0).other W7 (Or.inr (slot_ne (Or.inr (hw _ (List.mem_of_getElem? (i := 54) rfl))) (Or.inr (hw _ (List.mem_of_getElem? (i := 53) rfl))) (by decide) (t := .byte) (t' := (.array .byte)) (by decide) (by decide)))), Fw7, (Fc6_0.wr W7), (Fc6_1.other W7 (Ne.symm (ne_a_sa_6)))⟩) (by decide) (by decide)
theorem z31_0 : decode jdk_42_method_53_code 0 = .ok (.aload_n 0, 1) := by decide +kernel
theorem z31_1 : decode jdk_42_method_53_code 1 = .ok (.aload_n 1, 1) := by decide +kernel
theorem z31_2 : decode jdk_42_method_53_code 2 = .ok (.aconst_null, 1) := by decide +kernel
theorem z31_3 : decode jdk_42_method_53_code 3 = .ok (.invokespecial 489, 3) := by decide +kernel
theorem z31_6 : decode jdk_42_method_53_code 6 = .ok (.return_, 1) := by decide +kernel
theorem efSj (m : MethodId) (x0 : Addr) (x1 : Addr) : entryFrame m #[(.ref x0), (.ref x1)] 2 = mkF m 0 #[rv x0, rv x1] [] := by first | (simp [entryFrame, mkF, argsToLocals, Value.category]; done) | rfl
def QSj (Z : State) (a : Addr) (pb : Addr) (cs : Int32) (u0 : Value) (u1 : Value) (ar : Addr) (kA : ClassId) (pn : Int32) (vs : List Value) (h0 : Heap) (n0 : Nat) (v : Option Value) (h : Heap) (L : List Loc) : Prop := ∃ (sa : Addr), ∃ (ks : ClassId), v = none ∧ Fr n0 L ∧ Keep h0 h [a] ∧ h0.size ≤ sa ∧ Fld Z h a "java/lang/String" "coder" "B" (.int 0) ∧ Fld Z h a "java/lang/String" "value" "[B" (.ref sa) ∧ Exa Z h sa "[B" ∧ Arv Z h sa ks .byte pn (own_cut vs pn) (.int 0)
set_option maxRecDepth 65536 in
set_option maxHeartbeats 40000000 in
theorem rmSj (l : Launch) (Z : State) (a0 : Array Value) (hw : ∀ d ∈ tables_1, d.before a0 Z = true) (ws : List Jvm.Cond) (a : Addr) (pb : Addr) (cs : Int32) (u0 : Value) (u1 : Value) (ar : Addr) (kA : ClassId) (pn : Int32) (vs : List Value) (h0 : Heap) (n0 : Nat) (Z0 : n0 ≤ h0.size) (g_a : n0 ≤ a) (Scs : Sta Z h0 "java/lang/String" "COMPACT_STRINGS" "Z" (.int cs)) (Ea : Exa Z h0 a "java/lang/String") (F0' : Fld Z h0 a "java/lang/String" "value" "[B" u0) (F1' : Fld Z h0 a "java/lang/String" "coder" "B" u1) (Eb : Exa Z h0 pb "java/lang/StringBuilder") (Gv : Fld Z h0 pb "java/lang/AbstractStringBuilder" "value" "[B" (.ref ar)) (Er : Exa Z h0 ar "[B") (Gc : Fld Z h0 pb "java/lang/AbstractStringBuilder" "coder" "B" (.int 0)) (Gn : Fld Z h0 pb "java/lang/AbstractStringBuilder" "count" "I" (.int pn)) (Va : Arv Z h0 ar kA .byte (16 : Int32) vs (.int 0)) (hcs : ¬ cs = 0) (hn0 : ¬ pn < 0) (hn16 : pn < 16) (hba : pb ≠ a) (hra : ar ≠ a) :
    MetFree l (⟨"java/lang/String", "<init>", "(Ljava/lang/StringBuilder;)V"⟩ : MethodName) (head1 (Jvm.Cond.code (⟨"java/lang/String", "<init>", "(Ljava/lang/StringBuilder;)V"⟩ : MethodName) jdk_42_method_53_code 2 none :: ws) ({ frames := 4, cells := 1, slots := 16, locals := 65 } : Room)) (fun as' U => as' = #[(.ref a), (.ref pb)] ∧ Z.Warmed39 U.vm ∧ U.heap = h0) (fun _ _ _ _ _ => True) (fun _ U o U' => ∃ v L, o = .returned v ∧ QSj Z a pb cs u0 u1 ar kA pn vs h0 n0 v U'.heap L ∧ FrameEnd U o U' L ({ frames := 4, cells := 1, slots := 16, locals := 65 } : Room).cells ({ frames := 4, cells := 1, slots := 16, locals := 65 } : Room).slots) := by
  refine MetFree.of_bodySF (plainFor_of_name pn_java_lang_String) hisR ?_
  intro p e s m args below meth c s₁ Bd hml0 hP hK
  obtain ⟨rfl, hZ, hh⟩ := hP
  have hx := Bd.exec
  have hby := Bd.bytes
  have hml : c.maxLocals = 2 := hml0
  have hown : s.vm.findClass "java/lang/String" = some m.cls := findClass_of_methodNamed Bd.named
  have hnm := (name_of_methodNamed Bd.named Bd.method).1
  have X0 : Stand p l e ({ frames := 4, cells := 1, slots := 16, locals := 65 } : Room) s m #[(.ref a), (.ref pb)] below meth c s₁ [] 0 0 := Stand.of_body Bd
  have e0 : s₁.heap = h0 := by rw [← hh, Bd.state]; rfl
  have N0 := Fr.nil n0
  show Go p e below s (fun v h L => QSj Z a pb cs u0 u1 ar kA pn vs h0 n0 v h L) 1 16 _
  refine Go.pull (V := s₁.setTop (mkF m 0 #[rv a, rv pb] [])) (fun t k => castTop (efSj m a pb) k) ?_
  refine Go.pull (V := s₁.setTop (mkF m 3 #[rv a, rv pb] [.null, (.ref pb), (.ref a)])) (fun t k => XS.aloadN X0.here hx rfl (hb hby z31_0) rfl rfl (XS.aloadN X0.here hx rfl (hb hby z31_1) rfl rfl (XS.aconstNull X0.here hx rfl (hb hby z31_2) k))) ?_
  obtain ⟨_, _, ⟨T1, L1, k1, n1⟩, -, X1, ⟨Lc1, hQ1, l1, y1, z1⟩, st1⟩ := X0.specialBack hx (y := (⟨"java/lang/String", "<init>", "(Ljava/lang/AbstractStringBuilder;Ljava/lang/Void;)V"⟩ : MethodName)) rfl hown (mvT hZ (hw _ (List.mem_of_getElem? (i := 165) rfl))) (mvT hZ (hw _ (List.mem_of_getElem? (i := 166) rfl))) (mvT hZ (hw _ (List.mem_of_getElem? (i := 167) rfl))) (by decide) (backOf (W := 0) (rmSi l Z a0 hw [] a pb cs u0 u1 ar kA pn (vs : List Value) h0 n0 (Nat.le_trans Z0 ((Keep.refl h0 [a])).1) (g_a) Scs Ea F0' F1' Eb Gv Er Gc Gn Va hcs hn0 hn16 hba hra) hZ (hw _ (List.mem_of_getElem? (i := 167) rfl)) (hw _ (List.mem_of_getElem? (i := 50) rfl)) (by decide) (by decide)) (g := (mkF m 3 #[rv a, rv pb] [.null, (.ref pb), (.ref a)])) rfl (by rw [hml]; rfl) (Steps.refl _) (a := a) (argsL := [(.ref pb), .null]) (rest := []) (lenOf pd_17 rfl) rfl (by show 2 * 0 + _ ≤ _; exact Nat.le_of_eq rfl) (hb hby z31_3) (fun _ _ => ⟨rfl, e0, (by decide : 0 + 1 ≤ _), (by decide : 0 + 16 ≤ _)⟩)
  dsimp only [Pt.U, Pt.locs, Pt.cells, Pt.slots] at X1 l1 y1 z1 st1 hQ1
  subst l1 y1 z1
  obtain ⟨sa_1, ks_1, rfl, N1q, Kc1, nex1_0, Fc1_0, Fc1_1, Fc1_2, Fc1_3⟩ := hQ1
  have ne_a_sa_1 : a ≠ sa_1 := Nat.ne_of_lt (Nat.lt_of_lt_of_le Ea.lt nex1_0)
  have ne_pb_sa_1 : pb ≠ sa_1 := Nat.ne_of_lt (Nat.lt_of_lt_of_le Eb.lt nex1_0)
  have ne_ar_sa_1 : ar ≠ sa_1 := Nat.ne_of_lt (Nat.lt_of_lt_of_le Er.lt nex1_0)
  have sz_sa_1 : h0.size ≤ sa_1 := Nat.le_trans ((Keep.refl h0 [a])).1 nex1_0
  have g_sa_1 : n0 ≤ sa_1 := Nat.le_trans Z0 sz_sa_1
  have K1 : Keep h0 T1.heap [a] := (Keep.refl h0 [a]).trans Kc1 ((allS (Or.inl (List.mem_of_getElem? (i := 0) rfl)) all0))
  have N1 := Fr.app N0 N1q
  refine Go.pull (V := T1.setTop (mkF m 6 #[rv a, rv pb] [])) (fun _ k => st1.trans k) ?_
  exact Go.ret0 X1 hx Bd.notSynchronized Bd.returns (hb hby z31_6) (by exact ⟨sa_1, ks_1, rfl, N1, K1, sz_sa_1, Fc1_0, Fc1_1, Fc1_2, Fc1_3⟩) (by decide) (by decide)
theorem z32_0 : decode jdk_67_method_42_code 0 = .ok (.new 18, 3) := by decide +kernel
theorem z32_3 : decode jdk_67_method_42_code 3 = .ok (.dup, 1) := by decide +kernel
theorem z32_4 : decode jdk_67_method_42_code 4 = .ok (.aload_n 0, 1) := by decide +kernel
theorem z32_5 : decode jdk_67_method_42_code 5 = .ok (.invokespecial 137, 3) := by decide +kernel
theorem z32_8 : decode jdk_67_method_42_code 8 = .ok (.areturn, 1) := by decide +kernel
theorem efBt (m : MethodId) (x0 : Addr) : entryFrame m #[(.ref x0)] 1 = mkF m 0 #[rv x0] [] := by first | (simp [entryFrame, mkF, argsToLocals, Value.category]; done) | rfl
def QBt (Z : State) (a : Addr) (cs : Int32) (ar : Addr) (kA : ClassId) (pn : Int32) (vs : List Value) (h0 : Heap) (n0 : Nat) (v : Option Value) (h : Heap) (L : List Loc) : Prop := ∃ (po : Addr), ∃ (sa : Addr), ∃ (ks : ClassId), v = some (.ref po) ∧ Fr n0 L ∧ Keep h0 h [] ∧ h0.size ≤ po ∧ h0.size ≤ sa ∧ Exa Z h po "java/lang/String" ∧ Fld Z h po "java/lang/String" "coder" "B" (.int 0) ∧ Fld Z h po "java/lang/String" "value" "[B" (.ref sa) ∧ Exa Z h sa "[B" ∧ Arv Z h sa ks .byte pn (own_cut vs pn) (.int 0)
set_option maxRecDepth 65536 in
set_option maxHeartbeats 40000000 in
theorem rmBt (l : Launch) (Z : State) (a0 : Array Value) (hw : ∀ d ∈ tables_1, d.before a0 Z = true) (ws : List Jvm.Cond) (a : Addr) (cs : Int32) (ar : Addr) (kA : ClassId) (pn : Int32) (vs : List Value) (h0 : Heap) (n0 : Nat) (Z0 : n0 ≤ h0.size) (Scs : Sta Z h0 "java/lang/String" "COMPACT_STRINGS" "Z" (.int cs)) (Eb : Exa Z h0 a "java/lang/StringBuilder") (Gv : Fld Z h0 a "java/lang/AbstractStringBuilder" "value" "[B" (.ref ar)) (Er : Exa Z h0 ar "[B") (Gc : Fld Z h0 a "java/lang/AbstractStringBuilder" "coder" "B" (.int 0)) (Gn : Fld Z h0 a "java/lang/AbstractStringBuilder" "count" "I" (.int pn)) (Va : Arv Z h0 ar kA .byte (16 : Int32) vs (.int 0)) (hcs : ¬ cs = 0) (hn0 : ¬ pn < 0) (hn16 : pn < 16) :
    MetFree l (⟨"java/lang/StringBuilder", "toString", "()Ljava/lang/String;"⟩ : MethodName) (head1 (Jvm.Cond.code (⟨"java/lang/StringBuilder", "toString", "()Ljava/lang/String;"⟩ : MethodName) jdk_67_method_42_code 1 (some (.object "java/lang/String")) :: ws) ({ frames := 5, cells := 2, slots := 20, locals := 79 } : Room)) (fun as' U => as' = #[(.ref a)] ∧ Z.Warmed39 U.vm ∧ U.heap = h0) (fun _ _ _ _ _ => True) (fun _ U o U' => ∃ v L, o = .returned v ∧ QBt Z a cs ar kA pn vs h0 n0 v U'.heap L ∧ FrameEnd U o U' L ({ frames := 5, cells := 2, slots := 20, locals := 79 } : Room).cells ({ frames := 5, cells := 2, slots := 20, locals := 79 } : Room).slots) := by
  refine MetFree.of_bodySF (plainFor_of_name pn_java_lang_StringBuilder) hisR ?_
  intro p e s m args below meth c s₁ Bd hml0 hP hK
  obtain ⟨rfl, hZ, hh⟩ := hP
  have hx := Bd.exec
  have hby := Bd.bytes
  have hml : c.maxLocals = 1 := hml0
  have hown : s.vm.findClass "java/lang/StringBuilder" = some m.cls := findClass_of_methodNamed Bd.named
  have hnm := (name_of_methodNamed Bd.named Bd.method).1
  have X0 : Stand p l e ({ frames := 5, cells := 2, slots := 20, locals := 79 } : Room) s m #[(.ref a)] below meth c s₁ [] 0 0 := Stand.of_body Bd
  have e0 : s₁.heap = h0 := by rw [← hh, Bd.state]; rfl
  have N0 := Fr.nil n0
  show Go p e below s (fun v h L => QBt Z a cs ar kA pn vs h0 n0 v h L) 2 20 _
  refine Go.pull (V := s₁.setTop (mkF m 0 #[rv a] [])) (fun t k => castTop (efBt m a) k) ?_
  obtain ⟨T1, h1, X1, e1, E1, A1, D1, -, st1⟩ := newO X0 hx hZ hown (hw _ (List.mem_of_getElem? (i := 160) rfl)) (hw _ (List.mem_of_getElem? (i := 51) rfl)) (hw _ (List.mem_of_getElem? (i := 50) rfl)) e0 (g := (mkF m 0 #[rv a] [])) rfl (hb hby z32_0) (by decide) (by decide)
  obtain ⟨b1, g1⟩ : ∃ z, z = h0.size := ⟨_, rfl⟩
  rw [← g1] at A1 D1 st1
  have ne_a_b1 : a ≠ b1 := Nat.ne_of_lt (Nat.lt_of_lt_of_le Eb.lt (Nat.le_of_eq g1.symm))
  have ne_ar_b1 : ar ≠ b1 := Nat.ne_of_lt (Nat.lt_of_lt_of_le Er.lt (Nat.le_of_eq g1.symm))
  have sz_b1 : h0.size ≤ b1 := Nat.le_trans ((Keep.refl h0 [])).1 (Nat.le_of_eq g1.symm)
  have g_b1 : n0 ≤ b1 := Nat.le_trans Z0 sz_b1
  have K1 : Keep h0 h1 [] := (Keep.refl h0 []).ext E1
  have F2 : Fld Z h1 b1 "java/lang/String" "value" "[B" .null := D1 (Or.inr (hw _ (List.mem_of_getElem? (i := 53) rfl))) (ty := (.array .byte)) (by decide)
  have F3 : Fld Z h1 b1 "java/lang/String" "coder" "B" (.int 0) := D1 (Or.inr (hw _ (List.mem_of_getElem? (i := 54) rfl))) (ty := .byte) (by decide)
  refine Go.pull (V := T1.setTop (mkF m 3 #[rv a] [(.ref b1)])) st1 ?_
  refine Go.pull (V := T1.setTop (mkF m 5 #[rv a] [(.ref a), (.ref b1), (.ref b1)])) (fun t k => XS.dup X1.here hx rfl (hb hby z32_3) rfl rfl (XS.aloadN X1.here hx rfl (hb hby z32_4) rfl rfl k)) ?_
  obtain ⟨_, _, ⟨T4, L4, k4, n4⟩, -, X4, ⟨Lc4, hQ4, l4, y4, z4⟩, st4⟩ := X1.specialBack hx (y := (⟨"java/lang/String", "<init>", "(Ljava/lang/StringBuilder;)V"⟩ : MethodName)) rfl hown (mvT hZ (hw _ (List.mem_of_getElem? (i := 161) rfl))) (mvT hZ (hw _ (List.mem_of_getElem? (i := 162) rfl))) (mvT hZ (hw _ (List.mem_of_getElem? (i := 164) rfl))) (by decide) (backOf (W := 1) (rmSj l Z a0 hw [] b1 a cs .null (.int 0) ar kA pn (vs : List Value) h1 n0 (Nat.le_trans Z0 (K1).1) (g_b1) (Scs.ext E1) A1 F2 F3 (Eb.ext E1) (Gv.ext E1) (Er.ext E1) (Gc.ext E1) (Gn.ext E1) (Va.ext E1) hcs hn0 hn16 ((ne_a_b1)) ((ne_ar_b1))) hZ (hw _ (List.mem_of_getElem? (i := 164) rfl)) (hw _ (List.mem_of_getElem? (i := 50) rfl)) (by decide) (by decide)) (g := (mkF m 5 #[rv a] [(.ref a), (.ref b1), (.ref b1)])) rfl (by rw [hml]; rfl) (Steps.refl _) (a := b1) (argsL := [(.ref a)]) (rest := [(.ref b1)]) (lenOf pd_18 rfl) rfl (by show 2 * 0 + _ ≤ _; exact Nat.le_of_eq rfl) (hb hby z32_5) (fun _ _ => ⟨rfl, e1, (by decide : 1 + 1 ≤ _), (by decide : 4 + 16 ≤ _)⟩)
  dsimp only [Pt.U, Pt.locs, Pt.cells, Pt.slots] at X4 l4 y4 z4 st4 hQ4
  subst l4 y4 z4
  obtain ⟨sa_4, ks_4, rfl, N4q, Kc4, nex4_0, Fc4_0, Fc4_1, Fc4_2, Fc4_3⟩ := hQ4
  have ne_a_sa_4 : a ≠ sa_4 := Nat.ne_of_lt (Nat.lt_of_lt_of_le (Eb.ext E1).lt nex4_0)
  have ne_ar_sa_4 : ar ≠ sa_4 := Nat.ne_of_lt (Nat.lt_of_lt_of_le (Er.ext E1).lt nex4_0)
  have ne_b1_sa_4 : b1 ≠ sa_4 := Nat.ne_of_lt (Nat.lt_of_lt_of_le A1.lt nex4_0)
  have sz_sa_4 : h0.size ≤ sa_4 := Nat.le_trans (K1).1 nex4_0
  have g_sa_4 : n0 ≤ sa_4 := Nat.le_trans Z0 sz_sa_4
  have K4 : Keep h0 T4.heap [] := K1.trans Kc4 ((allS (Or.inr sz_b1) all0))
  have N4 := Fr.app N0 N4q
  refine Go.pull (V := T4.setTop (mkF m 8 #[rv a] [(.ref b1)])) (fun _ k => st4.trans k) ?_
  exact Go.retR X4 hx Bd.notSynchronized Bd.returns rfl rfl rfl (hb hby z32_8) (by exact ⟨b1, sa_4, ks_4, rfl, N4, K4, sz_b1, sz_sa_4, (A1.keep Kc4), Fc4_0, Fc4_1, Fc4_2, Fc4_3⟩) (by decide) (by decide)
theorem own_isr {v : Value} (h : v.isRef = true) : v = .null ∨ ∃ a, v = .ref a := by
  cases v with
  | null => exact Or.inl rfl
  | ref a => exact Or.inr ⟨a, rfl⟩
  | _ => cases h
theorem own_chr2 {w : Int32} (h : 0 ≤ w.toInt ∧ w.toInt < 128) : nar .char w = w := by
  show w.toUInt32.toUInt16.toUInt32.toInt32 = w
  have h2 := c_i2c w
  apply Int32.toInt_inj.mp; omega
theorem z33_0 : decode jdk_41_method_11_code 0 = .ok (.iload_n 0, 1) := by decide +kernel
theorem z33_1 : decode jdk_41_method_11_code 1 = .ok (.ifCond .lt 8, 3) := by decide +kernel
theorem z33_4 : decode jdk_41_method_11_code 4 = .ok (.iload_n 0, 1) := by decide +kernel
theorem z33_5 : decode jdk_41_method_11_code 5 = .ok (.iload_n 1, 1) := by decide +kernel
theorem z33_6 : decode jdk_41_method_11_code 6 = .ok (.if_icmp .lt 10, 3) := by decide +kernel
theorem z33_16 : decode jdk_41_method_11_code 16 = .ok (.iload_n 0, 1) := by decide +kernel
theorem z33_17 : decode jdk_41_method_11_code 17 = .ok (.ireturn, 1) := by decide +kernel
theorem efCiR (m : MethodId) (x0 : Int32) (x1 : Int32) (x2 : Addr) : entryFrame m #[(.int x0), (.int x1), (.ref x2)] 3 = mkF m 0 #[iv x0, iv x1, rv x2] [] := by first | (simp [entryFrame, mkF, argsToLocals, Value.category]; done) | rfl
theorem pn_jdk_internal_util_Preconditions : plainName "jdk/internal/util/Preconditions" = true := by first | (simp [plainName, overriddenIn]; done) | decide +kernel
def QCiR (Z : State) (pj : Int32) (pn : Int32) (pf : Addr) (h0 : Heap) (n0 : Nat) (v : Option Value) (h : Heap) (L : List Loc) : Prop := v = some (.int pj) ∧ Fr n0 L ∧ h = h0
set_option maxRecDepth 65536 in
set_option maxHeartbeats 40000000 in
theorem rmCiR (l : Launch) (Z : State) (a0 : Array Value) (hw : ∀ d ∈ tables_1, d.before a0 Z = true) (ws : List Jvm.Cond) (pj : Int32) (pn : Int32) (pf : Addr) (h0 : Heap) (n0 : Nat) (hj0 : ¬ pj < 0) (hjn : pj < pn) :
    MetFree l (⟨"jdk/internal/util/Preconditions", "checkIndex", "(IILjava/util/function/BiFunction;)I"⟩ : MethodName) (head1 (Jvm.Cond.code (⟨"jdk/internal/util/Preconditions", "checkIndex", "(IILjava/util/function/BiFunction;)I"⟩ : MethodName) jdk_41_method_11_code 3 (some .int) :: ws) ({ frames := 0, cells := 0, slots := 0, locals := 0 } : Room)) (fun as' U => as' = #[(.int pj), (.int pn), (.ref pf)] ∧ Z.Warmed39 U.vm ∧ U.heap = h0) (fun _ _ _ _ _ => True) (fun _ U o U' => ∃ v L, o = .returned v ∧ QCiR Z pj pn pf h0 n0 v U'.heap L ∧ FrameEnd U o U' L ({ frames := 0, cells := 0, slots := 0, locals := 0 } : Room).cells ({ frames := 0, cells := 0, slots := 0, locals := 0 } : Room).slots) := by
  refine MetFree.of_bodySF (plainFor_of_name pn_jdk_internal_util_Preconditions) hisR ?_
  intro p e s m args below meth c s₁ Bd hml0 hP hK
  obtain ⟨rfl, hZ, hh⟩ := hP
  have hx := Bd.exec
  have hby := Bd.bytes
  have hml : c.maxLocals = 3 := hml0
  have hown : s.vm.findClass "jdk/internal/util/Preconditions" = some m.cls := findClass_of_methodNamed Bd.named
  have hnm := (name_of_methodNamed Bd.named Bd.method).1
  have X0 : Stand p l e ({ frames := 0, cells := 0, slots := 0, locals := 0 } : Room) s m #[(.int pj), (.int pn), (.ref pf)] below meth c s₁ [] 0 0 := Stand.of_body Bd
  have e0 : s₁.heap = h0 := by rw [← hh, Bd.state]; rfl
  have N0 := Fr.nil n0
  show Go p e below s (fun v h L => QCiR Z pj pn pf h0 n0 v h L) 0 0 _
  refine Go.pull (V := s₁.setTop (mkF m 0 #[iv pj, iv pn, rv pf] [])) (fun t k => castTop (efCiR m pj pn pf) k) ?_
  refine Go.pull (V := s₁.setTop (mkF m 16 #[iv pj, iv pn, rv pf] [])) (fun t k => XS.iloadN X0.here hx rfl (hb hby z33_0) rfl  (XS.ifNo X0.here hx rfl (hb hby z33_1) rfl (XT.i0_lt_f hj0) (XS.iloadN X0.here hx rfl (hb hby z33_4) rfl  (XS.iloadN X0.here hx rfl (hb hby z33_5) rfl  (XS.icmpYes X0.here hx rfl (pc0 := 6) (pc' := 16) rfl (hb hby z33_6) rfl (XT.ii_lt_t hjn) (by decide) (by decide) k))))) ?_
  refine Go.pull (V := s₁.setTop (mkF m 17 #[iv pj, iv pn, rv pf] [(.int pj)])) (fun t k => XS.iloadN X0.here hx rfl (hb hby z33_16) rfl  k) ?_
  exact Go.retI X0 hx Bd.notSynchronized Bd.returns (hb hby z33_17) ⟨rfl, N0, e0⟩ (by decide) (by decide)
theorem efCiN (m : MethodId) (x0 : Int32) (x1 : Int32) : entryFrame m #[(.int x0), (.int x1), .null] 3 = mkF m 0 #[iv x0, iv x1, .val .null] [] := by first | (simp [entryFrame, mkF, argsToLocals, Value.category]; done) | rfl
def QCiN (Z : State) (pj : Int32) (pn : Int32) (h0 : Heap) (n0 : Nat) (v : Option Value) (h : Heap) (L : List Loc) : Prop := v = some (.int pj) ∧ Fr n0 L ∧ h = h0
set_option maxRecDepth 65536 in
set_option maxHeartbeats 40000000 in
theorem rmCiN (l : Launch) (Z : State) (a0 : Array Value) (hw : ∀ d ∈ tables_1, d.before a0 Z = true) (ws : List Jvm.Cond) (pj : Int32) (pn : Int32) (h0 : Heap) (n0 : Nat) (hj0 : ¬ pj < 0) (hjn : pj < pn) :
    MetFree l (⟨"jdk/internal/util/Preconditions", "checkIndex", "(IILjava/util/function/BiFunction;)I"⟩ : MethodName) (head1 (Jvm.Cond.code (⟨"jdk/internal/util/Preconditions", "checkIndex", "(IILjava/util/function/BiFunction;)I"⟩ : MethodName) jdk_41_method_11_code 3 (some .int) :: ws) ({ frames := 0, cells := 0, slots := 0, locals := 0 } : Room)) (fun as' U => as' = #[(.int pj), (.int pn), .null] ∧ Z.Warmed39 U.vm ∧ U.heap = h0) (fun _ _ _ _ _ => True) (fun _ U o U' => ∃ v L, o = .returned v ∧ QCiN Z pj pn h0 n0 v U'.heap L ∧ FrameEnd U o U' L ({ frames := 0, cells := 0, slots := 0, locals := 0 } : Room).cells ({ frames := 0, cells := 0, slots := 0, locals := 0 } : Room).slots) := by
  refine MetFree.of_bodySF (plainFor_of_name pn_jdk_internal_util_Preconditions) hisR ?_
  intro p e s m args below meth c s₁ Bd hml0 hP hK
  obtain ⟨rfl, hZ, hh⟩ := hP
  have hx := Bd.exec
  have hby := Bd.bytes
  have hml : c.maxLocals = 3 := hml0
  have hown : s.vm.findClass "jdk/internal/util/Preconditions" = some m.cls := findClass_of_methodNamed Bd.named
  have hnm := (name_of_methodNamed Bd.named Bd.method).1
  have X0 : Stand p l e ({ frames := 0, cells := 0, slots := 0, locals := 0 } : Room) s m #[(.int pj), (.int pn), .null] below meth c s₁ [] 0 0 := Stand.of_body Bd
  have e0 : s₁.heap = h0 := by rw [← hh, Bd.state]; rfl
  have N0 := Fr.nil n0
  show Go p e below s (fun v h L => QCiN Z pj pn h0 n0 v h L) 0 0 _
  refine Go.pull (V := s₁.setTop (mkF m 0 #[iv pj, iv pn, .val .null] [])) (fun t k => castTop (efCiN m pj pn) k) ?_
  refine Go.pull (V := s₁.setTop (mkF m 16 #[iv pj, iv pn, .val .null] [])) (fun t k => XS.iloadN X0.here hx rfl (hb hby z33_0) rfl  (XS.ifNo X0.here hx rfl (hb hby z33_1) rfl (XT.i0_lt_f hj0) (XS.iloadN X0.here hx rfl (hb hby z33_4) rfl  (XS.iloadN X0.here hx rfl (hb hby z33_5) rfl  (XS.icmpYes X0.here hx rfl (pc0 := 6) (pc' := 16) rfl (hb hby z33_6) rfl (XT.ii_lt_t hjn) (by decide) (by decide) k))))) ?_
  refine Go.pull (V := s₁.setTop (mkF m 17 #[iv pj, iv pn, .val .null] [(.int pj)])) (fun t k => XS.iloadN X0.here hx rfl (hb hby z33_16) rfl  k) ?_
  exact Go.retI X0 hx Bd.notSynchronized Bd.returns (hb hby z33_17) ⟨rfl, N0, e0⟩ (by decide) (by decide)
theorem z34_0 : decode jdk_42_method_155_code 0 = .ok (.iload_n 0, 1) := by decide +kernel
theorem z34_1 : decode jdk_42_method_155_code 1 = .ok (.iload_n 1, 1) := by decide +kernel
theorem z34_2 : decode jdk_42_method_155_code 2 = .ok (.getstatic 1053, 3) := by decide +kernel
theorem z34_5 : decode jdk_42_method_155_code 5 = .ok (.invokestatic 1059, 3) := by decide +kernel
theorem z34_8 : decode jdk_42_method_155_code 8 = .ok (.pop, 1) := by decide +kernel
theorem z34_9 : decode jdk_42_method_155_code 9 = .ok (.return_, 1) := by decide +kernel
theorem efSk (m : MethodId) (x0 : Int32) (x1 : Int32) : entryFrame m #[(.int x0), (.int x1)] 2 = mkF m 0 #[iv x0, iv x1] [] := by first | (simp [entryFrame, mkF, argsToLocals, Value.category]; done) | rfl
def QSk (Z : State) (pj : Int32) (pn : Int32) (sf : Value) (h0 : Heap) (n0 : Nat) (v : Option Value) (h : Heap) (L : List Loc) : Prop := v = none ∧ Fr n0 L ∧ h = h0
set_option maxRecDepth 65536 in
set_option maxHeartbeats 40000000 in
theorem rmSk (l : Launch) (Z : State) (a0 : Array Value) (hw : ∀ d ∈ tables_1, d.before a0 Z = true) (ws : List Jvm.Cond) (pj : Int32) (pn : Int32) (sf : Value) (h0 : Heap) (n0 : Nat) (Ssf : Sta Z h0 "jdk/internal/util/Preconditions" "SIOOBE_FORMATTER" "Ljava/util/function/BiFunction;" sf) (hsf : sf.isRef = true) (hj0 : ¬ pj < 0) (hjn : pj < pn) :
    MetFree l (⟨"java/lang/String", "checkIndex", "(II)V"⟩ : MethodName) (head1 (Jvm.Cond.code (⟨"java/lang/String", "checkIndex", "(II)V"⟩ : MethodName) jdk_42_method_155_code 2 none :: ws) ({ frames := 1, cells := 0, slots := 0, locals := 14 } : Room)) (fun as' U => as' = #[(.int pj), (.int pn)] ∧ Z.Warmed39 U.vm ∧ U.heap = h0) (fun _ _ _ _ _ => True) (fun _ U o U' => ∃ v L, o = .returned v ∧ QSk Z pj pn sf h0 n0 v U'.heap L ∧ FrameEnd U o U' L ({ frames := 1, cells := 0, slots := 0, locals := 14 } : Room).cells ({ frames := 1, cells := 0, slots := 0, locals := 14 } : Room).slots) := by
  refine MetFree.of_bodySF (plainFor_of_name pn_java_lang_String) hisR ?_
  intro p e s m args below meth c s₁ Bd hml0 hP hK
  obtain ⟨rfl, hZ, hh⟩ := hP
  have hx := Bd.exec
  have hby := Bd.bytes
  have hml : c.maxLocals = 2 := hml0
  have hown : s.vm.findClass "java/lang/String" = some m.cls := findClass_of_methodNamed Bd.named
  have hnm := (name_of_methodNamed Bd.named Bd.method).1
  have X0 : Stand p l e ({ frames := 1, cells := 0, slots := 0, locals := 14 } : Room) s m #[(.int pj), (.int pn)] below meth c s₁ [] 0 0 := Stand.of_body Bd
  have e0 : s₁.heap = h0 := by rw [← hh, Bd.state]; rfl
  have N0 := Fr.nil n0
  show Go p e below s (fun v h L => QSk Z pj pn sf h0 n0 v h L) 0 0 _
  refine Go.pull (V := s₁.setTop (mkF m 0 #[iv pj, iv pn] [])) (fun t k => castTop (efSk m pj pn) k) ?_
  refine Go.pull (V := s₁.setTop (mkF m 2 #[iv pj, iv pn] [(.int pn), (.int pj)])) (fun t k => XS.iloadN X0.here hx rfl (hb hby z34_0) rfl  (XS.iloadN X0.here hx rfl (hb hby z34_1) rfl  k)) ?_
  obtain ⟨T1, X1, e1, st1⟩ := getS2 X0 hx hZ hown (host := "") (Or.inl (hw _ (List.mem_of_getElem? (i := 225) rfl))) Via.refl e0 Ssf (g := (mkF m 2 #[iv pj, iv pn] [(.int pn), (.int pj)])) rfl (hb hby z34_2)
  refine Go.pull (V := T1.setTop (mkF m 5 #[iv pj, iv pn] [sf, (.int pn), (.int pj)])) st1 ?_
  rcases own_isr hsf with rfl | ⟨fa, rfl⟩
  · skip
    obtain ⟨_, _, ⟨T2, L2, k2, n2⟩, -, X2, ⟨Lc2, hQ2, l2, y2, z2⟩, st2⟩ := Jvm.LawKit.callS X1 hx (y := (⟨"jdk/internal/util/Preconditions", "checkIndex", "(IILjava/util/function/BiFunction;)I"⟩ : MethodName)) hown (mvT hZ (hw _ (List.mem_of_getElem? (i := 227) rfl))) (mvT hZ (hw _ (List.mem_of_getElem? (i := 228) rfl))) (mvT hZ (hw _ (List.mem_of_getElem? (i := 226) rfl))) (mvT hZ (hw _ (List.mem_of_getElem? (i := 229) rfl))) (by decide) (backOf (W := 0) (rmCiN l Z a0 hw [] pj pn h0 n0 hj0 hjn) hZ (hw _ (List.mem_of_getElem? (i := 229) rfl)) (hw _ (List.mem_of_getElem? (i := 226) rfl)) (by decide) (by decide)) (g := (mkF m 5 #[iv pj, iv pn] [.null, (.int pn), (.int pj)])) rfl (by rw [hml]; rfl) (argsL := [(.int pj), (.int pn), .null]) (rest := []) (lenOf pd_19 rfl) rfl (by show 2 * 0 + _ ≤ _; exact Nat.le_of_eq rfl) (hb hby z34_5) (fun _ _ => ⟨rfl, e1, (by decide : 0 + 0 ≤ _), (by decide : 0 + 0 ≤ _)⟩)
    dsimp only [Pt.U, Pt.locs, Pt.cells, Pt.slots] at X2 l2 y2 z2 st2 hQ2
    subst l2 y2 z2
    obtain ⟨rfl, N2q, e2⟩ := hQ2
    have N2 := Fr.app N0 N2q
    refine Go.pull (V := T2.setTop (mkF m 8 #[iv pj, iv pn] [(.int pj)])) st2 ?_
    refine Go.pull (V := T2.setTop (mkF m 9 #[iv pj, iv pn] [])) (fun t k => XS.pop X2.here hx rfl (hb hby z34_8) rfl rfl k) ?_
    exact Go.ret0 X2 hx Bd.notSynchronized Bd.returns (hb hby z34_9) ⟨rfl, N2, e2⟩ (by decide) (by decide)
  · skip
    obtain ⟨_, _, ⟨T3, L3, k3, n3⟩, -, X3, ⟨Lc3, hQ3, l3, y3, z3⟩, st3⟩ := Jvm.LawKit.callS X1 hx (y := (⟨"jdk/internal/util/Preconditions", "checkIndex", "(IILjava/util/function/BiFunction;)I"⟩ : MethodName)) hown (mvT hZ (hw _ (List.mem_of_getElem? (i := 227) rfl))) (mvT hZ (hw _ (List.mem_of_getElem? (i := 228) rfl))) (mvT hZ (hw _ (List.mem_of_getElem? (i := 226) rfl))) (mvT hZ (hw _ (List.mem_of_getElem? (i := 229) rfl))) (by decide) (backOf (W := 0) (rmCiR l Z a0 hw [] pj pn fa h0 n0 hj0 hjn) hZ (hw _ (List.mem_of_getElem? (i := 229) rfl)) (hw _ (List.mem_of_getElem? (i := 226) rfl)) (by decide) (by decide)) (g := (mkF m 5 #[iv pj, iv pn] [(.ref fa), (.int pn), (.int pj)])) rfl (by rw [hml]; rfl) (argsL := [(.int pj), (.int pn), (.ref fa)]) (rest := []) (lenOf pd_19 rfl) rfl (by show 2 * 0 + _ ≤ _; exact Nat.le_of_eq rfl) (hb hby z34_5) (fun _ _ => ⟨rfl, e1, (by decide : 0 + 0 ≤ _), (by decide : 0 + 0 ≤ _)⟩)
    dsimp only [Pt.U, Pt.locs, Pt.cells, Pt.slots] at X3 l3 y3 z3 st3 hQ3
    subst l3 y3 z3
    obtain ⟨rfl, N3q, e3⟩ := hQ3
    have N3 := Fr.app N0 N3q
    refine Go.pull (V := T3.setTop (mkF m 8 #[iv pj, iv pn] [(.int pj)])) st3 ?_
    refine Go.pull (V := T3.setTop (mkF m 9 #[iv pj, iv pn] [])) (fun t k => XS.pop X3.here hx rfl (hb hby z34_8) rfl rfl k) ?_
    exact Go.ret0 X3 hx Bd.notSynchronized Bd.returns (hb hby z34_9) ⟨rfl, N3, e3⟩ (by decide) (by decide)
theorem z35_0 : decode jdk_43_method_2_code 0 = .ok (.iload_n 1, 1) := by decide +kernel
theorem z35_1 : decode jdk_43_method_2_code 1 = .ok (.aload_n 0, 1) := by decide +kernel
theorem z35_2 : decode jdk_43_method_2_code 2 = .ok (.arraylength, 1) := by decide +kernel
theorem z35_3 : decode jdk_43_method_2_code 3 = .ok (.invokestatic 9, 3) := by decide +kernel
theorem z35_6 : decode jdk_43_method_2_code 6 = .ok (.aload_n 0, 1) := by decide +kernel
theorem z35_7 : decode jdk_43_method_2_code 7 = .ok (.iload_n 1, 1) := by decide +kernel
theorem z35_8 : decode jdk_43_method_2_code 8 = .ok (.baload, 1) := by decide +kernel
theorem z35_9 : decode jdk_43_method_2_code 9 = .ok (.sipush 255, 3) := by decide +kernel
theorem z35_12 : decode jdk_43_method_2_code 12 = .ok (.iand, 1) := by decide +kernel
theorem z35_13 : decode jdk_43_method_2_code 13 = .ok (.i2c, 1) := by decide +kernel
theorem z35_14 : decode jdk_43_method_2_code 14 = .ok (.ireturn, 1) := by decide +kernel
theorem efLc (m : MethodId) (x0 : Addr) (x1 : Int32) : entryFrame m #[(.ref x0), (.int x1)] 2 = mkF m 0 #[rv x0, iv x1] [] := by first | (simp [entryFrame, mkF, argsToLocals, Value.category]; done) | rfl
theorem pn_java_lang_StringLatin1 : plainName "java/lang/StringLatin1" = true := by first | (simp [plainName, overriddenIn]; done) | decide +kernel
def QLc (Z : State) (sa : Addr) (pj : Int32) (ka : ClassId) (pn : Int32) (us : List Value) (pw : Int32) (sf : Value) (h0 : Heap) (n0 : Nat) (v : Option Value) (h : Heap) (L : List Loc) : Prop := v = some (.int pw) ∧ Fr n0 L ∧ h = h0
set_option maxRecDepth 65536 in
set_option maxHeartbeats 40000000 in
theorem rmLc (l : Launch) (Z : State) (a0 : Array Value) (hw : ∀ d ∈ tables_1, d.before a0 Z = true) (ws : List Jvm.Cond) (sa : Addr) (pj : Int32) (ka : ClassId) (pn : Int32) (us : List Value) (pw : Int32) (sf : Value) (h0 : Heap) (n0 : Nat) (Va : Arv Z h0 sa ka .byte pn us (.int 0)) (Ssf : Sta Z h0 "jdk/internal/util/Preconditions" "SIOOBE_FORMATTER" "Ljava/util/function/BiFunction;" sf) (hsf : sf.isRef = true) (hj0 : ¬ pj < 0) (hjn : pj < pn) (hget : us.getD pj.toNatClampNeg (.int 0) = .int pw) (hrg : 0 ≤ pw.toInt ∧ pw.toInt < 128) :
    MetFree l (⟨"java/lang/StringLatin1", "charAt", "([BI)C"⟩ : MethodName) (head1 (Jvm.Cond.code (⟨"java/lang/StringLatin1", "charAt", "([BI)C"⟩ : MethodName) jdk_43_method_2_code 2 (some .char) :: ws) ({ frames := 2, cells := 0, slots := 0, locals := 27 } : Room)) (fun as' U => as' = #[(.ref sa), (.int pj)] ∧ Z.Warmed39 U.vm ∧ U.heap = h0) (fun _ _ _ _ _ => True) (fun _ U o U' => ∃ v L, o = .returned v ∧ QLc Z sa pj ka pn us pw sf h0 n0 v U'.heap L ∧ FrameEnd U o U' L ({ frames := 2, cells := 0, slots := 0, locals := 27 } : Room).cells ({ frames := 2, cells := 0, slots := 0, locals := 27 } : Room).slots) := by
  refine MetFree.of_bodySF (plainFor_of_name pn_java_lang_StringLatin1) hisR ?_
  intro p e s m args below meth c s₁ Bd hml0 hP hK
  obtain ⟨rfl, hZ, hh⟩ := hP
  have hx := Bd.exec
  have hby := Bd.bytes
  have hml : c.maxLocals = 2 := hml0
  have hown : s.vm.findClass "java/lang/StringLatin1" = some m.cls := findClass_of_methodNamed Bd.named
  have hnm := (name_of_methodNamed Bd.named Bd.method).1
  have X0 : Stand p l e ({ frames := 2, cells := 0, slots := 0, locals := 27 } : Room) s m #[(.ref sa), (.int pj)] below meth c s₁ [] 0 0 := Stand.of_body Bd
  have e0 : s₁.heap = h0 := by rw [← hh, Bd.state]; rfl
  have N0 := Fr.nil n0
  show Go p e below s (fun v h L => QLc Z sa pj ka pn us pw sf h0 n0 v h L) 0 0 _
  refine Go.pull (V := s₁.setTop (mkF m 0 #[rv sa, iv pj] [])) (fun t k => castTop (efLc m sa pj) k) ?_
  refine Go.pull (V := s₁.setTop (mkF m 2 #[rv sa, iv pj] [(.ref sa), (.int pj)])) (fun t k => XS.iloadN X0.here hx rfl (hb hby z35_0) rfl  (XS.aloadN X0.here hx rfl (hb hby z35_1) rfl rfl k)) ?_
  obtain ⟨cl1, Ar1, q1, S1, M1, Hs1, G1⟩ := id Va
  refine Go.pull (V := s₁.setTop (mkF m 3 #[rv sa, iv pj] [(.int pn), (.int pj)])) (fun t k => X0.arraylength hx (by rw [e0]; exact Ar1.1) (State.isArrayOf_alike hZ.alike Ar1.2.1) (g := (mkF m 2 #[rv sa, iv pj] [(.ref sa), (.int pj)])) rfl rfl (hb hby z35_2) _ (by rw [len_of S1 M1]; exact k)) ?_
  obtain ⟨_, _, ⟨T2, L2, k2, n2⟩, -, X2, ⟨Lc2, hQ2, l2, y2, z2⟩, st2⟩ := Jvm.LawKit.callS X0 hx (y := (⟨"java/lang/String", "checkIndex", "(II)V"⟩ : MethodName)) hown (mvT hZ (hw _ (List.mem_of_getElem? (i := 222) rfl))) (mvT hZ (hw _ (List.mem_of_getElem? (i := 223) rfl))) (mvT hZ (hw _ (List.mem_of_getElem? (i := 50) rfl))) (mvT hZ (hw _ (List.mem_of_getElem? (i := 224) rfl))) (by decide) (backOf (W := 0) (rmSk l Z a0 hw [] pj pn sf h0 n0 Ssf hsf hj0 hjn) hZ (hw _ (List.mem_of_getElem? (i := 224) rfl)) (hw _ (List.mem_of_getElem? (i := 50) rfl)) (by decide) (by decide)) (g := (mkF m 3 #[rv sa, iv pj] [(.int pn), (.int pj)])) rfl (by rw [hml]; rfl) (argsL := [(.int pj), (.int pn)]) (rest := []) (lenOf pd_13 rfl) rfl (by show 2 * 0 + _ ≤ _; exact Nat.le_of_eq rfl) (hb hby z35_3) (fun _ _ => ⟨rfl, e0, (by decide : 0 + 0 ≤ _), (by decide : 0 + 0 ≤ _)⟩)
  dsimp only [Pt.U, Pt.locs, Pt.cells, Pt.slots] at X2 l2 y2 z2 st2 hQ2
  subst l2 y2 z2
  obtain ⟨rfl, N2q, e2⟩ := hQ2
  have N2 := Fr.app N0 N2q
  refine Go.pull (V := T2.setTop (mkF m 6 #[rv sa, iv pj] [])) st2 ?_
  refine Go.pull (V := T2.setTop (mkF m 8 #[rv sa, iv pj] [(.int pj), (.ref sa)])) (fun t k => XS.aloadN X2.here hx rfl (hb hby z35_6) rfl rfl (XS.iloadN X2.here hx rfl (hb hby z35_7) rfl  k)) ?_
  obtain ⟨cl3, Ar3, q3, S3, M3, Hs3, G3⟩ := id Va
  have hin3 : ¬ (pj < 0 ∨ cl3.slots.size ≤ (pj).toNatClampNeg) := inb_of S3 ⟨hj0, hjn⟩
  have hat3 : cl3.slots[(pj).toNatClampNeg]? = some (.int pw) := Has.at Hs3 hin3 hget
  refine Go.pull (V := T2.setTop (mkF m 14 #[rv sa, iv pj] [(.int ((pw &&& (255 : Int32)).toUInt32.toUInt16.toUInt32.toInt32))])) (fun t k => X2.baloadBytes hx (j := pj) (v := (.int pw)) (by rw [e2]; exact Ar3.1) (State.isArrayOf_alike hZ.alike Ar3.2.1) Ar3.2.2 hin3 hat3 (g := (mkF m 8 #[rv sa, iv pj] [(.int pj), (.ref sa)])) rfl rfl (hb hby z35_8) _ (XS.sipush X2.here hx rfl (hb hby z35_9) (XS.iand X2.here hx rfl (hb hby z35_12) rfl (XS.i2c X2.here hx rfl (hb hby z35_13) rfl k)))) ?_
  exact Go.retN X2 hx Bd.notSynchronized (t := .char) Bd.returns (by simp) (hb hby z35_14) ⟨(congrArg (fun z => some (Value.int z)) (own_chr hrg)), N2, e2⟩ (by decide) (by decide)
theorem z36_0 : decode jdk_42_method_56_code 0 = .ok (.aload_n 0, 1) := by decide +kernel
theorem z36_1 : decode jdk_42_method_56_code 1 = .ok (.invokevirtual 492, 3) := by decide +kernel
theorem z36_4 : decode jdk_42_method_56_code 4 = .ok (.ifCond .eq 12, 3) := by decide +kernel
theorem z36_7 : decode jdk_42_method_56_code 7 = .ok (.aload_n 0, 1) := by decide +kernel
theorem z36_8 : decode jdk_42_method_56_code 8 = .ok (.getfield 9, 3) := by decide +kernel
theorem z36_11 : decode jdk_42_method_56_code 11 = .ok (.iload_n 1, 1) := by decide +kernel
theorem z36_12 : decode jdk_42_method_56_code 12 = .ok (.invokestatic 495, 3) := by decide +kernel
theorem z36_15 : decode jdk_42_method_56_code 15 = .ok (.ireturn, 1) := by decide +kernel
theorem efSh (m : MethodId) (x0 : Addr) (x1 : Int32) : entryFrame m #[(.ref x0), (.int x1)] 2 = mkF m 0 #[rv x0, iv x1] [] := by first | (simp [entryFrame, mkF, argsToLocals, Value.category]; done) | rfl
def QSh (Z : State) (a : Addr) (pj : Int32) (cs : Int32) (sa : Addr) (ka : ClassId) (pn : Int32) (us : List Value) (pw : Int32) (sf : Value) (h0 : Heap) (n0 : Nat) (v : Option Value) (h : Heap) (L : List Loc) : Prop := v = some (.int pw) ∧ Fr n0 L ∧ h = h0
set_option maxRecDepth 65536 in
set_option maxHeartbeats 40000000 in
theorem rmSh (l : Launch) (Z : State) (a0 : Array Value) (hw : ∀ d ∈ tables_1, d.before a0 Z = true) (ws : List Jvm.Cond) (a : Addr) (pj : Int32) (cs : Int32) (sa : Addr) (ka : ClassId) (pn : Int32) (us : List Value) (pw : Int32) (sf : Value) (h0 : Heap) (n0 : Nat) (Scs : Sta Z h0 "java/lang/String" "COMPACT_STRINGS" "Z" (.int cs)) (Ea : Exa Z h0 a "java/lang/String") (Fca : Fld Z h0 a "java/lang/String" "coder" "B" (.int 0)) (Fva : Fld Z h0 a "java/lang/String" "value" "[B" (.ref sa)) (Va : Arv Z h0 sa ka .byte pn us (.int 0)) (Ssf : Sta Z h0 "jdk/internal/util/Preconditions" "SIOOBE_FORMATTER" "Ljava/util/function/BiFunction;" sf) (hcs : ¬ cs = 0) (hsf : sf.isRef = true) (hj0 : ¬ pj < 0) (hjn : pj < pn) (hget : us.getD pj.toNatClampNeg (.int 0) = .int pw) (hrg : 0 ≤ pw.toInt ∧ pw.toInt < 128) :
    MetFree l (⟨"java/lang/String", "charAt", "(I)C"⟩ : MethodName) (head1 (Jvm.Cond.code (⟨"java/lang/String", "charAt", "(I)C"⟩ : MethodName) jdk_42_method_56_code 2 (some .char) :: ws) ({ frames := 3, cells := 0, slots := 0, locals := 40 } : Room)) (fun as' U => as' = #[(.ref a), (.int pj)] ∧ Z.Warmed39 U.vm ∧ U.heap = h0) (fun _ _ _ _ _ => True) (fun _ U o U' => ∃ v L, o = .returned v ∧ QSh Z a pj cs sa ka pn us pw sf h0 n0 v U'.heap L ∧ FrameEnd U o U' L ({ frames := 3, cells := 0, slots := 0, locals := 40 } : Room).cells ({ frames := 3, cells := 0, slots := 0, locals := 40 } : Room).slots) := by
  refine MetFree.of_bodySF (plainFor_of_name pn_java_lang_String) hisR ?_
  intro p e s m args below meth c s₁ Bd hml0 hP hK
  obtain ⟨rfl, hZ, hh⟩ := hP
  have hx := Bd.exec
  have hby := Bd.bytes
  have hml : c.maxLocals = 2 := hml0
  have hown : s.vm.findClass "java/lang/String" = some m.cls := findClass_of_methodNamed Bd.named
  have hnm := (name_of_methodNamed Bd.named Bd.method).1
  have X0 : Stand p l e ({ frames := 3, cells := 0, slots := 0, locals := 40 } : Room) s m #[(.ref a), (.int pj)] below meth c s₁ [] 0 0 := Stand.of_body Bd
  have e0 : s₁.heap = h0 := by rw [← hh, Bd.state]; rfl
  have N0 := Fr.nil n0
  show Go p e below s (fun v h L => QSh Z a pj cs sa ka pn us pw sf h0 n0 v h L) 0 0 _
  refine Go.pull (V := s₁.setTop (mkF m 0 #[rv a, iv pj] [])) (fun t k => castTop (efSh m a pj) k) ?_
  refine Go.pull (V := s₁.setTop (mkF m 1 #[rv a, iv pj] [(.ref a)])) (fun t k => XS.aloadN X0.here hx rfl (hb hby z36_0) rfl rfl k) ?_
  obtain ⟨cq1, kq1, q1a, q1b, q1c⟩ := isOf hZ e0 Ea
  obtain ⟨_, _, ⟨T1, L1, k1, n1⟩, -, X1, ⟨Lc1, hQ1, l1, y1, z1⟩, st1⟩ := X0.virtualBack hx (y := (⟨"java/lang/String", "isLatin1", "()Z"⟩ : MethodName)) (z := (⟨"java/lang/String", "isLatin1", "()Z"⟩ : MethodName)) hown (mvT hZ (hw _ (List.mem_of_getElem? (i := 213) rfl))) (mvT hZ (hw _ (List.mem_of_getElem? (i := 214) rfl))) (notFace_of_selects (args := #[]) (mvT hZ (hw _ (List.mem_of_getElem? (i := 216) rfl)))) (mvT hZ (hw _ (List.mem_of_getElem? (i := 216) rfl))) (mvT hZ (hw _ (List.mem_of_getElem? (i := 215) rfl))) (by decide) (backOf (W := 0) (rmS1 l Z a0 hw [] a cs h0 n0 Scs Fca hcs) hZ (hw _ (List.mem_of_getElem? (i := 217) rfl)) (hw _ (List.mem_of_getElem? (i := 50) rfl)) (by decide) (by decide)) q1a q1c (g := (mkF m 1 #[rv a, iv pj] [(.ref a)])) rfl (by rw [hml]; rfl) (Steps.refl _) (argsL := []) (rest := []) (lenOf pd_10 rfl) rfl (by show 2 * 0 + _ ≤ _; exact Nat.le_of_eq rfl) (hb hby z36_1) (fun _ _ => ⟨rfl, e0, (by decide : 0 + 0 ≤ _), (by decide : 0 + 0 ≤ _)⟩)
  dsimp only [Pt.U, Pt.locs, Pt.cells, Pt.slots] at X1 l1 y1 z1 st1 hQ1
  subst l1 y1 z1
  obtain ⟨rfl, N1q, e1⟩ := hQ1
  have N1 := Fr.app N0 N1q
  refine Go.pull (V := T1.setTop (mkF m 4 #[rv a, iv pj] [(.int 1)])) (fun _ k => st1.trans k) ?_
  refine Go.pull (V := T1.setTop (mkF m 8 #[rv a, iv pj] [(.ref a)])) (fun t k => XS.ifNo X1.here hx rfl (hb hby z36_4) rfl (XT.i0_eq_f (by decide)) (XS.aloadN X1.here hx rfl (hb hby z36_7) rfl rfl k)) ?_
  obtain ⟨T2, X2, e2, st2⟩ := getF X1 hx hZ hown (host := "") (Or.inl (hw _ (List.mem_of_getElem? (i := 62) rfl))) Via.refl e1 Fva (g := (mkF m 8 #[rv a, iv pj] [(.ref a)])) rfl rfl (hb hby z36_8)
  refine Go.pull (V := T2.setTop (mkF m 11 #[rv a, iv pj] [(.ref sa)])) st2 ?_
  refine Go.pull (V := T2.setTop (mkF m 12 #[rv a, iv pj] [(.int pj), (.ref sa)])) (fun t k => XS.iloadN X2.here hx rfl (hb hby z36_11) rfl  k) ?_
  obtain ⟨_, _, ⟨T3, L3, k3, n3⟩, -, X3, ⟨Lc3, hQ3, l3, y3, z3⟩, st3⟩ := Jvm.LawKit.callS X2 hx (y := (⟨"java/lang/StringLatin1", "charAt", "([BI)C"⟩ : MethodName)) hown (mvT hZ (hw _ (List.mem_of_getElem? (i := 218) rfl))) (mvT hZ (hw _ (List.mem_of_getElem? (i := 219) rfl))) (mvT hZ (hw _ (List.mem_of_getElem? (i := 220) rfl))) (mvT hZ (hw _ (List.mem_of_getElem? (i := 221) rfl))) (by decide) (backOf (W := 0) (rmLc l Z a0 hw [] sa pj ka pn (us : List Value) pw sf h0 n0 Va Ssf hsf hj0 hjn hget hrg) hZ (hw _ (List.mem_of_getElem? (i := 221) rfl)) (hw _ (List.mem_of_getElem? (i := 220) rfl)) (by decide) (by decide)) (g := (mkF m 12 #[rv a, iv pj] [(.int pj), (.ref sa)])) rfl (by rw [hml]; rfl) (argsL := [(.ref sa), (.int pj)]) (rest := []) (lenOf pd_20 rfl) rfl (by show 2 * 0 + _ ≤ _; exact Nat.le_of_eq rfl) (hb hby z36_12) (fun _ _ => ⟨rfl, e2, (by decide : 0 + 0 ≤ _), (by decide : 0 + 0 ≤ _)⟩)
  dsimp only [Pt.U, Pt.locs, Pt.cells, Pt.slots] at X3 l3 y3 z3 st3 hQ3
  subst l3 y3 z3
  obtain ⟨rfl, N3q, e3⟩ := hQ3
  have N3 := Fr.app N1 N3q
  refine Go.pull (V := T3.setTop (mkF m 15 #[rv a, iv pj] [(.int pw)])) st3 ?_
  exact Go.retN X3 hx Bd.notSynchronized (t := .char) Bd.returns (by simp) (hb hby z36_15) ⟨(congrArg (fun z => some (Value.int z)) (own_chr2 hrg)), N3, e3⟩ (by decide) (by decide)
theorem z37_0 : decode method_2_code 0 = .ok (.iload_n 0, 1) := by decide +kernel
theorem z37_1 : decode method_2_code 1 = .ok (.bipush 10, 2) := by decide +kernel
theorem z37_3 : decode method_2_code 3 = .ok (.if_icmp .ge 5, 3) := by decide +kernel
theorem z37_6 : decode method_2_code 6 = .ok (.iconst 1, 1) := by decide +kernel
theorem z37_7 : decode method_2_code 7 = .ok (.ireturn, 1) := by decide +kernel
theorem z37_8 : decode method_2_code 8 = .ok (.iload_n 0, 1) := by decide +kernel
theorem z37_9 : decode method_2_code 9 = .ok (.bipush 100, 2) := by decide +kernel
theorem z37_11 : decode method_2_code 11 = .ok (.if_icmp .ge 5, 3) := by decide +kernel
theorem z37_14 : decode method_2_code 14 = .ok (.iconst 2, 1) := by decide +kernel
theorem z37_15 : decode method_2_code 15 = .ok (.ireturn, 1) := by decide +kernel
theorem z37_16 : decode method_2_code 16 = .ok (.iload_n 0, 1) := by decide +kernel
theorem z37_17 : decode method_2_code 17 = .ok (.sipush 1000, 3) := by decide +kernel
theorem z37_20 : decode method_2_code 20 = .ok (.if_icmp .ge 5, 3) := by decide +kernel
theorem z37_23 : decode method_2_code 23 = .ok (.iconst 3, 1) := by decide +kernel
theorem z37_24 : decode method_2_code 24 = .ok (.ireturn, 1) := by decide +kernel
theorem z37_25 : decode method_2_code 25 = .ok (.iload_n 0, 1) := by decide +kernel
theorem z37_26 : decode method_2_code 26 = .ok (.sipush 10000, 3) := by decide +kernel
theorem z37_29 : decode method_2_code 29 = .ok (.if_icmp .ge 5, 3) := by decide +kernel
theorem z37_32 : decode method_2_code 32 = .ok (.iconst 4, 1) := by decide +kernel
theorem z37_33 : decode method_2_code 33 = .ok (.ireturn, 1) := by decide +kernel
theorem z37_34 : decode method_2_code 34 = .ok (.iload_n 0, 1) := by decide +kernel
theorem z37_35 : decode method_2_code 35 = .ok (.ldc 7, 2) := by decide +kernel
theorem z37_37 : decode method_2_code 37 = .ok (.if_icmp .ge 5, 3) := by decide +kernel
theorem z37_40 : decode method_2_code 40 = .ok (.iconst 5, 1) := by decide +kernel
theorem z37_41 : decode method_2_code 41 = .ok (.ireturn, 1) := by decide +kernel
theorem z37_42 : decode method_2_code 42 = .ok (.iload_n 0, 1) := by decide +kernel
theorem z37_43 : decode method_2_code 43 = .ok (.ldc 8, 2) := by decide +kernel
theorem z37_45 : decode method_2_code 45 = .ok (.if_icmp .ge 6, 3) := by decide +kernel
theorem z37_48 : decode method_2_code 48 = .ok (.bipush 6, 2) := by decide +kernel
theorem z37_50 : decode method_2_code 50 = .ok (.ireturn, 1) := by decide +kernel
theorem z37_51 : decode method_2_code 51 = .ok (.iload_n 0, 1) := by decide +kernel
theorem z37_52 : decode method_2_code 52 = .ok (.ldc 9, 2) := by decide +kernel
theorem z37_54 : decode method_2_code 54 = .ok (.if_icmp .ge 6, 3) := by decide +kernel
theorem z37_57 : decode method_2_code 57 = .ok (.bipush 7, 2) := by decide +kernel
theorem z37_59 : decode method_2_code 59 = .ok (.ireturn, 1) := by decide +kernel
theorem z37_60 : decode method_2_code 60 = .ok (.iload_n 0, 1) := by decide +kernel
theorem z37_61 : decode method_2_code 61 = .ok (.ldc 10, 2) := by decide +kernel
theorem z37_63 : decode method_2_code 63 = .ok (.if_icmp .ge 6, 3) := by decide +kernel
theorem z37_66 : decode method_2_code 66 = .ok (.bipush 8, 2) := by decide +kernel
theorem z37_68 : decode method_2_code 68 = .ok (.ireturn, 1) := by decide +kernel
theorem z37_69 : decode method_2_code 69 = .ok (.iload_n 0, 1) := by decide +kernel
theorem z37_70 : decode method_2_code 70 = .ok (.ldc 11, 2) := by decide +kernel
theorem z37_72 : decode method_2_code 72 = .ok (.if_icmp .ge 6, 3) := by decide +kernel
theorem z37_75 : decode method_2_code 75 = .ok (.bipush 9, 2) := by decide +kernel
theorem z37_77 : decode method_2_code 77 = .ok (.ireturn, 1) := by decide +kernel
theorem z37_78 : decode method_2_code 78 = .ok (.bipush 10, 2) := by decide +kernel
theorem z37_80 : decode method_2_code 80 = .ok (.ireturn, 1) := by decide +kernel
theorem efDg (m : MethodId) (x0 : Int32) : entryFrame m #[(.int x0)] 1 = mkF m 0 #[iv x0] [] := by first | (simp [entryFrame, mkF, argsToLocals, Value.category]; done) | rfl
theorem pn_com_example_salish_salish_PlaceOfValuePinLaw : plainName "com/example/salish/salish/PlaceOfValuePinLaw" = true := by first | (simp [plainName, overriddenIn]; done) | decide +kernel
def QDg (Z : State) (pv : Int32) (h0 : Heap) (n0 : Nat) (v : Option Value) (h : Heap) (L : List Loc) : Prop := v = some (.int (own_digits pv)) ∧ Fr n0 L ∧ h = h0
set_option maxRecDepth 65536 in
set_option maxHeartbeats 40000000 in
theorem rmDg (l : Launch) (Z : State) (a0 : Array Value) (hw : ∀ d ∈ tables_1, d.before a0 Z = true) (ws : List Jvm.Cond) (pv : Int32) (h0 : Heap) (n0 : Nat) :
    MetFree l (⟨"com/example/salish/salish/PlaceOfValuePinLaw", "digits", "(I)I"⟩ : MethodName) (head1 (Jvm.Cond.code (⟨"com/example/salish/salish/PlaceOfValuePinLaw", "digits", "(I)I"⟩ : MethodName) method_2_code 1 (some .int) :: ws) ({ frames := 0, cells := 0, slots := 0, locals := 0 } : Room)) (fun as' U => as' = #[(.int pv)] ∧ Z.Warmed39 U.vm ∧ U.heap = h0) (fun _ _ _ _ _ => True) (fun _ U o U' => ∃ v L, o = .returned v ∧ QDg Z pv h0 n0 v U'.heap L ∧ FrameEnd U o U' L ({ frames := 0, cells := 0, slots := 0, locals := 0 } : Room).cells ({ frames := 0, cells := 0, slots := 0, locals := 0 } : Room).slots) := by
  refine MetFree.of_bodySF (plainFor_of_name pn_com_example_salish_salish_PlaceOfValuePinLaw) hisR ?_
  intro p e s m args below meth c s₁ Bd hml0 hP hK
  obtain ⟨rfl, hZ, hh⟩ := hP
  have hx := Bd.exec
  have hby := Bd.bytes
  have hml : c.maxLocals = 1 := hml0
  have hown : s.vm.findClass "com/example/salish/salish/PlaceOfValuePinLaw" = some m.cls := findClass_of_methodNamed Bd.named
  have hnm := (name_of_methodNamed Bd.named Bd.method).1
  have X0 : Stand p l e ({ frames := 0, cells := 0, slots := 0, locals := 0 } : Room) s m #[(.int pv)] below meth c s₁ [] 0 0 := Stand.of_body Bd
  have e0 : s₁.heap = h0 := by rw [← hh, Bd.state]; rfl
  have N0 := Fr.nil n0
  show Go p e below s (fun v h L => QDg Z pv h0 n0 v h L) 0 0 _
  refine Go.pull (V := s₁.setTop (mkF m 0 #[iv pv] [])) (fun t k => castTop (efDg m pv) k) ?_
  refine Go.pull (V := s₁.setTop (mkF m 3 #[iv pv] [(.int 10), (.int pv)])) (fun t k => XS.iloadN X0.here hx rfl (hb hby z37_0) rfl  (XS.bipush X0.here hx rfl (hb hby z37_1) k)) ?_
  by_cases hc3_1 : pv < (10 : Int32)
  · skip
    refine Go.pull (V := s₁.setTop (mkF m 7 #[iv pv] [(.int 1)])) (fun t k => XS.icmpNo X0.here hx rfl (hb hby z37_3) rfl (XT.ii_ge_f hc3_1) (XS.iconst X0.here hx rfl (hb hby z37_6) k)) ?_
    exact Go.retI X0 hx Bd.notSynchronized Bd.returns (hb hby z37_7) ⟨(by rw [own_digits, if_pos hc3_1] <;> rfl), N0, e0⟩ (by decide) (by decide)
  · skip
    refine Go.pull (V := s₁.setTop (mkF m 11 #[iv pv] [(.int 100), (.int pv)])) (fun t k => XS.icmpYes X0.here hx rfl (pc0 := 3) (pc' := 8) rfl (hb hby z37_3) rfl (XT.ii_ge_t hc3_1) (by decide) (by decide) (XS.iloadN X0.here hx rfl (hb hby z37_8) rfl  (XS.bipush X0.here hx rfl (hb hby z37_9) k))) ?_
    by_cases hc11_2 : pv < (100 : Int32)
    · skip
      refine Go.pull (V := s₁.setTop (mkF m 15 #[iv pv] [(.int 2)])) (fun t k => XS.icmpNo X0.here hx rfl (hb hby z37_11) rfl (XT.ii_ge_f hc11_2) (XS.iconst X0.here hx rfl (hb hby z37_14) k)) ?_
      exact Go.retI X0 hx Bd.notSynchronized Bd.returns (hb hby z37_15) ⟨(by rw [own_digits, if_neg hc3_1, if_pos hc11_2] <;> rfl), N0, e0⟩ (by decide) (by decide)
    · skip
      refine Go.pull (V := s₁.setTop (mkF m 20 #[iv pv] [(.int 1000), (.int pv)])) (fun t k => XS.icmpYes X0.here hx rfl (pc0 := 11) (pc' := 16) rfl (hb hby z37_11) rfl (XT.ii_ge_t hc11_2) (by decide) (by decide) (XS.iloadN X0.here hx rfl (hb hby z37_16) rfl  (XS.sipush X0.here hx rfl (hb hby z37_17) k))) ?_
      by_cases hc20_3 : pv < (1000 : Int32)
      · skip
        refine Go.pull (V := s₁.setTop (mkF m 24 #[iv pv] [(.int 3)])) (fun t k => XS.icmpNo X0.here hx rfl (hb hby z37_20) rfl (XT.ii_ge_f hc20_3) (XS.iconst X0.here hx rfl (hb hby z37_23) k)) ?_
        exact Go.retI X0 hx Bd.notSynchronized Bd.returns (hb hby z37_24) ⟨(by rw [own_digits, if_neg hc3_1, if_neg hc11_2, if_pos hc20_3] <;> rfl), N0, e0⟩ (by decide) (by decide)
      · skip
        refine Go.pull (V := s₁.setTop (mkF m 29 #[iv pv] [(.int 10000), (.int pv)])) (fun t k => XS.icmpYes X0.here hx rfl (pc0 := 20) (pc' := 25) rfl (hb hby z37_20) rfl (XT.ii_ge_t hc20_3) (by decide) (by decide) (XS.iloadN X0.here hx rfl (hb hby z37_25) rfl  (XS.sipush X0.here hx rfl (hb hby z37_26) k))) ?_
        by_cases hc29_4 : pv < (10000 : Int32)
        · skip
          refine Go.pull (V := s₁.setTop (mkF m 33 #[iv pv] [(.int 4)])) (fun t k => XS.icmpNo X0.here hx rfl (hb hby z37_29) rfl (XT.ii_ge_f hc29_4) (XS.iconst X0.here hx rfl (hb hby z37_32) k)) ?_
          exact Go.retI X0 hx Bd.notSynchronized Bd.returns (hb hby z37_33) ⟨(by rw [own_digits, if_neg hc3_1, if_neg hc11_2, if_neg hc20_3, if_pos hc29_4] <;> rfl), N0, e0⟩ (by decide) (by decide)
        · skip
          refine Go.pull (V := s₁.setTop (mkF m 37 #[iv pv] [(.int 100000), (.int pv)])) (fun t k => XS.icmpYes X0.here hx rfl (pc0 := 29) (pc' := 34) rfl (hb hby z37_29) rfl (XT.ii_ge_t hc29_4) (by decide) (by decide) (XS.iloadN X0.here hx rfl (hb hby z37_34) rfl  (X0.ldcInt hx hown (mvT hZ (hw _ (List.mem_of_getElem? (i := 202) rfl))) (g := (mkF m 35 #[iv pv] [(.int pv)])) rfl (hb hby z37_35) _ k))) ?_
          by_cases hc37_5 : pv < (100000 : Int32)
          · skip
            refine Go.pull (V := s₁.setTop (mkF m 41 #[iv pv] [(.int 5)])) (fun t k => XS.icmpNo X0.here hx rfl (hb hby z37_37) rfl (XT.ii_ge_f hc37_5) (XS.iconst X0.here hx rfl (hb hby z37_40) k)) ?_
            exact Go.retI X0 hx Bd.notSynchronized Bd.returns (hb hby z37_41) ⟨(by rw [own_digits, if_neg hc3_1, if_neg hc11_2, if_neg hc20_3, if_neg hc29_4, if_pos hc37_5] <;> rfl), N0, e0⟩ (by decide) (by decide)
          · skip
            refine Go.pull (V := s₁.setTop (mkF m 45 #[iv pv] [(.int 1000000), (.int pv)])) (fun t k => XS.icmpYes X0.here hx rfl (pc0 := 37) (pc' := 42) rfl (hb hby z37_37) rfl (XT.ii_ge_t hc37_5) (by decide) (by decide) (XS.iloadN X0.here hx rfl (hb hby z37_42) rfl  (X0.ldcInt hx hown (mvT hZ (hw _ (List.mem_of_getElem? (i := 203) rfl))) (g := (mkF m 43 #[iv pv] [(.int pv)])) rfl (hb hby z37_43) _ k))) ?_
            by_cases hc45_6 : pv < (1000000 : Int32)
            · skip
              refine Go.pull (V := s₁.setTop (mkF m 50 #[iv pv] [(.int 6)])) (fun t k => XS.icmpNo X0.here hx rfl (hb hby z37_45) rfl (XT.ii_ge_f hc45_6) (XS.bipush X0.here hx rfl (hb hby z37_48) k)) ?_
              exact Go.retI X0 hx Bd.notSynchronized Bd.returns (hb hby z37_50) ⟨(by rw [own_digits, if_neg hc3_1, if_neg hc11_2, if_neg hc20_3, if_neg hc29_4, if_neg hc37_5, if_pos hc45_6] <;> rfl), N0, e0⟩ (by decide) (by decide)
            · skip
              refine Go.pull (V := s₁.setTop (mkF m 54 #[iv pv] [(.int 10000000), (.int pv)])) (fun t k => XS.icmpYes X0.here hx rfl (pc0 := 45) (pc' := 51) rfl (hb hby z37_45) rfl (XT.ii_ge_t hc45_6) (by decide) (by decide) (XS.iloadN X0.here hx rfl (hb hby z37_51) rfl  (X0.ldcInt hx hown (mvT hZ (hw _ (List.mem_of_getElem? (i := 204) rfl))) (g := (mkF m 52 #[iv pv] [(.int pv)])) rfl (hb hby z37_52) _ k))) ?_
              by_cases hc54_7 : pv < (10000000 : Int32)
              · skip
                refine Go.pull (V := s₁.setTop (mkF m 59 #[iv pv] [(.int 7)])) (fun t k => XS.icmpNo X0.here hx rfl (hb hby z37_54) rfl (XT.ii_ge_f hc54_7) (XS.bipush X0.here hx rfl (hb hby z37_57) k)) ?_
                exact Go.retI X0 hx Bd.notSynchronized Bd.returns (hb hby z37_59) ⟨(by rw [own_digits, if_neg hc3_1, if_neg hc11_2, if_neg hc20_3, if_neg hc29_4, if_neg hc37_5, if_neg hc45_6, if_pos hc54_7] <;> rfl), N0, e0⟩ (by decide) (by decide)
              · skip
                refine Go.pull (V := s₁.setTop (mkF m 63 #[iv pv] [(.int 100000000), (.int pv)])) (fun t k => XS.icmpYes X0.here hx rfl (pc0 := 54) (pc' := 60) rfl (hb hby z37_54) rfl (XT.ii_ge_t hc54_7) (by decide) (by decide) (XS.iloadN X0.here hx rfl (hb hby z37_60) rfl  (X0.ldcInt hx hown (mvT hZ (hw _ (List.mem_of_getElem? (i := 205) rfl))) (g := (mkF m 61 #[iv pv] [(.int pv)])) rfl (hb hby z37_61) _ k))) ?_
                by_cases hc63_8 : pv < (100000000 : Int32)
                · skip
                  refine Go.pull (V := s₁.setTop (mkF m 68 #[iv pv] [(.int 8)])) (fun t k => XS.icmpNo X0.here hx rfl (hb hby z37_63) rfl (XT.ii_ge_f hc63_8) (XS.bipush X0.here hx rfl (hb hby z37_66) k)) ?_
                  exact Go.retI X0 hx Bd.notSynchronized Bd.returns (hb hby z37_68) ⟨(by rw [own_digits, if_neg hc3_1, if_neg hc11_2, if_neg hc20_3, if_neg hc29_4, if_neg hc37_5, if_neg hc45_6, if_neg hc54_7, if_pos hc63_8] <;> rfl), N0, e0⟩ (by decide) (by decide)
                · skip
                  refine Go.pull (V := s₁.setTop (mkF m 72 #[iv pv] [(.int 1000000000), (.int pv)])) (fun t k => XS.icmpYes X0.here hx rfl (pc0 := 63) (pc' := 69) rfl (hb hby z37_63) rfl (XT.ii_ge_t hc63_8) (by decide) (by decide) (XS.iloadN X0.here hx rfl (hb hby z37_69) rfl  (X0.ldcInt hx hown (mvT hZ (hw _ (List.mem_of_getElem? (i := 206) rfl))) (g := (mkF m 70 #[iv pv] [(.int pv)])) rfl (hb hby z37_70) _ k))) ?_
                  by_cases hc72_9 : pv < (1000000000 : Int32)
                  · skip
                    refine Go.pull (V := s₁.setTop (mkF m 77 #[iv pv] [(.int 9)])) (fun t k => XS.icmpNo X0.here hx rfl (hb hby z37_72) rfl (XT.ii_ge_f hc72_9) (XS.bipush X0.here hx rfl (hb hby z37_75) k)) ?_
                    exact Go.retI X0 hx Bd.notSynchronized Bd.returns (hb hby z37_77) ⟨(by rw [own_digits, if_neg hc3_1, if_neg hc11_2, if_neg hc20_3, if_neg hc29_4, if_neg hc37_5, if_neg hc45_6, if_neg hc54_7, if_neg hc63_8, if_pos hc72_9] <;> rfl), N0, e0⟩ (by decide) (by decide)
                  · skip
                    refine Go.pull (V := s₁.setTop (mkF m 80 #[iv pv] [(.int 10)])) (fun t k => XS.icmpYes X0.here hx rfl (pc0 := 72) (pc' := 78) rfl (hb hby z37_72) rfl (XT.ii_ge_t hc72_9) (by decide) (by decide) (XS.bipush X0.here hx rfl (hb hby z37_78) k)) ?_
                    exact Go.retI X0 hx Bd.notSynchronized Bd.returns (hb hby z37_80) ⟨(by rw [own_digits, if_neg hc3_1, if_neg hc11_2, if_neg hc20_3, if_neg hc29_4, if_neg hc37_5, if_neg hc45_6, if_neg hc54_7, if_neg hc63_8, if_neg hc72_9] <;> rfl), N0, e0⟩ (by decide) (by decide)
def own_pow (pk : Int32) : Int32 := if pk = 0 then 1 else if pk = 1 then 10 else if pk = 2 then 100 else if pk = 3 then 1000 else if pk = 4 then 10000 else if pk = 5 then 100000 else if pk = 6 then 1000000 else if pk = 7 then 10000000 else if pk = 8 then 100000000 else 1000000000
theorem own_pow_ne (pk : Int32) : own_pow pk ≠ 0 := by
  unfold own_pow
  by_cases h0 : pk = 0
  · rw [if_pos h0]; decide
  rw [if_neg h0]
  by_cases h1 : pk = 1
  · rw [if_pos h1]; decide
  rw [if_neg h1]
  by_cases h2 : pk = 2
  · rw [if_pos h2]; decide
  rw [if_neg h2]
  by_cases h3 : pk = 3
  · rw [if_pos h3]; decide
  rw [if_neg h3]
  by_cases h4 : pk = 4
  · rw [if_pos h4]; decide
  rw [if_neg h4]
  by_cases h5 : pk = 5
  · rw [if_pos h5]; decide
  rw [if_neg h5]
  by_cases h6 : pk = 6
  · rw [if_pos h6]; decide
  rw [if_neg h6]
  by_cases h7 : pk = 7
  · rw [if_pos h7]; decide
  rw [if_neg h7]
  by_cases h8 : pk = 8
  · rw [if_pos h8]; decide
  rw [if_neg h8]
  decide
theorem own_pow_get {pk : Int32} (h0 : ¬ pk < 0) (h1 : pk < 10) : ([(.int 1), (.int 10), (.int 100), (.int 1000), (.int 10000), (.int 100000), (.int 1000000), (.int 10000000), (.int 100000000), (.int 1000000000)] : List Value).getD pk.toNatClampNeg (.int 0) = .int (own_pow pk) := by
  have a1 := own_nn h0
  rw [Int32.lt_iff_toInt_lt, show (10 : Int32).toInt = 10 from rfl] at h1
  have h2 : pk.toInt = 0 ∨ pk.toInt = 1 ∨ pk.toInt = 2 ∨ pk.toInt = 3 ∨ pk.toInt = 4 ∨ pk.toInt = 5 ∨ pk.toInt = 6 ∨ pk.toInt = 7 ∨ pk.toInt = 8 ∨ pk.toInt = 9 := by omega
  rcases h2 with h2 | h2 | h2 | h2 | h2 | h2 | h2 | h2 | h2 | h2
  · obtain rfl : pk = 0 := Int32.toInt_inj.mp h2
    rfl
  · obtain rfl : pk = 1 := Int32.toInt_inj.mp h2
    rfl
  · obtain rfl : pk = 2 := Int32.toInt_inj.mp h2
    rfl
  · obtain rfl : pk = 3 := Int32.toInt_inj.mp h2
    rfl
  · obtain rfl : pk = 4 := Int32.toInt_inj.mp h2
    rfl
  · obtain rfl : pk = 5 := Int32.toInt_inj.mp h2
    rfl
  · obtain rfl : pk = 6 := Int32.toInt_inj.mp h2
    rfl
  · obtain rfl : pk = 7 := Int32.toInt_inj.mp h2
    rfl
  · obtain rfl : pk = 8 := Int32.toInt_inj.mp h2
    rfl
  · obtain rfl : pk = 9 := Int32.toInt_inj.mp h2
    rfl
theorem z38_0 : decode method_3_code 0 = .ok (.bipush 10, 2) := by decide +kernel
theorem z38_2 : decode method_3_code 2 = .ok (.newarray .int, 2) := by decide +kernel
theorem z38_4 : decode method_3_code 4 = .ok (.dup, 1) := by decide +kernel
theorem z38_5 : decode method_3_code 5 = .ok (.iconst 0, 1) := by decide +kernel
theorem z38_6 : decode method_3_code 6 = .ok (.iconst 1, 1) := by decide +kernel
theorem z38_7 : decode method_3_code 7 = .ok (.iastore, 1) := by decide +kernel
theorem z38_8 : decode method_3_code 8 = .ok (.dup, 1) := by decide +kernel
theorem z38_9 : decode method_3_code 9 = .ok (.iconst 1, 1) := by decide +kernel
theorem z38_10 : decode method_3_code 10 = .ok (.bipush 10, 2) := by decide +kernel
theorem z38_12 : decode method_3_code 12 = .ok (.iastore, 1) := by decide +kernel
theorem z38_13 : decode method_3_code 13 = .ok (.dup, 1) := by decide +kernel
theorem z38_14 : decode method_3_code 14 = .ok (.iconst 2, 1) := by decide +kernel
theorem z38_15 : decode method_3_code 15 = .ok (.bipush 100, 2) := by decide +kernel
theorem z38_17 : decode method_3_code 17 = .ok (.iastore, 1) := by decide +kernel
theorem z38_18 : decode method_3_code 18 = .ok (.dup, 1) := by decide +kernel
theorem z38_19 : decode method_3_code 19 = .ok (.iconst 3, 1) := by decide +kernel
theorem z38_20 : decode method_3_code 20 = .ok (.sipush 1000, 3) := by decide +kernel
theorem z38_23 : decode method_3_code 23 = .ok (.iastore, 1) := by decide +kernel
theorem z38_24 : decode method_3_code 24 = .ok (.dup, 1) := by decide +kernel
theorem z38_25 : decode method_3_code 25 = .ok (.iconst 4, 1) := by decide +kernel
theorem z38_26 : decode method_3_code 26 = .ok (.sipush 10000, 3) := by decide +kernel
theorem z38_29 : decode method_3_code 29 = .ok (.iastore, 1) := by decide +kernel
theorem z38_30 : decode method_3_code 30 = .ok (.dup, 1) := by decide +kernel
theorem z38_31 : decode method_3_code 31 = .ok (.iconst 5, 1) := by decide +kernel
theorem z38_32 : decode method_3_code 32 = .ok (.ldc 7, 2) := by decide +kernel
theorem z38_34 : decode method_3_code 34 = .ok (.iastore, 1) := by decide +kernel
theorem z38_35 : decode method_3_code 35 = .ok (.dup, 1) := by decide +kernel
theorem z38_36 : decode method_3_code 36 = .ok (.bipush 6, 2) := by decide +kernel
theorem z38_38 : decode method_3_code 38 = .ok (.ldc 8, 2) := by decide +kernel
theorem z38_40 : decode method_3_code 40 = .ok (.iastore, 1) := by decide +kernel
theorem z38_41 : decode method_3_code 41 = .ok (.dup, 1) := by decide +kernel
theorem z38_42 : decode method_3_code 42 = .ok (.bipush 7, 2) := by decide +kernel
theorem z38_44 : decode method_3_code 44 = .ok (.ldc 9, 2) := by decide +kernel
theorem z38_46 : decode method_3_code 46 = .ok (.iastore, 1) := by decide +kernel
theorem z38_47 : decode method_3_code 47 = .ok (.dup, 1) := by decide +kernel
theorem z38_48 : decode method_3_code 48 = .ok (.bipush 8, 2) := by decide +kernel
theorem z38_50 : decode method_3_code 50 = .ok (.ldc 10, 2) := by decide +kernel
theorem z38_52 : decode method_3_code 52 = .ok (.iastore, 1) := by decide +kernel
theorem z38_53 : decode method_3_code 53 = .ok (.dup, 1) := by decide +kernel
theorem z38_54 : decode method_3_code 54 = .ok (.bipush 9, 2) := by decide +kernel
theorem z38_56 : decode method_3_code 56 = .ok (.ldc 11, 2) := by decide +kernel
theorem z38_58 : decode method_3_code 58 = .ok (.iastore, 1) := by decide +kernel
theorem z38_59 : decode method_3_code 59 = .ok (.astore_n 1, 1) := by decide +kernel
theorem z38_60 : decode method_3_code 60 = .ok (.aload_n 1, 1) := by decide +kernel
theorem z38_61 : decode method_3_code 61 = .ok (.iload_n 0, 1) := by decide +kernel
theorem z38_62 : decode method_3_code 62 = .ok (.iaload, 1) := by decide +kernel
theorem z38_63 : decode method_3_code 63 = .ok (.ireturn, 1) := by decide +kernel
theorem efPw (m : MethodId) (x0 : Int32) : entryFrame m #[(.int x0)] 2 = mkF m 0 #[iv x0, .unset] [] := by first | (simp [entryFrame, mkF, argsToLocals, Value.category]; done) | rfl
def QPw (Z : State) (pk : Int32) (h0 : Heap) (n0 : Nat) (v : Option Value) (h : Heap) (L : List Loc) : Prop := v = some (.int (own_pow pk)) ∧ Fr n0 L ∧ Keep h0 h []
set_option maxRecDepth 65536 in
set_option maxHeartbeats 40000000 in
theorem rmPw (l : Launch) (Z : State) (a0 : Array Value) (hw : ∀ d ∈ tables_1, d.before a0 Z = true) (ws : List Jvm.Cond) (pk : Int32) (h0 : Heap) (n0 : Nat) (Z0 : n0 ≤ h0.size) (hk0 : ¬ pk < 0) (hk10 : pk < 10) :
    MetFree l (⟨"com/example/salish/salish/PlaceOfValuePinLaw", "pow10", "(I)I"⟩ : MethodName) (head1 (Jvm.Cond.code (⟨"com/example/salish/salish/PlaceOfValuePinLaw", "pow10", "(I)I"⟩ : MethodName) method_3_code 2 (some .int) :: ws) ({ frames := 0, cells := 1, slots := 10, locals := 0 } : Room)) (fun as' U => as' = #[(.int pk)] ∧ Z.Warmed39 U.vm ∧ U.heap = h0) (fun _ _ _ _ _ => True) (fun _ U o U' => ∃ v L, o = .returned v ∧ QPw Z pk h0 n0 v U'.heap L ∧ FrameEnd U o U' L ({ frames := 0, cells := 1, slots := 10, locals := 0 } : Room).cells ({ frames := 0, cells := 1, slots := 10, locals := 0 } : Room).slots) := by
  refine MetFree.of_bodySF (plainFor_of_name pn_com_example_salish_salish_PlaceOfValuePinLaw) hisR ?_
  intro p e s m args below meth c s₁ Bd hml0 hP hK
  obtain ⟨rfl, hZ, hh⟩ := hP
  have hx := Bd.exec
  have hby := Bd.bytes
  have hml : c.maxLocals = 2 := hml0
  have hown : s.vm.findClass "com/example/salish/salish/PlaceOfValuePinLaw" = some m.cls := findClass_of_methodNamed Bd.named
  have hnm := (name_of_methodNamed Bd.named Bd.method).1
  have X0 : Stand p l e ({ frames := 0, cells := 1, slots := 10, locals := 0 } : Room) s m #[(.int pk)] below meth c s₁ [] 0 0 := Stand.of_body Bd
  have e0 : s₁.heap = h0 := by rw [← hh, Bd.state]; rfl
  have N0 := Fr.nil n0
  show Go p e below s (fun v h L => QPw Z pk h0 n0 v h L) 1 10 _
  refine Go.pull (V := s₁.setTop (mkF m 0 #[iv pk, .unset] [])) (fun t k => castTop (efPw m pk) k) ?_
  refine Go.pull (V := s₁.setTop (mkF m 2 #[iv pk, .unset] [(.int 10)])) (fun t k => XS.bipush X0.here hx rfl (hb hby z38_0) k) ?_
  obtain ⟨T1, h1, k1, X1, e1, E1, A1, D1, st1⟩ := newPE X0 hx hZ (hw _ (List.mem_of_getElem? (i := 236) rfl)) e0 (g := (mkF m 2 #[iv pk, .unset] [(.int 10)])) rfl (hb hby z38_2) rfl (by decide) (cap := 10) (by decide) (by decide) (by decide) (by decide) (ad := "[I") rfl
  obtain ⟨b1, g1⟩ : ∃ z, z = h0.size := ⟨_, rfl⟩
  rw [← g1] at A1 D1 st1
  have sz_b1 : h0.size ≤ b1 := Nat.le_trans ((Keep.refl h0 [])).1 (Nat.le_of_eq g1.symm)
  have g_b1 : n0 ≤ b1 := Nat.le_trans Z0 sz_b1
  have K1 : Keep h0 h1 [] := (Keep.refl h0 []).ext E1
  have V1 : Arv Z h1 b1 k1 .int (10 : Int32) [(.int 0), (.int 0), (.int 0), (.int 0), (.int 0), (.int 0), (.int 0), (.int 0), (.int 0), (.int 0)] (.int 0) := (Arv.new A1 (by decide)).pad (pad_rep [] (.int 0) 10)
  refine Go.pull (V := T1.setTop (mkF m 4 #[iv pk, .unset] [(.ref b1)])) st1 ?_
  refine Go.pull (V := T1.setTop (mkF m 7 #[iv pk, .unset] [(.int 1), (.int 0), (.ref b1), (.ref b1)])) (fun t k => XS.dup X1.here hx rfl (hb hby z38_4) rfl rfl (XS.iconst X1.here hx rfl (hb hby z38_5) (XS.iconst X1.here hx rfl (hb hby z38_6) k))) ?_
  obtain ⟨cl2, Ar2, q2, S2, M2, Hs2, G2⟩ := id V1
  have hin2 : ¬ ((0 : Int32) < 0 ∨ cl2.slots.size ≤ ((0 : Int32)).toNatClampNeg) := inb_of S2 ⟨by decide, by decide⟩
  obtain ⟨T3, h3, X3, e3, W3, st3⟩ := stI X1 hx hZ e1 Ar2 (j := (0 : Int32)) hin2 (g := (mkF m 7 #[iv pk, .unset] [(.int 1), (.int 0), (.ref b1), (.ref b1)])) rfl rfl (hb hby z38_7)
  have V3 : Arv Z h3 b1 k1 .int (10 : Int32) [(.int 1), (.int 0), (.int 0), (.int 0), (.int 0), (.int 0), (.int 0), (.int 0), (.int 0), (.int 0)] (.int 0) := Arv.set Ar2 q2 S2 M2 Hs2 G2 rfl W3 0 rfl (Nat.le_of_ble_eq_true rfl)
  have K3 : Keep h0 h3 [] := K1.wr W3 (Or.inr sz_b1)
  have N3 := Fr.snoc X3 N0 g_b1
  refine Go.pull (V := T3.setTop (mkF m 8 #[iv pk, .unset] [(.ref b1)])) st3 ?_
  refine Go.pull (V := T3.setTop (mkF m 12 #[iv pk, .unset] [(.int 10), (.int 1), (.ref b1), (.ref b1)])) (fun t k => XS.dup X3.here hx rfl (hb hby z38_8) rfl rfl (XS.iconst X3.here hx rfl (hb hby z38_9) (XS.bipush X3.here hx rfl (hb hby z38_10) k))) ?_
  obtain ⟨cl4, Ar4, q4, S4, M4, Hs4, G4⟩ := id V3
  have hin4 : ¬ ((1 : Int32) < 0 ∨ cl4.slots.size ≤ ((1 : Int32)).toNatClampNeg) := inb_of S4 ⟨by decide, by decide⟩
  obtain ⟨T5, h5, X5, e5, W5, st5⟩ := stI X3 hx hZ e3 Ar4 (j := (1 : Int32)) hin4 (g := (mkF m 12 #[iv pk, .unset] [(.int 10), (.int 1), (.ref b1), (.ref b1)])) rfl rfl (hb hby z38_12)
  have V5 : Arv Z h5 b1 k1 .int (10 : Int32) [(.int 1), (.int 10), (.int 0), (.int 0), (.int 0), (.int 0), (.int 0), (.int 0), (.int 0), (.int 0)] (.int 0) := Arv.set Ar4 q4 S4 M4 Hs4 G4 rfl W5 1 rfl (Nat.le_of_ble_eq_true rfl)
  have K5 : Keep h0 h5 [] := K3.wr W5 (Or.inr sz_b1)
  have N5 := Fr.snoc X5 N3 g_b1
  refine Go.pull (V := T5.setTop (mkF m 13 #[iv pk, .unset] [(.ref b1)])) st5 ?_
  refine Go.pull (V := T5.setTop (mkF m 17 #[iv pk, .unset] [(.int 100), (.int 2), (.ref b1), (.ref b1)])) (fun t k => XS.dup X5.here hx rfl (hb hby z38_13) rfl rfl (XS.iconst X5.here hx rfl (hb hby z38_14) (XS.bipush X5.here hx rfl (hb hby z38_15) k))) ?_
  obtain ⟨cl6, Ar6, q6, S6, M6, Hs6, G6⟩ := id V5
  have hin6 : ¬ ((2 : Int32) < 0 ∨ cl6.slots.size ≤ ((2 : Int32)).toNatClampNeg) := inb_of S6 ⟨by decide, by decide⟩
  obtain ⟨T7, h7, X7, e7, W7, st7⟩ := stI X5 hx hZ e5 Ar6 (j := (2 : Int32)) hin6 (g := (mkF m 17 #[iv pk, .unset] [(.int 100), (.int 2), (.ref b1), (.ref b1)])) rfl rfl (hb hby z38_17)
  have V7 : Arv Z h7 b1 k1 .int (10 : Int32) [(.int 1), (.int 10), (.int 100), (.int 0), (.int 0), (.int 0), (.int 0), (.int 0), (.int 0), (.int 0)] (.int 0) := Arv.set Ar6 q6 S6 M6 Hs6 G6 rfl W7 2 rfl (Nat.le_of_ble_eq_true rfl)
  have K7 : Keep h0 h7 [] := K5.wr W7 (Or.inr sz_b1)
  have N7 := Fr.snoc X7 N5 g_b1
  refine Go.pull (V := T7.setTop (mkF m 18 #[iv pk, .unset] [(.ref b1)])) st7 ?_
  refine Go.pull (V := T7.setTop (mkF m 23 #[iv pk, .unset] [(.int 1000), (.int 3), (.ref b1), (.ref b1)])) (fun t k => XS.dup X7.here hx rfl (hb hby z38_18) rfl rfl (XS.iconst X7.here hx rfl (hb hby z38_19) (XS.sipush X7.here hx rfl (hb hby z38_20) k))) ?_
  obtain ⟨cl8, Ar8, q8, S8, M8, Hs8, G8⟩ := id V7
  have hin8 : ¬ ((3 : Int32) < 0 ∨ cl8.slots.size ≤ ((3 : Int32)).toNatClampNeg) := inb_of S8 ⟨by decide, by decide⟩
  obtain ⟨T9, h9, X9, e9, W9, st9⟩ := stI X7 hx hZ e7 Ar8 (j := (3 : Int32)) hin8 (g := (mkF m 23 #[iv pk, .unset] [(.int 1000), (.int 3), (.ref b1), (.ref b1)])) rfl rfl (hb hby z38_23)
  have V9 : Arv Z h9 b1 k1 .int (10 : Int32) [(.int 1), (.int 10), (.int 100), (.int 1000), (.int 0), (.int 0), (.int 0), (.int 0), (.int 0), (.int 0)] (.int 0) := Arv.set Ar8 q8 S8 M8 Hs8 G8 rfl W9 3 rfl (Nat.le_of_ble_eq_true rfl)
  have K9 : Keep h0 h9 [] := K7.wr W9 (Or.inr sz_b1)
  have N9 := Fr.snoc X9 N7 g_b1
  refine Go.pull (V := T9.setTop (mkF m 24 #[iv pk, .unset] [(.ref b1)])) st9 ?_
  refine Go.pull (V := T9.setTop (mkF m 29 #[iv pk, .unset] [(.int 10000), (.int 4), (.ref b1), (.ref b1)])) (fun t k => XS.dup X9.here hx rfl (hb hby z38_24) rfl rfl (XS.iconst X9.here hx rfl (hb hby z38_25) (XS.sipush X9.here hx rfl (hb hby z38_26) k))) ?_
  obtain ⟨cl10, Ar10, q10, S10, M10, Hs10, G10⟩ := id V9
  have hin10 : ¬ ((4 : Int32) < 0 ∨ cl10.slots.size ≤ ((4 : Int32)).toNatClampNeg) := inb_of S10 ⟨by decide, by decide⟩
  obtain ⟨T11, h11, X11, e11, W11, st11⟩ := stI X9 hx hZ e9 Ar10 (j := (4 : Int32)) hin10 (g := (mkF m 29 #[iv pk, .unset] [(.int 10000), (.int 4), (.ref b1), (.ref b1)])) rfl rfl (hb hby z38_29)
  have V11 : Arv Z h11 b1 k1 .int (10 : Int32) [(.int 1), (.int 10), (.int 100), (.int 1000), (.int 10000), (.int 0), (.int 0), (.int 0), (.int 0), (.int 0)] (.int 0) := Arv.set Ar10 q10 S10 M10 Hs10 G10 rfl W11 4 rfl (Nat.le_of_ble_eq_true rfl)
  have K11 : Keep h0 h11 [] := K9.wr W11 (Or.inr sz_b1)
  have N11 := Fr.snoc X11 N9 g_b1
  refine Go.pull (V := T11.setTop (mkF m 30 #[iv pk, .unset] [(.ref b1)])) st11 ?_
  refine Go.pull (V := T11.setTop (mkF m 34 #[iv pk, .unset] [(.int 100000), (.int 5), (.ref b1), (.ref b1)])) (fun t k => XS.dup X11.here hx rfl (hb hby z38_30) rfl rfl (XS.iconst X11.here hx rfl (hb hby z38_31) (X11.ldcInt hx hown (mvT hZ (hw _ (List.mem_of_getElem? (i := 202) rfl))) (g := (mkF m 32 #[iv pk, .unset] [(.int 5), (.ref b1), (.ref b1)])) rfl (hb hby z38_32) _ k))) ?_
  obtain ⟨cl12, Ar12, q12, S12, M12, Hs12, G12⟩ := id V11
  have hin12 : ¬ ((5 : Int32) < 0 ∨ cl12.slots.size ≤ ((5 : Int32)).toNatClampNeg) := inb_of S12 ⟨by decide, by decide⟩
  obtain ⟨T13, h13, X13, e13, W13, st13⟩ := stI X11 hx hZ e11 Ar12 (j := (5 : Int32)) hin12 (g := (mkF m 34 #[iv pk, .unset] [(.int 100000), (.int 5), (.ref b1), (.ref b1)])) rfl rfl (hb hby z38_34)
  have V13 : Arv Z h13 b1 k1 .int (10 : Int32) [(.int 1), (.int 10), (.int 100), (.int 1000), (.int 10000), (.int 100000), (.int 0), (.int 0), (.int 0), (.int 0)] (.int 0) := Arv.set Ar12 q12 S12 M12 Hs12 G12 rfl W13 5 rfl (Nat.le_of_ble_eq_true rfl)
  have K13 : Keep h0 h13 [] := K11.wr W13 (Or.inr sz_b1)
  have N13 := Fr.snoc X13 N11 g_b1
  refine Go.pull (V := T13.setTop (mkF m 35 #[iv pk, .unset] [(.ref b1)])) st13 ?_
  refine Go.pull (V := T13.setTop (mkF m 40 #[iv pk, .unset] [(.int 1000000), (.int 6), (.ref b1), (.ref b1)])) (fun t k => XS.dup X13.here hx rfl (hb hby z38_35) rfl rfl (XS.bipush X13.here hx rfl (hb hby z38_36) (X13.ldcInt hx hown (mvT hZ (hw _ (List.mem_of_getElem? (i := 203) rfl))) (g := (mkF m 38 #[iv pk, .unset] [(.int 6), (.ref b1), (.ref b1)])) rfl (hb hby z38_38) _ k))) ?_
  obtain ⟨cl14, Ar14, q14, S14, M14, Hs14, G14⟩ := id V13
  have hin14 : ¬ ((6 : Int32) < 0 ∨ cl14.slots.size ≤ ((6 : Int32)).toNatClampNeg) := inb_of S14 ⟨by decide, by decide⟩
  obtain ⟨T15, h15, X15, e15, W15, st15⟩ := stI X13 hx hZ e13 Ar14 (j := (6 : Int32)) hin14 (g := (mkF m 40 #[iv pk, .unset] [(.int 1000000), (.int 6), (.ref b1), (.ref b1)])) rfl rfl (hb hby z38_40)
  have V15 : Arv Z h15 b1 k1 .int (10 : Int32) [(.int 1), (.int 10), (.int 100), (.int 1000), (.int 10000), (.int 100000), (.int 1000000), (.int 0), (.int 0), (.int 0)] (.int 0) := Arv.set Ar14 q14 S14 M14 Hs14 G14 rfl W15 6 rfl (Nat.le_of_ble_eq_true rfl)
  have K15 : Keep h0 h15 [] := K13.wr W15 (Or.inr sz_b1)
  have N15 := Fr.snoc X15 N13 g_b1
  refine Go.pull (V := T15.setTop (mkF m 41 #[iv pk, .unset] [(.ref b1)])) st15 ?_
  refine Go.pull (V := T15.setTop (mkF m 46 #[iv pk, .unset] [(.int 10000000), (.int 7), (.ref b1), (.ref b1)])) (fun t k => XS.dup X15.here hx rfl (hb hby z38_41) rfl rfl (XS.bipush X15.here hx rfl (hb hby z38_42) (X15.ldcInt hx hown (mvT hZ (hw _ (List.mem_of_getElem? (i := 204) rfl))) (g := (mkF m 44 #[iv pk, .unset] [(.int 7), (.ref b1), (.ref b1)])) rfl (hb hby z38_44) _ k))) ?_
  obtain ⟨cl16, Ar16, q16, S16, M16, Hs16, G16⟩ := id V15
  have hin16 : ¬ ((7 : Int32) < 0 ∨ cl16.slots.size ≤ ((7 : Int32)).toNatClampNeg) := inb_of S16 ⟨by decide, by decide⟩
  obtain ⟨T17, h17, X17, e17, W17, st17⟩ := stI X15 hx hZ e15 Ar16 (j := (7 : Int32)) hin16 (g := (mkF m 46 #[iv pk, .unset] [(.int 10000000), (.int 7), (.ref b1), (.ref b1)])) rfl rfl (hb hby z38_46)
  have V17 : Arv Z h17 b1 k1 .int (10 : Int32) [(.int 1), (.int 10), (.int 100), (.int 1000), (.int 10000), (.int 100000), (.int 1000000), (.int 10000000), (.int 0), (.int 0)] (.int 0) := Arv.set Ar16 q16 S16 M16 Hs16 G16 rfl W17 7 rfl (Nat.le_of_ble_eq_true rfl)
  have K17 : Keep h0 h17 [] := K15.wr W17 (Or.inr sz_b1)
  have N17 := Fr.snoc X17 N15 g_b1
  refine Go.pull (V := T17.setTop (mkF m 47 #[iv pk, .unset] [(.ref b1)])) st17 ?_
  refine Go.pull (V := T17.setTop (mkF m 52 #[iv pk, .unset] [(.int 100000000), (.int 8), (.ref b1), (.ref b1)])) (fun t k => XS.dup X17.here hx rfl (hb hby z38_47) rfl rfl (XS.bipush X17.here hx rfl (hb hby z38_48) (X17.ldcInt hx hown (mvT hZ (hw _ (List.mem_of_getElem? (i := 205) rfl))) (g := (mkF m 50 #[iv pk, .unset] [(.int 8), (.ref b1), (.ref b1)])) rfl (hb hby z38_50) _ k))) ?_
  obtain ⟨cl18, Ar18, q18, S18, M18, Hs18, G18⟩ := id V17
  have hin18 : ¬ ((8 : Int32) < 0 ∨ cl18.slots.size ≤ ((8 : Int32)).toNatClampNeg) := inb_of S18 ⟨by decide, by decide⟩
  obtain ⟨T19, h19, X19, e19, W19, st19⟩ := stI X17 hx hZ e17 Ar18 (j := (8 : Int32)) hin18 (g := (mkF m 52 #[iv pk, .unset] [(.int 100000000), (.int 8), (.ref b1), (.ref b1)])) rfl rfl (hb hby z38_52)
  have V19 : Arv Z h19 b1 k1 .int (10 : Int32) [(.int 1), (.int 10), (.int 100), (.int 1000), (.int 10000), (.int 100000), (.int 1000000), (.int 10000000), (.int 100000000), (.int 0)] (.int 0) := Arv.set Ar18 q18 S18 M18 Hs18 G18 rfl W19 8 rfl (Nat.le_of_ble_eq_true rfl)
  have K19 : Keep h0 h19 [] := K17.wr W19 (Or.inr sz_b1)
  have N19 := Fr.snoc X19 N17 g_b1
  refine Go.pull (V := T19.setTop (mkF m 53 #[iv pk, .unset] [(.ref b1)])) st19 ?_
  refine Go.pull (V := T19.setTop (mkF m 58 #[iv pk, .unset] [(.int 1000000000), (.int 9), (.ref b1), (.ref b1)])) (fun t k => XS.dup X19.here hx rfl (hb hby z38_53) rfl rfl (XS.bipush X19.here hx rfl (hb hby z38_54) (X19.ldcInt hx hown (mvT hZ (hw _ (List.mem_of_getElem? (i := 206) rfl))) (g := (mkF m 56 #[iv pk, .unset] [(.int 9), (.ref b1), (.ref b1)])) rfl (hb hby z38_56) _ k))) ?_
  obtain ⟨cl20, Ar20, q20, S20, M20, Hs20, G20⟩ := id V19
  have hin20 : ¬ ((9 : Int32) < 0 ∨ cl20.slots.size ≤ ((9 : Int32)).toNatClampNeg) := inb_of S20 ⟨by decide, by decide⟩
  obtain ⟨T21, h21, X21, e21, W21, st21⟩ := stI X19 hx hZ e19 Ar20 (j := (9 : Int32)) hin20 (g := (mkF m 58 #[iv pk, .unset] [(.int 1000000000), (.int 9), (.ref b1), (.ref b1)])) rfl rfl (hb hby z38_58)
  have V21 : Arv Z h21 b1 k1 .int (10 : Int32) [(.int 1), (.int 10), (.int 100), (.int 1000), (.int 10000), (.int 100000), (.int 1000000), (.int 10000000), (.int 100000000), (.int 1000000000)] (.int 0) := Arv.set Ar20 q20 S20 M20 Hs20 G20 rfl W21 9 rfl (Nat.le_of_ble_eq_true rfl)
  have K21 : Keep h0 h21 [] := K19.wr W21 (Or.inr sz_b1)
  have N21 := Fr.snoc X21 N19 g_b1
  refine Go.pull (V := T21.setTop (mkF m 59 #[iv pk, .unset] [(.ref b1)])) st21 ?_
  refine Go.pull (V := T21.setTop (mkF m 62 #[iv pk, rv b1] [(.int pk), (.ref b1)])) (fun t k => XS.astoreN X21.here hx rfl (hb hby z38_59) rfl rfl (l' := #[iv pk, rv b1]) rfl (XS.aloadN X21.here hx rfl (hb hby z38_60) rfl rfl (XS.iloadN X21.here hx rfl (hb hby z38_61) rfl  k))) ?_
  obtain ⟨cl22, Ar22, q22, S22, M22, Hs22, G22⟩ := id V21
  have hin22 : ¬ (pk < 0 ∨ cl22.slots.size ≤ (pk).toNatClampNeg) := inb_of S22 ⟨hk0, hk10⟩
  have hat22 : cl22.slots[(pk).toNatClampNeg]? = some (.int (own_pow pk)) := Has.at Hs22 hin22 (own_pow_get hk0 hk10)
  refine Go.pull (V := T21.setTop (mkF m 63 #[iv pk, rv b1] [(.int (own_pow pk))])) (fun t k => X21.iaload hx (j := pk) (v := (.int (own_pow pk))) (by rw [e21]; exact Ar22.1) (State.isArrayOf_alike hZ.alike Ar22.2.1) Ar22.2.2 hin22 hat22 (g := (mkF m 62 #[iv pk, rv b1] [(.int pk), (.ref b1)])) rfl rfl (hb hby z38_62) _ k) ?_
  exact Go.retI X21 hx Bd.notSynchronized Bd.returns (hb hby z38_63) (by rw [e21]; exact ⟨rfl, N21, K21⟩) (by decide) (by decide)
theorem z39_0 : decode method_4_code 0 = .ok (.iload_n 3, 1) := by decide +kernel
theorem z39_1 : decode method_4_code 1 = .ok (.iload_n 2, 1) := by decide +kernel
theorem z39_2 : decode method_4_code 2 = .ok (.if_icmp .lt 5, 3) := by decide +kernel
theorem z39_5 : decode method_4_code 5 = .ok (.iconst 1, 1) := by decide +kernel
theorem z39_6 : decode method_4_code 6 = .ok (.ireturn, 1) := by decide +kernel
theorem z39_7 : decode method_4_code 7 = .ok (.iload_n 2, 1) := by decide +kernel
theorem z39_8 : decode method_4_code 8 = .ok (.iconst 1, 1) := by decide +kernel
theorem z39_9 : decode method_4_code 9 = .ok (.isub, 1) := by decide +kernel
theorem z39_10 : decode method_4_code 10 = .ok (.iload_n 3, 1) := by decide +kernel
theorem z39_11 : decode method_4_code 11 = .ok (.isub, 1) := by decide +kernel
theorem z39_12 : decode method_4_code 12 = .ok (.invokestatic 12, 3) := by decide +kernel
theorem z39_15 : decode method_4_code 15 = .ok (.istore 4, 2) := by decide +kernel
theorem z39_17 : decode method_4_code 17 = .ok (.aload_n 0, 1) := by decide +kernel
theorem z39_18 : decode method_4_code 18 = .ok (.iconst 2, 1) := by decide +kernel
theorem z39_19 : decode method_4_code 19 = .ok (.iload_n 3, 1) := by decide +kernel
theorem z39_20 : decode method_4_code 20 = .ok (.iadd, 1) := by decide +kernel
theorem z39_21 : decode method_4_code 21 = .ok (.invokevirtual 18, 3) := by decide +kernel
theorem z39_24 : decode method_4_code 24 = .ok (.bipush 48, 2) := by decide +kernel
theorem z39_26 : decode method_4_code 26 = .ok (.iload_n 1, 1) := by decide +kernel
theorem z39_27 : decode method_4_code 27 = .ok (.iload 4, 2) := by decide +kernel
theorem z39_29 : decode method_4_code 29 = .ok (.idiv, 1) := by decide +kernel
theorem z39_30 : decode method_4_code 30 = .ok (.bipush 10, 2) := by decide +kernel
theorem z39_32 : decode method_4_code 32 = .ok (.irem, 1) := by decide +kernel
theorem z39_33 : decode method_4_code 33 = .ok (.iadd, 1) := by decide +kernel
theorem z39_34 : decode method_4_code 34 = .ok (.i2c, 1) := by decide +kernel
theorem z39_35 : decode method_4_code 35 = .ok (.if_icmp .ne 7, 3) := by decide +kernel
theorem z39_38 : decode method_4_code 38 = .ok (.iconst 1, 1) := by decide +kernel
theorem z39_39 : decode method_4_code 39 = .ok (.goto 4, 3) := by decide +kernel
theorem z39_43 : decode method_4_code 43 = .ok (.ireturn, 1) := by decide +kernel
theorem efDk (m : MethodId) (x0 : Addr) (x1 : Int32) (x2 : Int32) (x3 : Int32) : entryFrame m #[(.ref x0), (.int x1), (.int x2), (.int x3)] 5 = mkF m 0 #[rv x0, iv x1, iv x2, iv x3, .unset] [] := by first | (simp [entryFrame, mkF, argsToLocals, Value.category]; done) | rfl
def QDk (Z : State) (a : Addr) (pv : Int32) (pd : Int32) (pk : Int32) (cs : Int32) (sa : Addr) (ka : ClassId) (pn : Int32) (us : List Value) (pw : Int32) (sf : Value) (h0 : Heap) (n0 : Nat) (v : Option Value) (h : Heap) (L : List Loc) : Prop := v = some (.int 1) ∧ Fr n0 L ∧ Keep h0 h []
set_option maxRecDepth 65536 in
set_option maxHeartbeats 40000000 in
theorem rmDk (l : Launch) (Z : State) (a0 : Array Value) (hw : ∀ d ∈ tables_1, d.before a0 Z = true) (ws : List Jvm.Cond) (a : Addr) (pv : Int32) (pd : Int32) (pk : Int32) (cs : Int32) (sa : Addr) (ka : ClassId) (pn : Int32) (us : List Value) (pw : Int32) (sf : Value) (h0 : Heap) (n0 : Nat) (Z0 : n0 ≤ h0.size) (Scs : Sta Z h0 "java/lang/String" "COMPACT_STRINGS" "Z" (.int cs)) (Ea : Exa Z h0 a "java/lang/String") (Fca : Fld Z h0 a "java/lang/String" "coder" "B" (.int 0)) (Fva : Fld Z h0 a "java/lang/String" "value" "[B" (.ref sa)) (Va : Arv Z h0 sa ka .byte pn us (.int 0)) (Ssf : Sta Z h0 "jdk/internal/util/Preconditions" "SIOOBE_FORMATTER" "Ljava/util/function/BiFunction;" sf) (hcs : ¬ cs = 0) (hsf : sf.isRef = true) (hdk : pk < pd → ¬ ((pd - (1 : Int32)) - pk) < 0 ∧ ((pd - (1 : Int32)) - pk) < 10 ∧ ¬ ((2 : Int32) + pk) < 0 ∧ ((2 : Int32) + pk) < pn ∧ us.getD ((2 : Int32) + pk).toNatClampNeg (.int 0) = .int pw ∧ (0 ≤ pw.toInt ∧ pw.toInt < 128) ∧ pw = (((48 : Int32) + ((pv / (own_pow ((pd - (1 : Int32)) - pk))) % (10 : Int32))).toUInt32.toUInt16.toUInt32.toInt32)) :
    MetFree l (⟨"com/example/salish/salish/PlaceOfValuePinLaw", "digitOk", "(Ljava/lang/String;III)Z"⟩ : MethodName) (head1 (Jvm.Cond.code (⟨"com/example/salish/salish/PlaceOfValuePinLaw", "digitOk", "(Ljava/lang/String;III)Z"⟩ : MethodName) method_4_code 5 (some .boolean) :: ws) ({ frames := 4, cells := 1, slots := 10, locals := 53 } : Room)) (fun as' U => as' = #[(.ref a), (.int pv), (.int pd), (.int pk)] ∧ Z.Warmed39 U.vm ∧ U.heap = h0) (fun _ _ _ _ _ => True) (fun _ U o U' => ∃ v L, o = .returned v ∧ QDk Z a pv pd pk cs sa ka pn us pw sf h0 n0 v U'.heap L ∧ FrameEnd U o U' L ({ frames := 4, cells := 1, slots := 10, locals := 53 } : Room).cells ({ frames := 4, cells := 1, slots := 10, locals := 53 } : Room).slots) := by
  refine MetFree.of_bodySF (plainFor_of_name pn_com_example_salish_salish_PlaceOfValuePinLaw) hisR ?_
  intro p e s m args below meth c s₁ Bd hml0 hP hK
  obtain ⟨rfl, hZ, hh⟩ := hP
  have hx := Bd.exec
  have hby := Bd.bytes
  have hml : c.maxLocals = 5 := hml0
  have hown : s.vm.findClass "com/example/salish/salish/PlaceOfValuePinLaw" = some m.cls := findClass_of_methodNamed Bd.named
  have hnm := (name_of_methodNamed Bd.named Bd.method).1
  have X0 : Stand p l e ({ frames := 4, cells := 1, slots := 10, locals := 53 } : Room) s m #[(.ref a), (.int pv), (.int pd), (.int pk)] below meth c s₁ [] 0 0 := Stand.of_body Bd
  have e0 : s₁.heap = h0 := by rw [← hh, Bd.state]; rfl
  have N0 := Fr.nil n0
  show Go p e below s (fun v h L => QDk Z a pv pd pk cs sa ka pn us pw sf h0 n0 v h L) 1 10 _
  refine Go.pull (V := s₁.setTop (mkF m 0 #[rv a, iv pv, iv pd, iv pk, .unset] [])) (fun t k => castTop (efDk m a pv pd pk) k) ?_
  refine Go.pull (V := s₁.setTop (mkF m 2 #[rv a, iv pv, iv pd, iv pk, .unset] [(.int pd), (.int pk)])) (fun t k => XS.iloadN X0.here hx rfl (hb hby z39_0) rfl  (XS.iloadN X0.here hx rfl (hb hby z39_1) rfl  k)) ?_
  by_cases hc2_1 : pk < pd
  · skip
    refine Go.pull (V := s₁.setTop (mkF m 7 #[rv a, iv pv, iv pd, iv pk, .unset] [])) (fun t k => XS.icmpYes X0.here hx rfl (pc0 := 2) (pc' := 7) rfl (hb hby z39_2) rfl (XT.ii_lt_t hc2_1) (by decide) (by decide) k) ?_
    have hlt := hc2_1
    refine Go.pull (V := s₁.setTop (mkF m 12 #[rv a, iv pv, iv pd, iv pk, .unset] [(.int ((pd - (1 : Int32)) - pk))])) (fun t k => XS.iloadN X0.here hx rfl (hb hby z39_7) rfl  (XS.iconst X0.here hx rfl (hb hby z39_8) (XS.isub X0.here hx rfl (hb hby z39_9) rfl (XS.iloadN X0.here hx rfl (hb hby z39_10) rfl  (XS.isub X0.here hx rfl (hb hby z39_11) rfl k))))) ?_
    obtain ⟨_, _, ⟨T2, L2, k2, n2⟩, -, X2, ⟨Lc2, hQ2, l2, y2, z2⟩, st2⟩ := Jvm.LawKit.callS X0 hx (y := (⟨"com/example/salish/salish/PlaceOfValuePinLaw", "pow10", "(I)I"⟩ : MethodName)) hown (mvT hZ (hw _ (List.mem_of_getElem? (i := 233) rfl))) (mvT hZ (hw _ (List.mem_of_getElem? (i := 234) rfl))) (mvT hZ (hw _ (List.mem_of_getElem? (i := 200) rfl))) (mvT hZ (hw _ (List.mem_of_getElem? (i := 235) rfl))) (by decide) (backOf (W := 0) (rmPw l Z a0 hw [] ((pd - (1 : Int32)) - pk) h0 n0 (Nat.le_trans Z0 ((Keep.refl h0 [])).1) (hdk hlt).1 (hdk hlt).2.1) hZ (hw _ (List.mem_of_getElem? (i := 235) rfl)) (hw _ (List.mem_of_getElem? (i := 200) rfl)) (by decide) (by decide)) (g := (mkF m 12 #[rv a, iv pv, iv pd, iv pk, .unset] [(.int ((pd - (1 : Int32)) - pk))])) rfl (by rw [hml]; rfl) (argsL := [(.int ((pd - (1 : Int32)) - pk))]) (rest := []) (lenOf pd_9 rfl) rfl (by show 2 * 0 + _ ≤ _; exact Nat.le_of_eq rfl) (hb hby z39_12) (fun _ _ => ⟨rfl, e0, (by decide : 0 + 1 ≤ _), (by decide : 0 + 10 ≤ _)⟩)
    dsimp only [Pt.U, Pt.locs, Pt.cells, Pt.slots] at X2 l2 y2 z2 st2 hQ2
    subst l2 y2 z2
    obtain ⟨rfl, N2q, Kc2⟩ := hQ2
    have K2 : Keep h0 T2.heap [] := (Keep.refl h0 []).trans Kc2 (all0)
    have N2 := Fr.app N0 N2q
    refine Go.pull (V := T2.setTop (mkF m 15 #[rv a, iv pv, iv pd, iv pk, .unset] [(.int (own_pow ((pd - (1 : Int32)) - pk)))])) st2 ?_
    refine Go.pull (V := T2.setTop (mkF m 21 #[rv a, iv pv, iv pd, iv pk, iv (own_pow ((pd - (1 : Int32)) - pk))] [(.int ((2 : Int32) + pk)), (.ref a)])) (fun t k => XS.istore X2.here hx rfl (hb hby z39_15) rfl (l' := #[rv a, iv pv, iv pd, iv pk, iv (own_pow ((pd - (1 : Int32)) - pk))]) rfl (XS.aloadN X2.here hx rfl (hb hby z39_17) rfl rfl (XS.iconst X2.here hx rfl (hb hby z39_18) (XS.iloadN X2.here hx rfl (hb hby z39_19) rfl  (XS.iadd X2.here hx rfl (hb hby z39_20) rfl k))))) ?_
    obtain ⟨cq3, kq3, q3a, q3b, q3c⟩ := isOf hZ rfl (Ea.keep Kc2)
    obtain ⟨_, _, ⟨T3, L3, k3, n3⟩, -, X3, ⟨Lc3, hQ3, l3, y3, z3⟩, st3⟩ := X2.virtualBack hx (y := (⟨"java/lang/String", "charAt", "(I)C"⟩ : MethodName)) (z := (⟨"java/lang/String", "charAt", "(I)C"⟩ : MethodName)) hown (mvT hZ (hw _ (List.mem_of_getElem? (i := 208) rfl))) (mvT hZ (hw _ (List.mem_of_getElem? (i := 209) rfl))) (notFace_of_selects (args := #[]) (mvT hZ (hw _ (List.mem_of_getElem? (i := 211) rfl)))) (mvT hZ (hw _ (List.mem_of_getElem? (i := 211) rfl))) (mvT hZ (hw _ (List.mem_of_getElem? (i := 210) rfl))) (by decide) (backOf (W := 0) (rmSh l Z a0 hw [] a ((2 : Int32) + pk) cs sa ka pn (us : List Value) pw sf T2.heap n0 (own_sta_keep Scs Kc2 all0) (Ea.keep Kc2) (Fca.keep Kc2 nin0) (Fva.keep Kc2 nin0) (Va.keep Kc2 nin0) (own_sta_keep Ssf Kc2 all0) hcs hsf (hdk hlt).2.2.1 (hdk hlt).2.2.2.1 (hdk hlt).2.2.2.2.1 (hdk hlt).2.2.2.2.2.1) hZ (hw _ (List.mem_of_getElem? (i := 212) rfl)) (hw _ (List.mem_of_getElem? (i := 50) rfl)) (by decide) (by decide)) q3a q3c (g := (mkF m 21 #[rv a, iv pv, iv pd, iv pk, iv (own_pow ((pd - (1 : Int32)) - pk))] [(.int ((2 : Int32) + pk)), (.ref a)])) rfl (by rw [hml]; rfl) (Steps.refl _) (argsL := [(.int ((2 : Int32) + pk))]) (rest := []) (lenOf pd_21 rfl) rfl (by show 2 * 0 + _ ≤ _; exact Nat.le_of_eq rfl) (hb hby z39_21) (fun _ _ => ⟨rfl, rfl, (by decide : 1 + 0 ≤ _), (by decide : 10 + 0 ≤ _)⟩)
    dsimp only [Pt.U, Pt.locs, Pt.cells, Pt.slots] at X3 l3 y3 z3 st3 hQ3
    subst l3 y3 z3
    obtain ⟨rfl, N3q, e3⟩ := hQ3
    have N3 := Fr.app N2 N3q
    refine Go.pull (V := T3.setTop (mkF m 24 #[rv a, iv pv, iv pd, iv pk, iv (own_pow ((pd - (1 : Int32)) - pk))] [(.int pw)])) (fun _ k => st3.trans k) ?_
    refine Go.pull (V := T3.setTop (mkF m 32 #[rv a, iv pv, iv pd, iv pk, iv (own_pow ((pd - (1 : Int32)) - pk))] [(.int 10), (.int (pv / (own_pow ((pd - (1 : Int32)) - pk)))), (.int 48), (.int pw)])) (fun t k => XS.bipush X3.here hx rfl (hb hby z39_24) (XS.iloadN X3.here hx rfl (hb hby z39_26) rfl  (XS.iload X3.here hx rfl (hb hby z39_27) rfl  (XS.idiv X3.here hx rfl (hb hby z39_29) rfl (own_pow_ne _) (XS.bipush X3.here hx rfl (hb hby z39_30) k))))) ?_
    refine Go.pull (V := T3.setTop (mkF m 39 #[rv a, iv pv, iv pd, iv pk, iv (own_pow ((pd - (1 : Int32)) - pk))] [(.int 1)])) (fun t k => iremM X3 hx rfl (hb hby z39_32) rfl (by decide) (XS.iadd X3.here hx rfl (hb hby z39_33) rfl (XS.i2c X3.here hx rfl (hb hby z39_34) rfl (XS.icmpNo X3.here hx rfl (hb hby z39_35) rfl (XT.ii_ne_f (hdk hlt).2.2.2.2.2.2) (XS.iconst X3.here hx rfl (hb hby z39_38) k))))) ?_
    refine Go.pull (V := T3.setTop (mkF m 43 #[rv a, iv pv, iv pd, iv pk, iv (own_pow ((pd - (1 : Int32)) - pk))] [(.int 1)])) (fun t k => XS.goto X3.here hx rfl (pc0 := 39) (pc' := 43) rfl (hb hby z39_39) (by decide) (by decide) k) ?_
    exact Go.retN X3 hx Bd.notSynchronized (t := .boolean) Bd.returns (by simp) (hb hby z39_43) (by rw [e3]; exact ⟨rfl, N3, K2⟩) (by decide) (by decide)
  · skip
    refine Go.pull (V := s₁.setTop (mkF m 6 #[rv a, iv pv, iv pd, iv pk, .unset] [(.int 1)])) (fun t k => XS.icmpNo X0.here hx rfl (hb hby z39_2) rfl (XT.ii_lt_f hc2_1) (XS.iconst X0.here hx rfl (hb hby z39_5) k)) ?_
    exact Go.retN X0 hx Bd.notSynchronized (t := .boolean) Bd.returns (by simp) (hb hby z39_6) (by rw [e0]; exact ⟨rfl, N0, (Keep.refl h0 [])⟩) (by decide) (by decide)
theorem own_strW : ∀ d ∈ Bundle.stringAtoms, d ∈ tables_1 := by
  intro d hd
  simp only [Bundle.stringAtoms, List.mem_cons, List.not_mem_nil, or_false] at hd
  rcases hd with rfl | rfl | rfl | rfl | rfl | rfl | rfl
  · exact List.mem_of_getElem? (i := 50) rfl
  · exact List.mem_of_getElem? (i := 51) rfl
  · exact List.mem_of_getElem? (i := 52) rfl
  · exact List.mem_of_getElem? (i := 53) rfl
  · exact List.mem_of_getElem? (i := 54) rfl
  · exact List.mem_of_getElem? (i := 55) rfl
  · exact List.mem_of_getElem? (i := 56) rfl
theorem own_ew {Z : State} {a0 : Array Value} (hw : ∀ d ∈ tables_1, d.before a0 Z = true) : EW Z a0 consts_1 :=
  EW.cons (hw _ (List.mem_of_getElem? (i := 49) rfl)) (by decide) (EW.cons (hw _ (List.mem_of_getElem? (i := 81) rfl)) (by decide) (EW.cons (hw _ (List.mem_of_getElem? (i := 154) rfl)) (by decide) (EW.nil)))
theorem own_rel_p0 {pv pd : Int32} {ls : List Value} (hrel : own_rel pv pd ls) : ¬ ((2 : Int32) + pd) < 0 := by
  obtain ⟨hv0, hrel⟩ := hrel
  rcases hrel with ⟨rfl, hlo, hhi, rfl⟩ | ⟨rfl, hlo, hhi, rfl⟩ | ⟨rfl, hlo, hhi, rfl⟩ | ⟨rfl, hlo, hhi, rfl⟩ | ⟨rfl, hlo, hhi, rfl⟩ | ⟨rfl, hlo, hhi, rfl⟩ | ⟨rfl, hlo, hhi, rfl⟩ | ⟨rfl, hlo, hhi, rfl⟩ | ⟨rfl, hlo, hhi, rfl⟩ | ⟨rfl, hlo, hhi, rfl⟩
  · exact by decide
  · exact by decide
  · exact by decide
  · exact by decide
  · exact by decide
  · exact by decide
  · exact by decide
  · exact by decide
  · exact by decide
  · exact by decide
theorem own_rel_p5 {pv pd : Int32} {ls : List Value} (hrel : own_rel pv pd ls) : ((2 : Int32) + pd).toNatClampNeg + (1 : Int32).toNatClampNeg ≤ 16 := by
  obtain ⟨hv0, hrel⟩ := hrel
  rcases hrel with ⟨rfl, hlo, hhi, rfl⟩ | ⟨rfl, hlo, hhi, rfl⟩ | ⟨rfl, hlo, hhi, rfl⟩ | ⟨rfl, hlo, hhi, rfl⟩ | ⟨rfl, hlo, hhi, rfl⟩ | ⟨rfl, hlo, hhi, rfl⟩ | ⟨rfl, hlo, hhi, rfl⟩ | ⟨rfl, hlo, hhi, rfl⟩ | ⟨rfl, hlo, hhi, rfl⟩ | ⟨rfl, hlo, hhi, rfl⟩
  · exact by decide
  · exact by decide
  · exact by decide
  · exact by decide
  · exact by decide
  · exact by decide
  · exact by decide
  · exact by decide
  · exact by decide
  · exact by decide
theorem own_rel_lv {pv pd : Int32} {ls : List Value} (hrel : own_rel pv pd ls) : ((2 : Int32) + pd).toNatClampNeg + (1 : Int32).toNatClampNeg ≤ (own_cp own_L2 ls 2 pd).length := by
  obtain ⟨hv0, hrel⟩ := hrel
  rcases hrel with ⟨rfl, hlo, hhi, rfl⟩ | ⟨rfl, hlo, hhi, rfl⟩ | ⟨rfl, hlo, hhi, rfl⟩ | ⟨rfl, hlo, hhi, rfl⟩ | ⟨rfl, hlo, hhi, rfl⟩ | ⟨rfl, hlo, hhi, rfl⟩ | ⟨rfl, hlo, hhi, rfl⟩ | ⟨rfl, hlo, hhi, rfl⟩ | ⟨rfl, hlo, hhi, rfl⟩ | ⟨rfl, hlo, hhi, rfl⟩
  · exact Nat.le_of_ble_eq_true rfl
  · exact Nat.le_of_ble_eq_true rfl
  · exact Nat.le_of_ble_eq_true rfl
  · exact Nat.le_of_ble_eq_true rfl
  · exact Nat.le_of_ble_eq_true rfl
  · exact Nat.le_of_ble_eq_true rfl
  · exact Nat.le_of_ble_eq_true rfl
  · exact Nat.le_of_ble_eq_true rfl
  · exact Nat.le_of_ble_eq_true rfl
  · exact Nat.le_of_ble_eq_true rfl
theorem own_rel_le {pv pd : Int32} {ls : List Value} (hrel : own_rel pv pd ls) : ¬ 0 < ((((2 : Int32) + pd) + (1 : Int32)) - (16 : Int32)) := by
  obtain ⟨hv0, hrel⟩ := hrel
  rcases hrel with ⟨rfl, hlo, hhi, rfl⟩ | ⟨rfl, hlo, hhi, rfl⟩ | ⟨rfl, hlo, hhi, rfl⟩ | ⟨rfl, hlo, hhi, rfl⟩ | ⟨rfl, hlo, hhi, rfl⟩ | ⟨rfl, hlo, hhi, rfl⟩ | ⟨rfl, hlo, hhi, rfl⟩ | ⟨rfl, hlo, hhi, rfl⟩ | ⟨rfl, hlo, hhi, rfl⟩ | ⟨rfl, hlo, hhi, rfl⟩
  · exact by decide
  · exact by decide
  · exact by decide
  · exact by decide
  · exact by decide
  · exact by decide
  · exact by decide
  · exact by decide
  · exact by decide
  · exact by decide
theorem own_rel_n0 {pv pd : Int32} {ls : List Value} (hrel : own_rel pv pd ls) : ¬ (((2 : Int32) + pd) + (1 : Int32)) < 0 := by
  obtain ⟨hv0, hrel⟩ := hrel
  rcases hrel with ⟨rfl, hlo, hhi, rfl⟩ | ⟨rfl, hlo, hhi, rfl⟩ | ⟨rfl, hlo, hhi, rfl⟩ | ⟨rfl, hlo, hhi, rfl⟩ | ⟨rfl, hlo, hhi, rfl⟩ | ⟨rfl, hlo, hhi, rfl⟩ | ⟨rfl, hlo, hhi, rfl⟩ | ⟨rfl, hlo, hhi, rfl⟩ | ⟨rfl, hlo, hhi, rfl⟩ | ⟨rfl, hlo, hhi, rfl⟩
  · exact by decide
  · exact by decide
  · exact by decide
  · exact by decide
  · exact by decide
  · exact by decide
  · exact by decide
  · exact by decide
  · exact by decide
  · exact by decide
theorem own_rel_n16 {pv pd : Int32} {ls : List Value} (hrel : own_rel pv pd ls) : (((2 : Int32) + pd) + (1 : Int32)) < 16 := by
  obtain ⟨hv0, hrel⟩ := hrel
  rcases hrel with ⟨rfl, hlo, hhi, rfl⟩ | ⟨rfl, hlo, hhi, rfl⟩ | ⟨rfl, hlo, hhi, rfl⟩ | ⟨rfl, hlo, hhi, rfl⟩ | ⟨rfl, hlo, hhi, rfl⟩ | ⟨rfl, hlo, hhi, rfl⟩ | ⟨rfl, hlo, hhi, rfl⟩ | ⟨rfl, hlo, hhi, rfl⟩ | ⟨rfl, hlo, hhi, rfl⟩ | ⟨rfl, hlo, hhi, rfl⟩
  · exact by decide
  · exact by decide
  · exact by decide
  · exact by decide
  · exact by decide
  · exact by decide
  · exact by decide
  · exact by decide
  · exact by decide
  · exact by decide
theorem z40_0 : decode prog_7_method_10_code 0 = .ok (.ldc 45, 2) := by decide +kernel
theorem z40_2 : decode prog_7_method_10_code 2 = .ok (.astore_n 1, 1) := by decide +kernel
theorem z40_3 : decode prog_7_method_10_code 3 = .ok (.aload_n 0, 1) := by decide +kernel
theorem z40_4 : decode prog_7_method_10_code 4 = .ok (.getfield 13, 3) := by decide +kernel
theorem z40_7 : decode prog_7_method_10_code 7 = .ok (.ifnull 29, 3) := by decide +kernel
theorem z40_36 : decode prog_7_method_10_code 36 = .ok (.aload_n 0, 1) := by decide +kernel
theorem z40_37 : decode prog_7_method_10_code 37 = .ok (.getfield 7, 3) := by decide +kernel
theorem z40_40 : decode prog_7_method_10_code 40 = .ok (.ifCond .lt 31, 3) := by decide +kernel
theorem z40_71 : decode prog_7_method_10_code 71 = .ok (.aload_n 0, 1) := by decide +kernel
theorem z40_72 : decode prog_7_method_10_code 72 = .ok (.getfield 20, 3) := by decide +kernel
theorem z40_75 : decode prog_7_method_10_code 75 = .ok (.ifnull 44, 3) := by decide +kernel
theorem z40_119 : decode prog_7_method_10_code 119 = .ok (.aload_n 1, 1) := by decide +kernel
theorem z40_120 : decode prog_7_method_10_code 120 = .ok (.areturn, 1) := by decide +kernel
theorem efT0 (m : MethodId) (x0 : Addr) : entryFrame m #[(.ref x0)] 2 = mkF m 0 #[rv x0, .unset] [] := by first | (simp [entryFrame, mkF, argsToLocals, Value.category]; done) | rfl
def QT0 (Z : State) (a : Addr) (cs : Int32) (pv : Int32) (h0 : Heap) (n0 : Nat) (v : Option Value) (h : Heap) (L : List Loc) : Prop := ∃ (ra : Jvm.Addr), ∃ (rb : Jvm.Addr), ∃ (kb : ClassId), v = some (.ref ra) ∧ Fr n0 L ∧ Keep h0 h [] ∧ Exa Z h ra "java/lang/String" ∧ Fld Z h ra "java/lang/String" "coder" "B" (.int 0) ∧ Fld Z h ra "java/lang/String" "value" "[B" (.ref rb) ∧ Arv Z h rb kb .byte (0 : Int32) [] (.int 0)
set_option maxRecDepth 65536 in
set_option maxHeartbeats 40000000 in
theorem rmT0 (l : Launch) (Z : State) (a0 : Array Value) (hw : ∀ d ∈ tables_1, d.before a0 Z = true) (ws : List Jvm.Cond) (a : Addr) (cs : Int32) (pv : Int32) (h0 : Heap) (n0 : Nat) (Z0 : n0 ≤ h0.size) (Scs : Sta Z h0 "java/lang/String" "COMPACT_STRINGS" "Z" (.int cs)) (Ea : Exa Z h0 a "com/example/salish/salish/SchemaFault$Place") (Fva : Fld Z h0 a "com/example/salish/salish/SchemaFault$Place" "value" "I" (.int pv)) (Fta : Fld Z h0 a "com/example/salish/salish/SchemaFault$Place" "type" "Ljava/lang/String;" .null) (Ffa : Fld Z h0 a "com/example/salish/salish/SchemaFault$Place" "field" "I" (.int (-1))) (Fna : Fld Z h0 a "com/example/salish/salish/SchemaFault$Place" "fieldName" "Ljava/lang/String;" .null) (hcs : ¬ cs = 0) (hneg : pv < 0) :
    MetFree l (⟨"com/example/salish/salish/SchemaFault$Place", "toString", "()Ljava/lang/String;"⟩ : MethodName) (head1 (Jvm.Cond.code (⟨"com/example/salish/salish/SchemaFault$Place", "toString", "()Ljava/lang/String;"⟩ : MethodName) prog_7_method_10_code 2 (some (.object "java/lang/String")) :: ws) ({ frames := 0, cells := 2, slots := 4, locals := 0 } : Room)) (fun as' U => as' = #[(.ref a)] ∧ Z.Warmed39 U.vm ∧ U.heap = h0 ∧ CHv Z consts_1 U.vm h0) (fun _ _ _ _ _ => True) (fun _ U o U' => ∃ v L, o = .returned v ∧ QT0 Z a cs pv h0 n0 v U'.heap L ∧ CHr Z consts_1 U.vm U.heap U'.vm U'.heap ∧ ReturnedEndW U o U' L ({ frames := 0, cells := 2, slots := 4, locals := 0 } : Room).cells ({ frames := 0, cells := 2, slots := 4, locals := 0 } : Room).slots) := by
  refine MetFree.of_bodySF (plainFor_of_name pn_com_example_salish_salish_SchemaFault_Place) hisR ?_
  intro p e s m args below meth c s₁ Bd hml0 hP hK
  obtain ⟨rfl, hZ, hh, hCH⟩ := hP
  have hx := Bd.exec
  have hby := Bd.bytes
  have hml : c.maxLocals = 2 := hml0
  have hown : s.vm.findClass "com/example/salish/salish/SchemaFault$Place" = some m.cls := findClass_of_methodNamed Bd.named
  have hnm := (name_of_methodNamed Bd.named Bd.method).1
  have X0 : Stand p l e ({ frames := 0, cells := 2, slots := 4, locals := 0 } : Room) s m #[(.ref a)] below meth c s₁ [] 0 0 := Stand.of_body Bd
  have e0 : s₁.heap = h0 := by rw [← hh, Bd.state]; rfl
  have N0 := Fr.nil n0
  show GoS Z consts_1 p e below s (fun v h L => QT0 Z a cs pv h0 n0 v h L) 2 4 _
  refine GoS.pull (V := s₁.setTop (mkF m 0 #[rv a, .unset] [])) (fun t k => castTop (efT0 m a) k) ?_
  have hEW : EW Z a0 consts_1 := own_ew hw
  have C0' : CHr Z consts_1 s.vm s.heap s.vm h0 := by rw [hh]; exact CHr.refl hCH
  obtain ⟨str1, T1, h1, kk1, lit1, kl1, X1, e1, E1, hS1, hk1, hZ, hown, Lx1, Lc1, Lv1, La1, -, -, CR1, -, -, st1⟩ := ldcCH (s := s) (vm0 := s.vm) X0 hx hZ hown (hw _ (List.mem_of_getElem? (i := 49) rfl)) (fun d hd => hw d (own_strW d hd)) e0 ((State.WarmedH.refl s).since 0) (Nat.zero_le _) hEW (List.mem_of_getElem? (i := 0) rfl) C0'.1 (vs := []) (z := 0) ⟨by decide, by decide⟩ (by decide) (by decide) (g := (mkF m 0 #[rv a, .unset] [])) rfl (hb hby z40_0) (n := 0) (by decide) (by decide) (by decide) (by decide)
  have C1 := C0'.trans CR1
  have K1 : Keep h0 h1 [] := (Keep.refl h0 []).ext E1
  refine GoS.pull (V := T1.setTop (mkF m 2 #[rv a, .unset] [(.ref str1)])) st1 ?_
  refine GoS.pull (V := T1.setTop (mkF m 4 #[rv a, rv str1] [(.ref a)])) (fun t k => XS.astoreN X1.here hx rfl (hb hby z40_2) rfl rfl (l' := #[rv a, rv str1]) rfl (XS.aloadN X1.here hx rfl (hb hby z40_3) rfl rfl k)) ?_
  obtain ⟨T2, X2, e2, st2⟩ := getF X1 hx hZ hown (host := "") (Or.inl (hw _ (List.mem_of_getElem? (i := 14) rfl))) Via.refl e1 (Fta.ext E1) (g := (mkF m 4 #[rv a, rv str1] [(.ref a)])) rfl rfl (hb hby z40_4)
  refine GoS.pull (V := T2.setTop (mkF m 7 #[rv a, rv str1] [.null])) st2 ?_
  refine GoS.pull (V := T2.setTop (mkF m 37 #[rv a, rv str1] [(.ref a)])) (fun t k => XS.ifnullYes X2.here hx rfl (pc0 := 7) (pc' := 36) rfl (hb hby z40_7) rfl (by decide) (by decide) (XS.aloadN X2.here hx rfl (hb hby z40_36) rfl rfl k)) ?_
  obtain ⟨T3, X3, e3, st3⟩ := getF X2 hx hZ hown (host := "") (Or.inl (hw _ (List.mem_of_getElem? (i := 12) rfl))) Via.refl e2 (Fva.ext E1) (g := (mkF m 37 #[rv a, rv str1] [(.ref a)])) rfl rfl (hb hby z40_37)
  refine GoS.pull (V := T3.setTop (mkF m 40 #[rv a, rv str1] [(.int pv)])) st3 ?_
  refine GoS.pull (V := T3.setTop (mkF m 72 #[rv a, rv str1] [(.ref a)])) (fun t k => XS.ifYes X3.here hx rfl (pc0 := 40) (pc' := 71) rfl (hb hby z40_40) rfl (XT.i0_lt_t hneg) (by decide) (by decide) (XS.aloadN X3.here hx rfl (hb hby z40_71) rfl rfl k)) ?_
  obtain ⟨T4, X4, e4, st4⟩ := getF X3 hx hZ hown (host := "") (Or.inl (hw _ (List.mem_of_getElem? (i := 18) rfl))) Via.refl e3 (Fna.ext E1) (g := (mkF m 72 #[rv a, rv str1] [(.ref a)])) rfl rfl (hb hby z40_72)
  refine GoS.pull (V := T4.setTop (mkF m 75 #[rv a, rv str1] [.null])) st4 ?_
  refine GoS.pull (V := T4.setTop (mkF m 120 #[rv a, rv str1] [(.ref str1)])) (fun t k => XS.ifnullYes X4.here hx rfl (pc0 := 75) (pc' := 119) rfl (hb hby z40_75) rfl (by decide) (by decide) (XS.aloadN X4.here hx rfl (hb hby z40_119) rfl rfl k)) ?_
  exact Go.booked hS1 hZ hEW (Go.retR X4 hx Bd.notSynchronized Bd.returns rfl rfl rfl (hb hby z40_120) (by rw [e4]; exact ⟨⟨str1, lit1, kl1, rfl, N0, K1, Lx1, Lc1, Lv1, La1⟩, hk1, C1⟩) (by decide) (by decide))
theorem z40_43 : decode prog_7_method_10_code 43 = .ok (.new 47, 3) := by decide +kernel
theorem z40_46 : decode prog_7_method_10_code 46 = .ok (.dup, 1) := by decide +kernel
theorem z40_47 : decode prog_7_method_10_code 47 = .ok (.invokespecial 49, 3) := by decide +kernel
theorem z40_50 : decode prog_7_method_10_code 50 = .ok (.ldc 60, 2) := by decide +kernel
theorem z40_52 : decode prog_7_method_10_code 52 = .ok (.invokevirtual 52, 3) := by decide +kernel
theorem z40_55 : decode prog_7_method_10_code 55 = .ok (.aload_n 0, 1) := by decide +kernel
theorem z40_56 : decode prog_7_method_10_code 56 = .ok (.getfield 7, 3) := by decide +kernel
theorem z40_59 : decode prog_7_method_10_code 59 = .ok (.invokevirtual 62, 3) := by decide +kernel
theorem z40_62 : decode prog_7_method_10_code 62 = .ok (.ldc 65, 2) := by decide +kernel
theorem z40_64 : decode prog_7_method_10_code 64 = .ok (.invokevirtual 52, 3) := by decide +kernel
theorem z40_67 : decode prog_7_method_10_code 67 = .ok (.invokevirtual 56, 3) := by decide +kernel
theorem z40_70 : decode prog_7_method_10_code 70 = .ok (.astore_n 1, 1) := by decide +kernel
theorem efT1 (m : MethodId) (x0 : Addr) : entryFrame m #[(.ref x0)] 2 = mkF m 0 #[rv x0, .unset] [] := by first | (simp [entryFrame, mkF, argsToLocals, Value.category]; done) | rfl
def QT1 (Z : State) (a : Addr) (cs : Int32) (pv : Int32) (r1 : Addr) (r2 : Addr) (kr1 : ClassId) (kr2 : ClassId) (pd : Int32) (ls : List Value) (h0 : Heap) (n0 : Nat) (v : Option Value) (h : Heap) (L : List Loc) : Prop := ∃ (ra : Jvm.Addr), ∃ (rb : Jvm.Addr), ∃ (kb : ClassId), v = some (.ref ra) ∧ Fr n0 L ∧ Keep h0 h [] ∧ Exa Z h ra "java/lang/String" ∧ Fld Z h ra "java/lang/String" "coder" "B" (.int 0) ∧ Fld Z h ra "java/lang/String" "value" "[B" (.ref rb) ∧ Arv Z h rb kb .byte (((2 : Int32) + pd) + (1 : Int32)) (own_cut (own_cp (own_cp own_L2 ls 2 pd) [.int 93] ((2 : Int32) + pd) 1) (((2 : Int32) + pd) + (1 : Int32))) (.int 0)
set_option maxRecDepth 65536 in
set_option maxHeartbeats 40000000 in
theorem rmT1 (l : Launch) (Z : State) (a0 : Array Value) (hw : ∀ d ∈ tables_1, d.before a0 Z = true) (ws : List Jvm.Cond) (a : Addr) (cs : Int32) (pv : Int32) (r1 : Addr) (r2 : Addr) (kr1 : ClassId) (kr2 : ClassId) (pd : Int32) (ls : List Value) (h0 : Heap) (n0 : Nat) (Z0 : n0 ≤ h0.size) (Scs : Sta Z h0 "java/lang/String" "COMPACT_STRINGS" "Z" (.int cs)) (Ea : Exa Z h0 a "com/example/salish/salish/SchemaFault$Place") (Fva : Fld Z h0 a "com/example/salish/salish/SchemaFault$Place" "value" "I" (.int pv)) (Fta : Fld Z h0 a "com/example/salish/salish/SchemaFault$Place" "type" "Ljava/lang/String;" .null) (Ffa : Fld Z h0 a "com/example/salish/salish/SchemaFault$Place" "field" "I" (.int (-1))) (Fna : Fld Z h0 a "com/example/salish/salish/SchemaFault$Place" "fieldName" "Ljava/lang/String;" .null) (Sr1 : Sta Z h0 "java/lang/Integer" "DigitOnes" "[B" (.ref r1)) (Sr2 : Sta Z h0 "java/lang/Integer" "DigitTens" "[B" (.ref r2)) (Vr1 : Arv Z h0 r1 kr1 .byte (100 : Int32) own_ones (.int 0)) (Vr2 : Arv Z h0 r2 kr2 .byte (100 : Int32) own_tens (.int 0)) (hcs : ¬ cs = 0) (hrel : own_rel pv pd ls) :
    MetFree l (⟨"com/example/salish/salish/SchemaFault$Place", "toString", "()Ljava/lang/String;"⟩ : MethodName) (head1 (Jvm.Cond.code (⟨"com/example/salish/salish/SchemaFault$Place", "toString", "()Ljava/lang/String;"⟩ : MethodName) prog_7_method_10_code 2 (some (.object "java/lang/String")) :: ws) ({ frames := 6, cells := 10, slots := 64, locals := 91 } : Room)) (fun as' U => as' = #[(.ref a)] ∧ Z.Warmed39 U.vm ∧ U.heap = h0 ∧ CHv Z consts_1 U.vm h0) (fun _ _ _ _ _ => True) (fun _ U o U' => ∃ v L, o = .returned v ∧ QT1 Z a cs pv r1 r2 kr1 kr2 pd ls h0 n0 v U'.heap L ∧ CHr Z consts_1 U.vm U.heap U'.vm U'.heap ∧ ReturnedEndW U o U' L ({ frames := 6, cells := 10, slots := 64, locals := 91 } : Room).cells ({ frames := 6, cells := 10, slots := 64, locals := 91 } : Room).slots) := by
  refine MetFree.of_bodySF (plainFor_of_name pn_com_example_salish_salish_SchemaFault_Place) hisR ?_
  intro p e s m args below meth c s₁ Bd hml0 hP hK
  obtain ⟨rfl, hZ, hh, hCH⟩ := hP
  have hx := Bd.exec
  have hby := Bd.bytes
  have hml : c.maxLocals = 2 := hml0
  have hown : s.vm.findClass "com/example/salish/salish/SchemaFault$Place" = some m.cls := findClass_of_methodNamed Bd.named
  have hnm := (name_of_methodNamed Bd.named Bd.method).1
  have X0 : Stand p l e ({ frames := 6, cells := 10, slots := 64, locals := 91 } : Room) s m #[(.ref a)] below meth c s₁ [] 0 0 := Stand.of_body Bd
  have e0 : s₁.heap = h0 := by rw [← hh, Bd.state]; rfl
  have N0 := Fr.nil n0
  show GoS Z consts_1 p e below s (fun v h L => QT1 Z a cs pv r1 r2 kr1 kr2 pd ls h0 n0 v h L) 10 64 _
  refine GoS.pull (V := s₁.setTop (mkF m 0 #[rv a, .unset] [])) (fun t k => castTop (efT1 m a) k) ?_
  have hEW : EW Z a0 consts_1 := own_ew hw
  have C0' : CHr Z consts_1 s.vm s.heap s.vm h0 := by rw [hh]; exact CHr.refl hCH
  obtain ⟨str1, T1, h1, kk1, lit1, kl1, X1, e1, E1, hS1, hk1, hZ, hown, Lx1, Lc1, Lv1, La1, -, -, CR1, -, -, st1⟩ := ldcCH (s := s) (vm0 := s.vm) X0 hx hZ hown (hw _ (List.mem_of_getElem? (i := 49) rfl)) (fun d hd => hw d (own_strW d hd)) e0 ((State.WarmedH.refl s).since 0) (Nat.zero_le _) hEW (List.mem_of_getElem? (i := 0) rfl) C0'.1 (vs := []) (z := 0) ⟨by decide, by decide⟩ (by decide) (by decide) (g := (mkF m 0 #[rv a, .unset] [])) rfl (hb hby z40_0) (n := 0) (by decide) (by decide) (by decide) (by decide)
  have C1 := C0'.trans CR1
  have K1 : Keep h0 h1 [] := (Keep.refl h0 []).ext E1
  refine GoS.pull (V := T1.setTop (mkF m 2 #[rv a, .unset] [(.ref str1)])) st1 ?_
  refine GoS.pull (V := T1.setTop (mkF m 4 #[rv a, rv str1] [(.ref a)])) (fun t k => XS.astoreN X1.here hx rfl (hb hby z40_2) rfl rfl (l' := #[rv a, rv str1]) rfl (XS.aloadN X1.here hx rfl (hb hby z40_3) rfl rfl k)) ?_
  obtain ⟨T2, X2, e2, st2⟩ := getF X1 hx hZ hown (host := "") (Or.inl (hw _ (List.mem_of_getElem? (i := 14) rfl))) Via.refl e1 (Fta.ext E1) (g := (mkF m 4 #[rv a, rv str1] [(.ref a)])) rfl rfl (hb hby z40_4)
  refine GoS.pull (V := T2.setTop (mkF m 7 #[rv a, rv str1] [.null])) st2 ?_
  refine GoS.pull (V := T2.setTop (mkF m 37 #[rv a, rv str1] [(.ref a)])) (fun t k => XS.ifnullYes X2.here hx rfl (pc0 := 7) (pc' := 36) rfl (hb hby z40_7) rfl (by decide) (by decide) (XS.aloadN X2.here hx rfl (hb hby z40_36) rfl rfl k)) ?_
  obtain ⟨T3, X3, e3, st3⟩ := getF X2 hx hZ hown (host := "") (Or.inl (hw _ (List.mem_of_getElem? (i := 12) rfl))) Via.refl e2 (Fva.ext E1) (g := (mkF m 37 #[rv a, rv str1] [(.ref a)])) rfl rfl (hb hby z40_37)
  refine GoS.pull (V := T3.setTop (mkF m 40 #[rv a, rv str1] [(.int pv)])) st3 ?_
  refine GoS.pull (V := T3.setTop (mkF m 43 #[rv a, rv str1] [])) (fun t k => XS.ifNo X3.here hx rfl (hb hby z40_40) rfl (XT.i0_lt_f hrel.1) k) ?_
  obtain ⟨T4, h4, X4, e4, E4, A4, D4, -, st4⟩ := newO X3 hx hZ hown (hw _ (List.mem_of_getElem? (i := 63) rfl)) (hw _ (List.mem_of_getElem? (i := 64) rfl)) (hw _ (List.mem_of_getElem? (i := 65) rfl)) e3 (g := (mkF m 43 #[rv a, rv str1] [])) rfl (hb hby z40_43) (by decide) (by decide)
  obtain ⟨b4, g4⟩ : ∃ z, z = h1.size := ⟨_, rfl⟩
  rw [← g4] at A4 D4 st4
  have ne_a_b4 : a ≠ b4 := Nat.ne_of_lt (Nat.lt_of_lt_of_le (Ea.ext E1).lt (Nat.le_of_eq g4.symm))
  have ne_r1_b4 : r1 ≠ b4 := Nat.ne_of_lt (Nat.lt_of_lt_of_le (Vr1.ext E1).lt (Nat.le_of_eq g4.symm))
  have ne_r2_b4 : r2 ≠ b4 := Nat.ne_of_lt (Nat.lt_of_lt_of_le (Vr2.ext E1).lt (Nat.le_of_eq g4.symm))
  have ne_str1_b4 : str1 ≠ b4 := Nat.ne_of_lt (Nat.lt_of_lt_of_le Lx1.lt (Nat.le_of_eq g4.symm))
  have ne_lit1_b4 : lit1 ≠ b4 := Nat.ne_of_lt (Nat.lt_of_lt_of_le La1.lt (Nat.le_of_eq g4.symm))
  have sz_b4 : h0.size ≤ b4 := Nat.le_trans (K1).1 (Nat.le_of_eq g4.symm)
  have g_b4 : n0 ≤ b4 := Nat.le_trans Z0 sz_b4
  have K4 : Keep h0 h4 [] := K1.ext E4
  have F5 : Fld Z h4 b4 "java/lang/AbstractStringBuilder" "value" "[B" .null := D4 (Or.inl (hw _ (List.mem_of_getElem? (i := 78) rfl))) (ty := (.array .byte)) (by decide)
  have F6 : Fld Z h4 b4 "java/lang/AbstractStringBuilder" "coder" "B" (.int 0) := D4 (Or.inl (hw _ (List.mem_of_getElem? (i := 80) rfl))) (ty := .byte) (by decide)
  have F7 : Fld Z h4 b4 "java/lang/AbstractStringBuilder" "count" "I" (.int 0) := D4 (Or.inl (hw _ (List.mem_of_getElem? (i := 105) rfl))) (ty := .int) (by decide)
  refine GoS.pull (V := T4.setTop (mkF m 46 #[rv a, rv str1] [(.ref b4)])) st4 ?_
  refine GoS.pull (V := T4.setTop (mkF m 47 #[rv a, rv str1] [(.ref b4), (.ref b4)])) (fun t k => XS.dup X4.here hx rfl (hb hby z40_46) rfl rfl k) ?_
  obtain ⟨_, _, ⟨T8, L8, k8, n8⟩, -, X8, ⟨Lc8, hQ8, l8, y8, z8⟩, st8⟩ := X4.specialBack hx (y := (⟨"java/lang/StringBuilder", "<init>", "()V"⟩ : MethodName)) rfl hown (mvT hZ (hw _ (List.mem_of_getElem? (i := 66) rfl))) (mvT hZ (hw _ (List.mem_of_getElem? (i := 67) rfl))) (mvT hZ (hw _ (List.mem_of_getElem? (i := 68) rfl))) (by decide) (backOf (W := 1) (rmBn l Z a0 hw [] b4 cs .null (.int 0) h4 n0 (Nat.le_trans Z0 (K4).1) (g_b4) ((Scs.ext E1).ext E4) A4 F5 F6 F7 hcs) hZ (hw _ (List.mem_of_getElem? (i := 68) rfl)) (hw _ (List.mem_of_getElem? (i := 65) rfl)) (by decide) (by decide)) (g := (mkF m 47 #[rv a, rv str1] [(.ref b4), (.ref b4)])) rfl (by rw [hml]; rfl) (Steps.refl _) (a := b4) (argsL := []) (rest := [(.ref b4)]) (lenOf pd_22 rfl) rfl (by show 2 * 0 + _ ≤ _; exact Nat.le_of_eq rfl) (hb hby z40_47) (fun _ _ => ⟨rfl, e4, (by decide : 3 + 1 ≤ _), (by decide : 8 + 16 ≤ _)⟩)
  dsimp only [Pt.U, Pt.locs, Pt.cells, Pt.slots] at X8 l8 y8 z8 st8 hQ8
  subst l8 y8 z8
  obtain ⟨ar_8, kA_8, rfl, N8q, Kc8, nex8_0, Fc8_0, Fc8_1, Fc8_2, Fc8_3, Fc8_4⟩ := hQ8
  have ne_a_ar_8 : a ≠ ar_8 := Nat.ne_of_lt (Nat.lt_of_lt_of_le ((Ea.ext E1).ext E4).lt nex8_0)
  have ne_r1_ar_8 : r1 ≠ ar_8 := Nat.ne_of_lt (Nat.lt_of_lt_of_le ((Vr1.ext E1).ext E4).lt nex8_0)
  have ne_r2_ar_8 : r2 ≠ ar_8 := Nat.ne_of_lt (Nat.lt_of_lt_of_le ((Vr2.ext E1).ext E4).lt nex8_0)
  have ne_str1_ar_8 : str1 ≠ ar_8 := Nat.ne_of_lt (Nat.lt_of_lt_of_le (Lx1.ext E4).lt nex8_0)
  have ne_lit1_ar_8 : lit1 ≠ ar_8 := Nat.ne_of_lt (Nat.lt_of_lt_of_le (La1.ext E4).lt nex8_0)
  have ne_b4_ar_8 : b4 ≠ ar_8 := Nat.ne_of_lt (Nat.lt_of_lt_of_le A4.lt nex8_0)
  have sz_ar_8 : h0.size ≤ ar_8 := Nat.le_trans (K4).1 nex8_0
  have g_ar_8 : n0 ≤ ar_8 := Nat.le_trans Z0 sz_ar_8
  have K8 : Keep h0 T8.heap [] := K4.trans Kc8 ((allS (Or.inr sz_b4) all0))
  have N8 := Fr.app N0 N8q
  refine GoS.pull (V := T8.setTop (mkF m 50 #[rv a, rv str1] [(.ref b4)])) (fun _ k => st8.trans k) ?_
  have C9 := C1.trans (CHr.ext E4 C1.1)
  have C10 := C9.trans (CHr.keep Kc8 (allS (Safe.exa hZ.alike A4 (by decide) (by decide)) all0) C9.1)
  have Sf10 := Safe.keep Kc8 (allS (Safe.exa hZ.alike A4 (by decide) (by decide)) all0) C9.1 (Safe.new nex8_0)
  obtain ⟨str11, T11, h11, kk11, lit11, kl11, X11, e11, E11, hS11, hk11, hZ, hown, Lx11, Lc11, Lv11, La11, -, -, CR11, -, -, st11⟩ := ldcCH (s := s) (vm0 := T1.vm) X8 hx hZ hown (hw _ (List.mem_of_getElem? (i := 81) rfl)) (fun d hd => hw d (own_strW d hd)) rfl hS1 (Nat.le_trans (Nat.le_trans hk1 E4.1) Kc8.1) hEW (List.mem_of_getElem? (i := 1) rfl) C10.1 (vs := [.int 36, .int 91]) (z := 2) ⟨by decide, by decide⟩ (by decide) (by decide) (g := (mkF m 50 #[rv a, rv str1] [(.ref b4)])) rfl (hb hby z40_50) (n := 8) (by decide) (by decide) (by decide) (by decide)
  have C11 := C10.trans CR11
  have Sf11 := CR11.safe Fc8_4.lt Sf10
  have K11 : Keep h0 h11 [] := K8.ext E11
  refine GoS.pull (V := T11.setTop (mkF m 52 #[rv a, rv str1] [(.ref str11), (.ref b4)])) st11 ?_
  obtain ⟨cq12, kq12, q12a, q12b, q12c⟩ := isOf hZ e11 ((A4.keep Kc8).ext E11)
  obtain ⟨_, _, ⟨T12, L12, k12, n12⟩, -, X12, ⟨Lc12, hQ12, l12, y12, z12⟩, st12⟩ := X11.virtualBack hx (y := (⟨"java/lang/StringBuilder", "append", "(Ljava/lang/String;)Ljava/lang/StringBuilder;"⟩ : MethodName)) (z := (⟨"java/lang/StringBuilder", "append", "(Ljava/lang/String;)Ljava/lang/StringBuilder;"⟩ : MethodName)) hown (mvT hZ (hw _ (List.mem_of_getElem? (i := 82) rfl))) (mvT hZ (hw _ (List.mem_of_getElem? (i := 83) rfl))) (notFace_of_selects (args := #[]) (mvT hZ (hw _ (List.mem_of_getElem? (i := 85) rfl)))) (mvT hZ (hw _ (List.mem_of_getElem? (i := 85) rfl))) (mvT hZ (hw _ (List.mem_of_getElem? (i := 84) rfl))) (by decide) (backOf (W := 0) (rmBa l Z a0 hw [] b4 str11 cs lit11 kl11 (2 : Int32) ([(.int 36), (.int 91)] : List Value) ar_8 kA_8 (0 : Int32) ([(.int 0), (.int 0), (.int 0), (.int 0), (.int 0), (.int 0), (.int 0), (.int 0), (.int 0), (.int 0), (.int 0), (.int 0), (.int 0), (.int 0), (.int 0), (.int 0)] : List Value) h11 n0 (Nat.le_trans Z0 (K11).1) (g_b4) (g_ar_8) ((own_sta_keep ((Scs.ext E1).ext E4) Kc8 ((allS A4.cell all0))).ext E11) Lx11 Lc11 Lv11 La11 ((A4.keep Kc8).ext E11) (Fc8_0.ext E11) (Fc8_1.ext E11) (Fc8_2.ext E11) (Fc8_3.ext E11) (Fc8_4.ext E11) hcs (by decide) (by decide) (by decide) rfl (Nat.le_of_ble_eq_true rfl) (by decide) ((ne_b4_ar_8))) hZ (hw _ (List.mem_of_getElem? (i := 86) rfl)) (hw _ (List.mem_of_getElem? (i := 65) rfl)) (by decide) (by decide)) q12a q12c (g := (mkF m 52 #[rv a, rv str1] [(.ref str11), (.ref b4)])) rfl (by rw [hml]; rfl) (Steps.refl _) (argsL := [(.ref str11)]) (rest := []) (lenOf pd_23 rfl) rfl (by show 2 * 0 + _ ≤ _; exact Nat.le_of_eq rfl) (hb hby z40_52) (fun _ _ => ⟨rfl, e11, (by decide : 6 + 0 ≤ _), (by decide : 36 + 0 ≤ _)⟩)
  dsimp only [Pt.U, Pt.locs, Pt.cells, Pt.slots] at X12 l12 y12 z12 st12 hQ12
  subst l12 y12 z12
  obtain ⟨rfl, N12q, Kc12, Fc12_0, Fc12_1, Fc12_2, Fc12_3⟩ := hQ12
  have K12 : Keep h0 T12.heap [] := K11.trans Kc12 ((allS (Or.inr sz_b4) (allS (Or.inr sz_ar_8) all0)))
  have N12 := Fr.app N8 N12q
  refine GoS.pull (V := T12.setTop (mkF m 55 #[rv a, rv str1] [(.ref b4)])) (fun _ k => st12.trans k) ?_
  have V13 : Arv Z T12.heap ar_8 kA_8 .byte (16 : Int32) own_L2 (.int 0) := Fc12_3
  have F14 : Fld Z T12.heap b4 "java/lang/AbstractStringBuilder" "count" "I" (.int 2) := Fc12_2
  refine GoS.pull (V := T12.setTop (mkF m 56 #[rv a, rv str1] [(.ref a), (.ref b4)])) (fun t k => XS.aloadN X12.here hx rfl (hb hby z40_55) rfl rfl k) ?_
  obtain ⟨T15, X15, e15, st15⟩ := getF X12 hx hZ hown (host := "") (Or.inl (hw _ (List.mem_of_getElem? (i := 12) rfl))) Via.refl rfl (((((Fva.ext E1).ext E4).keep Kc8 (ninS (ne_a_b4) nin0)).ext E11).keep Kc12 (ninS (ne_a_b4) (ninS (ne_a_ar_8) nin0))) (g := (mkF m 56 #[rv a, rv str1] [(.ref a), (.ref b4)])) rfl rfl (hb hby z40_56)
  refine GoS.pull (V := T15.setTop (mkF m 59 #[rv a, rv str1] [(.int pv), (.ref b4)])) st15 ?_
  obtain ⟨cq16, kq16, q16a, q16b, q16c⟩ := isOf hZ e15 (((A4.keep Kc8).ext E11).keep Kc12)
  obtain ⟨_, _, ⟨T16, L16, k16, n16⟩, -, X16, ⟨Lc16, hQ16, l16, y16, z16⟩, st16⟩ := X15.virtualBack hx (y := (⟨"java/lang/StringBuilder", "append", "(I)Ljava/lang/StringBuilder;"⟩ : MethodName)) (z := (⟨"java/lang/StringBuilder", "append", "(I)Ljava/lang/StringBuilder;"⟩ : MethodName)) hown (mvT hZ (hw _ (List.mem_of_getElem? (i := 131) rfl))) (mvT hZ (hw _ (List.mem_of_getElem? (i := 132) rfl))) (notFace_of_selects (args := #[]) (mvT hZ (hw _ (List.mem_of_getElem? (i := 134) rfl)))) (mvT hZ (hw _ (List.mem_of_getElem? (i := 134) rfl))) (mvT hZ (hw _ (List.mem_of_getElem? (i := 133) rfl))) (by decide) (backOf (W := 0) (rmBj l Z a0 hw [] b4 pv cs r1 r2 kr1 kr2 ar_8 kA_8 pd ls T12.heap n0 (Nat.le_trans Z0 (K12).1) (g_b4) (g_ar_8) (own_sta_keep ((own_sta_keep ((Scs.ext E1).ext E4) Kc8 ((allS A4.cell all0))).ext E11) Kc12 ((allS ((A4.keep Kc8).ext E11).cell (allS (Fc8_1.ext E11).cell all0)))) (own_sta_keep ((own_sta_keep ((Sr1.ext E1).ext E4) Kc8 ((allS A4.cell all0))).ext E11) Kc12 ((allS ((A4.keep Kc8).ext E11).cell (allS (Fc8_1.ext E11).cell all0)))) (own_sta_keep ((own_sta_keep ((Sr2.ext E1).ext E4) Kc8 ((allS A4.cell all0))).ext E11) Kc12 ((allS ((A4.keep Kc8).ext E11).cell (allS (Fc8_1.ext E11).cell all0)))) (((((Vr1.ext E1).ext E4).keep Kc8 (ninS (ne_r1_b4) nin0)).ext E11).keep Kc12 (ninS (ne_r1_b4) (ninS (ne_r1_ar_8) nin0))) (((((Vr2.ext E1).ext E4).keep Kc8 (ninS (ne_r2_b4) nin0)).ext E11).keep Kc12 (ninS (ne_r2_b4) (ninS (ne_r2_ar_8) nin0))) (((A4.keep Kc8).ext E11).keep Kc12) Fc12_0 ((Fc8_1.ext E11).keep Kc12) Fc12_1 F14 V13 hcs hrel ((ne_r1_ar_8)) ((ne_r2_ar_8)) ((ne_r1_b4)) ((ne_r2_b4)) ((ne_b4_ar_8))) hZ (hw _ (List.mem_of_getElem? (i := 135) rfl)) (hw _ (List.mem_of_getElem? (i := 65) rfl)) (by decide) (by decide)) q16a q16c (g := (mkF m 59 #[rv a, rv str1] [(.int pv), (.ref b4)])) rfl (by rw [hml]; rfl) (Steps.refl _) (argsL := [(.int pv)]) (rest := []) (lenOf pd_24 rfl) rfl (by show 2 * 0 + _ ≤ _; exact Nat.le_of_eq rfl) (hb hby z40_59) (fun _ _ => ⟨rfl, e15, (by decide : 6 + 0 ≤ _), (by decide : 36 + 0 ≤ _)⟩)
  dsimp only [Pt.U, Pt.locs, Pt.cells, Pt.slots] at X16 l16 y16 z16 st16 hQ16
  subst l16 y16 z16
  obtain ⟨rfl, N16q, Kc16, Fc16_0, Fc16_1, Fc16_2, Fc16_3⟩ := hQ16
  have K16 : Keep h0 T16.heap [] := K12.trans Kc16 ((allS (Or.inr sz_b4) (allS (Or.inr sz_ar_8) all0)))
  have N16 := Fr.app N12 N16q
  refine GoS.pull (V := T16.setTop (mkF m 62 #[rv a, rv str1] [(.ref b4)])) (fun _ k => st16.trans k) ?_
  have C17 := C11.trans (CHr.keep Kc12 (allS (Safe.exa hZ.alike ((A4.keep Kc8).ext E11) (by decide) (by decide)) (allS Sf11 all0)) C11.1)
  have Sf17 := Safe.keep Kc12 (allS (Safe.exa hZ.alike ((A4.keep Kc8).ext E11) (by decide) (by decide)) (allS Sf11 all0)) C11.1 Sf11
  have C18 := C17.trans (CHr.keep Kc16 (allS (Safe.exa hZ.alike (((A4.keep Kc8).ext E11).keep Kc12) (by decide) (by decide)) (allS Sf17 all0)) C17.1)
  have Sf18 := Safe.keep Kc16 (allS (Safe.exa hZ.alike (((A4.keep Kc8).ext E11).keep Kc12) (by decide) (by decide)) (allS Sf17 all0)) C17.1 Sf17
  obtain ⟨str19, T19, h19, kk19, lit19, kl19, X19, e19, E19, hS19, hk19, hZ, hown, Lx19, Lc19, Lv19, La19, -, -, CR19, -, -, st19⟩ := ldcCH (s := s) (vm0 := T11.vm) X16 hx hZ hown (hw _ (List.mem_of_getElem? (i := 154) rfl)) (fun d hd => hw d (own_strW d hd)) rfl hS11 (Nat.le_trans (Nat.le_trans hk11 Kc12.1) Kc16.1) hEW (List.mem_of_getElem? (i := 2) rfl) C18.1 (vs := [.int 93]) (z := 1) ⟨by decide, by decide⟩ (by decide) (by decide) (g := (mkF m 62 #[rv a, rv str1] [(.ref b4)])) rfl (hb hby z40_62) (n := 4) (by decide) (by decide) (by decide) (by decide)
  have C19 := C18.trans CR19
  have Sf19 := CR19.safe Fc16_3.lt Sf18
  have K19 : Keep h0 h19 [] := K16.ext E19
  refine GoS.pull (V := T19.setTop (mkF m 64 #[rv a, rv str1] [(.ref str19), (.ref b4)])) st19 ?_
  obtain ⟨cq20, kq20, q20a, q20b, q20c⟩ := isOf hZ e19 (((((A4.keep Kc8).ext E11).keep Kc12).keep Kc16).ext E19)
  obtain ⟨_, _, ⟨T20, L20, k20, n20⟩, -, X20, ⟨Lc20, hQ20, l20, y20, z20⟩, st20⟩ := X19.virtualBack hx (y := (⟨"java/lang/StringBuilder", "append", "(Ljava/lang/String;)Ljava/lang/StringBuilder;"⟩ : MethodName)) (z := (⟨"java/lang/StringBuilder", "append", "(Ljava/lang/String;)Ljava/lang/StringBuilder;"⟩ : MethodName)) hown (mvT hZ (hw _ (List.mem_of_getElem? (i := 82) rfl))) (mvT hZ (hw _ (List.mem_of_getElem? (i := 83) rfl))) (notFace_of_selects (args := #[]) (mvT hZ (hw _ (List.mem_of_getElem? (i := 85) rfl)))) (mvT hZ (hw _ (List.mem_of_getElem? (i := 85) rfl))) (mvT hZ (hw _ (List.mem_of_getElem? (i := 84) rfl))) (by decide) (backOf (W := 0) (rmBa l Z a0 hw [] b4 str19 cs lit19 kl19 (1 : Int32) ([(.int 93)] : List Value) ar_8 kA_8 ((2 : Int32) + pd) ((own_cp own_L2 ls 2 pd) : List Value) h19 n0 (Nat.le_trans Z0 (K19).1) (g_b4) (g_ar_8) ((own_sta_keep (own_sta_keep ((own_sta_keep ((Scs.ext E1).ext E4) Kc8 ((allS A4.cell all0))).ext E11) Kc12 ((allS ((A4.keep Kc8).ext E11).cell (allS (Fc8_1.ext E11).cell all0)))) Kc16 ((allS (((A4.keep Kc8).ext E11).keep Kc12).cell (allS ((Fc8_1.ext E11).keep Kc12).cell all0)))).ext E19) Lx19 Lc19 Lv19 La19 (((((A4.keep Kc8).ext E11).keep Kc12).keep Kc16).ext E19) (Fc16_0.ext E19) ((((Fc8_1.ext E11).keep Kc12).keep Kc16).ext E19) (Fc16_1.ext E19) (Fc16_2.ext E19) (Fc16_3.ext E19) hcs (own_rel_p0 hrel) (by decide) (own_rel_p5 hrel) rfl (own_rel_lv hrel) (own_rel_le hrel) ((ne_b4_ar_8))) hZ (hw _ (List.mem_of_getElem? (i := 86) rfl)) (hw _ (List.mem_of_getElem? (i := 65) rfl)) (by decide) (by decide)) q20a q20c (g := (mkF m 64 #[rv a, rv str1] [(.ref str19), (.ref b4)])) rfl (by rw [hml]; rfl) (Steps.refl _) (argsL := [(.ref str19)]) (rest := []) (lenOf pd_23 rfl) rfl (by show 2 * 0 + _ ≤ _; exact Nat.le_of_eq rfl) (hb hby z40_64) (fun _ _ => ⟨rfl, e19, (by decide : 8 + 0 ≤ _), (by decide : 44 + 0 ≤ _)⟩)
  dsimp only [Pt.U, Pt.locs, Pt.cells, Pt.slots] at X20 l20 y20 z20 st20 hQ20
  subst l20 y20 z20
  obtain ⟨rfl, N20q, Kc20, Fc20_0, Fc20_1, Fc20_2, Fc20_3⟩ := hQ20
  have K20 : Keep h0 T20.heap [] := K19.trans Kc20 ((allS (Or.inr sz_b4) (allS (Or.inr sz_ar_8) all0)))
  have N20 := Fr.app N16 N20q
  refine GoS.pull (V := T20.setTop (mkF m 67 #[rv a, rv str1] [(.ref b4)])) (fun _ k => st20.trans k) ?_
  obtain ⟨cq21, kq21, q21a, q21b, q21c⟩ := isOf hZ rfl ((((((A4.keep Kc8).ext E11).keep Kc12).keep Kc16).ext E19).keep Kc20)
  obtain ⟨_, _, ⟨T21, L21, k21, n21⟩, -, X21, ⟨Lc21, hQ21, l21, y21, z21⟩, st21⟩ := X20.virtualBack hx (y := (⟨"java/lang/StringBuilder", "toString", "()Ljava/lang/String;"⟩ : MethodName)) (z := (⟨"java/lang/StringBuilder", "toString", "()Ljava/lang/String;"⟩ : MethodName)) hown (mvT hZ (hw _ (List.mem_of_getElem? (i := 155) rfl))) (mvT hZ (hw _ (List.mem_of_getElem? (i := 156) rfl))) (notFace_of_selects (args := #[]) (mvT hZ (hw _ (List.mem_of_getElem? (i := 158) rfl)))) (mvT hZ (hw _ (List.mem_of_getElem? (i := 158) rfl))) (mvT hZ (hw _ (List.mem_of_getElem? (i := 157) rfl))) (by decide) (backOf (W := 0) (rmBt l Z a0 hw [] b4 cs ar_8 kA_8 (((2 : Int32) + pd) + (1 : Int32)) ((own_cp ((own_cp own_L2 ls 2 pd) : List Value) ([(.int 93)] : List Value) ((2 : Int32) + pd) (1 : Int32)) : List Value) T20.heap n0 (Nat.le_trans Z0 (K20).1) (own_sta_keep ((own_sta_keep (own_sta_keep ((own_sta_keep ((Scs.ext E1).ext E4) Kc8 ((allS A4.cell all0))).ext E11) Kc12 ((allS ((A4.keep Kc8).ext E11).cell (allS (Fc8_1.ext E11).cell all0)))) Kc16 ((allS (((A4.keep Kc8).ext E11).keep Kc12).cell (allS ((Fc8_1.ext E11).keep Kc12).cell all0)))).ext E19) Kc20 ((allS (((((A4.keep Kc8).ext E11).keep Kc12).keep Kc16).ext E19).cell (allS ((((Fc8_1.ext E11).keep Kc12).keep Kc16).ext E19).cell all0)))) ((((((A4.keep Kc8).ext E11).keep Kc12).keep Kc16).ext E19).keep Kc20) Fc20_0 (((((Fc8_1.ext E11).keep Kc12).keep Kc16).ext E19).keep Kc20) Fc20_1 Fc20_2 Fc20_3 hcs (own_rel_n0 hrel) (own_rel_n16 hrel)) hZ (hw _ (List.mem_of_getElem? (i := 159) rfl)) (hw _ (List.mem_of_getElem? (i := 65) rfl)) (by decide) (by decide)) q21a q21c (g := (mkF m 67 #[rv a, rv str1] [(.ref b4)])) rfl (by rw [hml]; rfl) (Steps.refl _) (argsL := []) (rest := []) (lenOf pd_25 rfl) rfl (by show 2 * 0 + _ ≤ _; exact Nat.le_of_eq rfl) (hb hby z40_67) (fun _ _ => ⟨rfl, rfl, (by decide : 8 + 2 ≤ _), (by decide : 44 + 20 ≤ _)⟩)
  dsimp only [Pt.U, Pt.locs, Pt.cells, Pt.slots] at X21 l21 y21 z21 st21 hQ21
  subst l21 y21 z21
  obtain ⟨po_21, sa_21, ks_21, rfl, N21q, Kc21, nex21_0, nex21_1, Fc21_0, Fc21_1, Fc21_2, Fc21_3, Fc21_4⟩ := hQ21
  have ne_a_po_21 : a ≠ po_21 := Nat.ne_of_lt (Nat.lt_of_lt_of_le ((((((((Ea.ext E1).ext E4).keep Kc8).ext E11).keep Kc12).keep Kc16).ext E19).keep Kc20).lt nex21_0)
  have ne_r1_po_21 : r1 ≠ po_21 := Nat.ne_of_lt (Nat.lt_of_lt_of_le ((((((((Vr1.ext E1).ext E4).keep Kc8 (ninS (ne_r1_b4) nin0)).ext E11).keep Kc12 (ninS (ne_r1_b4) (ninS (ne_r1_ar_8) nin0))).keep Kc16 (ninS (ne_r1_b4) (ninS (ne_r1_ar_8) nin0))).ext E19).keep Kc20 (ninS (ne_r1_b4) (ninS (ne_r1_ar_8) nin0))).lt nex21_0)
  have ne_r2_po_21 : r2 ≠ po_21 := Nat.ne_of_lt (Nat.lt_of_lt_of_le ((((((((Vr2.ext E1).ext E4).keep Kc8 (ninS (ne_r2_b4) nin0)).ext E11).keep Kc12 (ninS (ne_r2_b4) (ninS (ne_r2_ar_8) nin0))).keep Kc16 (ninS (ne_r2_b4) (ninS (ne_r2_ar_8) nin0))).ext E19).keep Kc20 (ninS (ne_r2_b4) (ninS (ne_r2_ar_8) nin0))).lt nex21_0)
  have ne_str1_po_21 : str1 ≠ po_21 := Nat.ne_of_lt (Nat.lt_of_lt_of_le (((((((Lx1.ext E4).keep Kc8).ext E11).keep Kc12).keep Kc16).ext E19).keep Kc20).lt nex21_0)
  have ne_b4_po_21 : b4 ≠ po_21 := Nat.ne_of_lt (Nat.lt_of_lt_of_le ((((((A4.keep Kc8).ext E11).keep Kc12).keep Kc16).ext E19).keep Kc20).lt nex21_0)
  have ne_ar_8_po_21 : ar_8 ≠ po_21 := Nat.ne_of_lt (Nat.lt_of_lt_of_le (((((Fc8_1.ext E11).keep Kc12).keep Kc16).ext E19).keep Kc20).lt nex21_0)
  have ne_str11_po_21 : str11 ≠ po_21 := Nat.ne_of_lt (Nat.lt_of_lt_of_le ((((Lx11.keep Kc12).keep Kc16).ext E19).keep Kc20).lt nex21_0)
  have ne_str19_po_21 : str19 ≠ po_21 := Nat.ne_of_lt (Nat.lt_of_lt_of_le (Lx19.keep Kc20).lt nex21_0)
  have sz_po_21 : h0.size ≤ po_21 := Nat.le_trans (K20).1 nex21_0
  have g_po_21 : n0 ≤ po_21 := Nat.le_trans Z0 sz_po_21
  have ne_a_sa_21 : a ≠ sa_21 := Nat.ne_of_lt (Nat.lt_of_lt_of_le ((((((((Ea.ext E1).ext E4).keep Kc8).ext E11).keep Kc12).keep Kc16).ext E19).keep Kc20).lt nex21_1)
  have ne_r1_sa_21 : r1 ≠ sa_21 := Nat.ne_of_lt (Nat.lt_of_lt_of_le ((((((((Vr1.ext E1).ext E4).keep Kc8 (ninS (ne_r1_b4) nin0)).ext E11).keep Kc12 (ninS (ne_r1_b4) (ninS (ne_r1_ar_8) nin0))).keep Kc16 (ninS (ne_r1_b4) (ninS (ne_r1_ar_8) nin0))).ext E19).keep Kc20 (ninS (ne_r1_b4) (ninS (ne_r1_ar_8) nin0))).lt nex21_1)
  have ne_r2_sa_21 : r2 ≠ sa_21 := Nat.ne_of_lt (Nat.lt_of_lt_of_le ((((((((Vr2.ext E1).ext E4).keep Kc8 (ninS (ne_r2_b4) nin0)).ext E11).keep Kc12 (ninS (ne_r2_b4) (ninS (ne_r2_ar_8) nin0))).keep Kc16 (ninS (ne_r2_b4) (ninS (ne_r2_ar_8) nin0))).ext E19).keep Kc20 (ninS (ne_r2_b4) (ninS (ne_r2_ar_8) nin0))).lt nex21_1)
  have ne_str1_sa_21 : str1 ≠ sa_21 := Nat.ne_of_lt (Nat.lt_of_lt_of_le (((((((Lx1.ext E4).keep Kc8).ext E11).keep Kc12).keep Kc16).ext E19).keep Kc20).lt nex21_1)
  have ne_b4_sa_21 : b4 ≠ sa_21 := Nat.ne_of_lt (Nat.lt_of_lt_of_le ((((((A4.keep Kc8).ext E11).keep Kc12).keep Kc16).ext E19).keep Kc20).lt nex21_1)
  have ne_ar_8_sa_21 : ar_8 ≠ sa_21 := Nat.ne_of_lt (Nat.lt_of_lt_of_le (((((Fc8_1.ext E11).keep Kc12).keep Kc16).ext E19).keep Kc20).lt nex21_1)
  have ne_str11_sa_21 : str11 ≠ sa_21 := Nat.ne_of_lt (Nat.lt_of_lt_of_le ((((Lx11.keep Kc12).keep Kc16).ext E19).keep Kc20).lt nex21_1)
  have ne_str19_sa_21 : str19 ≠ sa_21 := Nat.ne_of_lt (Nat.lt_of_lt_of_le (Lx19.keep Kc20).lt nex21_1)
  have sz_sa_21 : h0.size ≤ sa_21 := Nat.le_trans (K20).1 nex21_1
  have g_sa_21 : n0 ≤ sa_21 := Nat.le_trans Z0 sz_sa_21
  have K21 : Keep h0 T21.heap [] := K20.trans Kc21 (all0)
  have N21 := Fr.app N20 N21q
  refine GoS.pull (V := T21.setTop (mkF m 70 #[rv a, rv str1] [(.ref po_21)])) (fun _ k => st21.trans k) ?_
  refine GoS.pull (V := T21.setTop (mkF m 72 #[rv a, rv po_21] [(.ref a)])) (fun t k => XS.astoreN X21.here hx rfl (hb hby z40_70) rfl rfl (l' := #[rv a, rv po_21]) rfl (XS.aloadN X21.here hx rfl (hb hby z40_71) rfl rfl k)) ?_
  obtain ⟨T22, X22, e22, st22⟩ := getF X21 hx hZ hown (host := "") (Or.inl (hw _ (List.mem_of_getElem? (i := 18) rfl))) Via.refl rfl (((((((((Fna.ext E1).ext E4).keep Kc8 (ninS (ne_a_b4) nin0)).ext E11).keep Kc12 (ninS (ne_a_b4) (ninS (ne_a_ar_8) nin0))).keep Kc16 (ninS (ne_a_b4) (ninS (ne_a_ar_8) nin0))).ext E19).keep Kc20 (ninS (ne_a_b4) (ninS (ne_a_ar_8) nin0))).keep Kc21 nin0) (g := (mkF m 72 #[rv a, rv po_21] [(.ref a)])) rfl rfl (hb hby z40_72)
  refine GoS.pull (V := T22.setTop (mkF m 75 #[rv a, rv po_21] [.null])) st22 ?_
  refine GoS.pull (V := T22.setTop (mkF m 120 #[rv a, rv po_21] [(.ref po_21)])) (fun t k => XS.ifnullYes X22.here hx rfl (pc0 := 75) (pc' := 119) rfl (hb hby z40_75) rfl (by decide) (by decide) (XS.aloadN X22.here hx rfl (hb hby z40_119) rfl rfl k)) ?_
  have C23 := C19.trans (CHr.keep Kc20 (allS (Safe.exa hZ.alike (((((A4.keep Kc8).ext E11).keep Kc12).keep Kc16).ext E19) (by decide) (by decide)) (allS Sf19 all0)) C19.1)
  have Sf23 := Safe.keep Kc20 (allS (Safe.exa hZ.alike (((((A4.keep Kc8).ext E11).keep Kc12).keep Kc16).ext E19) (by decide) (by decide)) (allS Sf19 all0)) C19.1 Sf19
  have C24 := C23.trans (CHr.keep Kc21 all0 C23.1)
  have Sf24 := Safe.keep Kc21 all0 C23.1 Sf23
  exact Go.booked hS19 hZ hEW (Go.retR X22 hx Bd.notSynchronized Bd.returns rfl rfl rfl (hb hby z40_120) (by rw [e22]; exact ⟨⟨po_21, sa_21, ks_21, rfl, N21, K21, Fc21_0, Fc21_1, Fc21_2, Fc21_4⟩, (Nat.le_trans (Nat.le_trans hk19 Kc20.1) Kc21.1), C24⟩) (by decide) (by decide))
theorem own_rel_len {pv pd : Int32} {ls : List Value} (hrel : own_rel pv pd ls) : (((2 : Int32) + pd) + (1 : Int32)) = (pd + (3 : Int32)) := by
  obtain ⟨hv0, hrel⟩ := hrel
  rcases hrel with ⟨rfl, hlo, hhi, rfl⟩ | ⟨rfl, hlo, hhi, rfl⟩ | ⟨rfl, hlo, hhi, rfl⟩ | ⟨rfl, hlo, hhi, rfl⟩ | ⟨rfl, hlo, hhi, rfl⟩ | ⟨rfl, hlo, hhi, rfl⟩ | ⟨rfl, hlo, hhi, rfl⟩ | ⟨rfl, hlo, hhi, rfl⟩ | ⟨rfl, hlo, hhi, rfl⟩ | ⟨rfl, hlo, hhi, rfl⟩
  · exact by decide
  · exact by decide
  · exact by decide
  · exact by decide
  · exact by decide
  · exact by decide
  · exact by decide
  · exact by decide
  · exact by decide
  · exact by decide
theorem own_rel_j2 {pv pd : Int32} {ls : List Value} (hrel : own_rel pv pd ls) : ¬ (pd + (2 : Int32)) < 0 := by
  obtain ⟨hv0, hrel⟩ := hrel
  rcases hrel with ⟨rfl, hlo, hhi, rfl⟩ | ⟨rfl, hlo, hhi, rfl⟩ | ⟨rfl, hlo, hhi, rfl⟩ | ⟨rfl, hlo, hhi, rfl⟩ | ⟨rfl, hlo, hhi, rfl⟩ | ⟨rfl, hlo, hhi, rfl⟩ | ⟨rfl, hlo, hhi, rfl⟩ | ⟨rfl, hlo, hhi, rfl⟩ | ⟨rfl, hlo, hhi, rfl⟩ | ⟨rfl, hlo, hhi, rfl⟩
  · exact by decide
  · exact by decide
  · exact by decide
  · exact by decide
  · exact by decide
  · exact by decide
  · exact by decide
  · exact by decide
  · exact by decide
  · exact by decide
theorem own_rel_c0 {pv pd : Int32} {ls : List Value} (hrel : own_rel pv pd ls) : (0 : Int32) < (((2 : Int32) + pd) + (1 : Int32)) := by
  obtain ⟨hv0, hrel⟩ := hrel
  rcases hrel with ⟨rfl, hlo, hhi, rfl⟩ | ⟨rfl, hlo, hhi, rfl⟩ | ⟨rfl, hlo, hhi, rfl⟩ | ⟨rfl, hlo, hhi, rfl⟩ | ⟨rfl, hlo, hhi, rfl⟩ | ⟨rfl, hlo, hhi, rfl⟩ | ⟨rfl, hlo, hhi, rfl⟩ | ⟨rfl, hlo, hhi, rfl⟩ | ⟨rfl, hlo, hhi, rfl⟩ | ⟨rfl, hlo, hhi, rfl⟩
  · exact by decide
  · exact by decide
  · exact by decide
  · exact by decide
  · exact by decide
  · exact by decide
  · exact by decide
  · exact by decide
  · exact by decide
  · exact by decide
theorem own_rel_g0 {pv pd : Int32} {ls : List Value} (hrel : own_rel pv pd ls) : (own_cut (own_cp (own_cp own_L2 ls 2 pd) [.int 93] ((2 : Int32) + pd) 1) (((2 : Int32) + pd) + (1 : Int32))).getD (0 : Int32).toNatClampNeg (.int 0) = .int (36 : Int32) := by
  obtain ⟨hv0, hrel⟩ := hrel
  rcases hrel with ⟨rfl, hlo, hhi, rfl⟩ | ⟨rfl, hlo, hhi, rfl⟩ | ⟨rfl, hlo, hhi, rfl⟩ | ⟨rfl, hlo, hhi, rfl⟩ | ⟨rfl, hlo, hhi, rfl⟩ | ⟨rfl, hlo, hhi, rfl⟩ | ⟨rfl, hlo, hhi, rfl⟩ | ⟨rfl, hlo, hhi, rfl⟩ | ⟨rfl, hlo, hhi, rfl⟩ | ⟨rfl, hlo, hhi, rfl⟩
  · exact rfl
  · exact rfl
  · exact rfl
  · exact rfl
  · exact rfl
  · exact rfl
  · exact rfl
  · exact rfl
  · exact rfl
  · exact rfl
theorem own_rel_c1 {pv pd : Int32} {ls : List Value} (hrel : own_rel pv pd ls) : (1 : Int32) < (((2 : Int32) + pd) + (1 : Int32)) := by
  obtain ⟨hv0, hrel⟩ := hrel
  rcases hrel with ⟨rfl, hlo, hhi, rfl⟩ | ⟨rfl, hlo, hhi, rfl⟩ | ⟨rfl, hlo, hhi, rfl⟩ | ⟨rfl, hlo, hhi, rfl⟩ | ⟨rfl, hlo, hhi, rfl⟩ | ⟨rfl, hlo, hhi, rfl⟩ | ⟨rfl, hlo, hhi, rfl⟩ | ⟨rfl, hlo, hhi, rfl⟩ | ⟨rfl, hlo, hhi, rfl⟩ | ⟨rfl, hlo, hhi, rfl⟩
  · exact by decide
  · exact by decide
  · exact by decide
  · exact by decide
  · exact by decide
  · exact by decide
  · exact by decide
  · exact by decide
  · exact by decide
  · exact by decide
theorem own_rel_g1 {pv pd : Int32} {ls : List Value} (hrel : own_rel pv pd ls) : (own_cut (own_cp (own_cp own_L2 ls 2 pd) [.int 93] ((2 : Int32) + pd) 1) (((2 : Int32) + pd) + (1 : Int32))).getD (1 : Int32).toNatClampNeg (.int 0) = .int (91 : Int32) := by
  obtain ⟨hv0, hrel⟩ := hrel
  rcases hrel with ⟨rfl, hlo, hhi, rfl⟩ | ⟨rfl, hlo, hhi, rfl⟩ | ⟨rfl, hlo, hhi, rfl⟩ | ⟨rfl, hlo, hhi, rfl⟩ | ⟨rfl, hlo, hhi, rfl⟩ | ⟨rfl, hlo, hhi, rfl⟩ | ⟨rfl, hlo, hhi, rfl⟩ | ⟨rfl, hlo, hhi, rfl⟩ | ⟨rfl, hlo, hhi, rfl⟩ | ⟨rfl, hlo, hhi, rfl⟩
  · exact rfl
  · exact rfl
  · exact rfl
  · exact rfl
  · exact rfl
  · exact rfl
  · exact rfl
  · exact rfl
  · exact rfl
  · exact rfl
theorem own_rel_c2 {pv pd : Int32} {ls : List Value} (hrel : own_rel pv pd ls) : (pd + (2 : Int32)) < (((2 : Int32) + pd) + (1 : Int32)) := by
  obtain ⟨hv0, hrel⟩ := hrel
  rcases hrel with ⟨rfl, hlo, hhi, rfl⟩ | ⟨rfl, hlo, hhi, rfl⟩ | ⟨rfl, hlo, hhi, rfl⟩ | ⟨rfl, hlo, hhi, rfl⟩ | ⟨rfl, hlo, hhi, rfl⟩ | ⟨rfl, hlo, hhi, rfl⟩ | ⟨rfl, hlo, hhi, rfl⟩ | ⟨rfl, hlo, hhi, rfl⟩ | ⟨rfl, hlo, hhi, rfl⟩ | ⟨rfl, hlo, hhi, rfl⟩
  · exact by decide
  · exact by decide
  · exact by decide
  · exact by decide
  · exact by decide
  · exact by decide
  · exact by decide
  · exact by decide
  · exact by decide
  · exact by decide
theorem own_rel_g2 {pv pd : Int32} {ls : List Value} (hrel : own_rel pv pd ls) : (own_cut (own_cp (own_cp own_L2 ls 2 pd) [.int 93] ((2 : Int32) + pd) 1) (((2 : Int32) + pd) + (1 : Int32))).getD (pd + (2 : Int32)).toNatClampNeg (.int 0) = .int (93 : Int32) := by
  obtain ⟨hv0, hrel⟩ := hrel
  rcases hrel with ⟨rfl, hlo, hhi, rfl⟩ | ⟨rfl, hlo, hhi, rfl⟩ | ⟨rfl, hlo, hhi, rfl⟩ | ⟨rfl, hlo, hhi, rfl⟩ | ⟨rfl, hlo, hhi, rfl⟩ | ⟨rfl, hlo, hhi, rfl⟩ | ⟨rfl, hlo, hhi, rfl⟩ | ⟨rfl, hlo, hhi, rfl⟩ | ⟨rfl, hlo, hhi, rfl⟩ | ⟨rfl, hlo, hhi, rfl⟩
  · exact rfl
  · exact rfl
  · exact rfl
  · exact rfl
  · exact rfl
  · exact rfl
  · exact rfl
  · exact rfl
  · exact rfl
  · exact rfl
theorem own_rel_k0 {pv pd : Int32} {ls : List Value} (hrel : own_rel pv pd ls) : (0 : Int32) < pd → ¬ ((pd - (1 : Int32)) - (0 : Int32)) < 0 ∧ ((pd - (1 : Int32)) - (0 : Int32)) < 10 ∧ ¬ ((2 : Int32) + (0 : Int32)) < 0 ∧ ((2 : Int32) + (0 : Int32)) < (((2 : Int32) + pd) + (1 : Int32)) ∧ (own_cut (own_cp (own_cp own_L2 ls 2 pd) [.int 93] ((2 : Int32) + pd) 1) (((2 : Int32) + pd) + (1 : Int32))).getD ((2 : Int32) + (0 : Int32)).toNatClampNeg (.int 0) = .int (own_dig pv (own_pow ((pd - (1 : Int32)) - (0 : Int32)))) ∧ (0 ≤ (own_dig pv (own_pow ((pd - (1 : Int32)) - (0 : Int32)))).toInt ∧ (own_dig pv (own_pow ((pd - (1 : Int32)) - (0 : Int32)))).toInt < 128) ∧ (own_dig pv (own_pow ((pd - (1 : Int32)) - (0 : Int32)))) = (((48 : Int32) + ((pv / (own_pow ((pd - (1 : Int32)) - (0 : Int32)))) % (10 : Int32))).toUInt32.toUInt16.toUInt32.toInt32) := by
  obtain ⟨hv0, hrel⟩ := hrel
  rcases hrel with ⟨rfl, hlo, hhi, rfl⟩ | ⟨rfl, hlo, hhi, rfl⟩ | ⟨rfl, hlo, hhi, rfl⟩ | ⟨rfl, hlo, hhi, rfl⟩ | ⟨rfl, hlo, hhi, rfl⟩ | ⟨rfl, hlo, hhi, rfl⟩ | ⟨rfl, hlo, hhi, rfl⟩ | ⟨rfl, hlo, hhi, rfl⟩ | ⟨rfl, hlo, hhi, rfl⟩ | ⟨rfl, hlo, hhi, rfl⟩
  · exact fun _ => ⟨by decide, by decide, by decide, by decide, Eq.trans (b := Value.int (own_dig pv 1)) rfl (congrArg (fun z => Value.int (own_dig pv z)) (show (1 : Int32) = own_pow (((1 : Int32) - (1 : Int32)) - (0 : Int32)) by decide)), own_digr (c := 1) hv0 (by decide) (by decide), (own_digc (c := 1) hv0 (by decide) (by decide) rfl).symm⟩
  · exact fun _ => ⟨by decide, by decide, by decide, by decide, Eq.trans (b := Value.int (own_dig pv 10)) rfl (congrArg (fun z => Value.int (own_dig pv z)) (show (10 : Int32) = own_pow (((2 : Int32) - (1 : Int32)) - (0 : Int32)) by decide)), own_digr (c := 10) hv0 (by decide) (by decide), (own_digc (c := 10) hv0 (by decide) (by decide) rfl).symm⟩
  · exact fun _ => ⟨by decide, by decide, by decide, by decide, Eq.trans (b := Value.int (own_dig pv 100)) rfl (congrArg (fun z => Value.int (own_dig pv z)) (show (100 : Int32) = own_pow (((3 : Int32) - (1 : Int32)) - (0 : Int32)) by decide)), own_digr (c := 100) hv0 (by decide) (by decide), (own_digc (c := 100) hv0 (by decide) (by decide) rfl).symm⟩
  · exact fun _ => ⟨by decide, by decide, by decide, by decide, Eq.trans (b := Value.int (own_dig pv 1000)) rfl (congrArg (fun z => Value.int (own_dig pv z)) (show (1000 : Int32) = own_pow (((4 : Int32) - (1 : Int32)) - (0 : Int32)) by decide)), own_digr (c := 1000) hv0 (by decide) (by decide), (own_digc (c := 1000) hv0 (by decide) (by decide) rfl).symm⟩
  · exact fun _ => ⟨by decide, by decide, by decide, by decide, Eq.trans (b := Value.int (own_dig pv 10000)) rfl (congrArg (fun z => Value.int (own_dig pv z)) (show (10000 : Int32) = own_pow (((5 : Int32) - (1 : Int32)) - (0 : Int32)) by decide)), own_digr (c := 10000) hv0 (by decide) (by decide), (own_digc (c := 10000) hv0 (by decide) (by decide) rfl).symm⟩
  · exact fun _ => ⟨by decide, by decide, by decide, by decide, Eq.trans (b := Value.int (own_dig pv 100000)) rfl (congrArg (fun z => Value.int (own_dig pv z)) (show (100000 : Int32) = own_pow (((6 : Int32) - (1 : Int32)) - (0 : Int32)) by decide)), own_digr (c := 100000) hv0 (by decide) (by decide), (own_digc (c := 100000) hv0 (by decide) (by decide) rfl).symm⟩
  · exact fun _ => ⟨by decide, by decide, by decide, by decide, Eq.trans (b := Value.int (own_dig pv 1000000)) rfl (congrArg (fun z => Value.int (own_dig pv z)) (show (1000000 : Int32) = own_pow (((7 : Int32) - (1 : Int32)) - (0 : Int32)) by decide)), own_digr (c := 1000000) hv0 (by decide) (by decide), (own_digc (c := 1000000) hv0 (by decide) (by decide) rfl).symm⟩
  · exact fun _ => ⟨by decide, by decide, by decide, by decide, Eq.trans (b := Value.int (own_dig pv 10000000)) rfl (congrArg (fun z => Value.int (own_dig pv z)) (show (10000000 : Int32) = own_pow (((8 : Int32) - (1 : Int32)) - (0 : Int32)) by decide)), own_digr (c := 10000000) hv0 (by decide) (by decide), (own_digc (c := 10000000) hv0 (by decide) (by decide) rfl).symm⟩
  · exact fun _ => ⟨by decide, by decide, by decide, by decide, Eq.trans (b := Value.int (own_dig pv 100000000)) rfl (congrArg (fun z => Value.int (own_dig pv z)) (show (100000000 : Int32) = own_pow (((9 : Int32) - (1 : Int32)) - (0 : Int32)) by decide)), own_digr (c := 100000000) hv0 (by decide) (by decide), (own_digc (c := 100000000) hv0 (by decide) (by decide) rfl).symm⟩
  · exact fun _ => ⟨by decide, by decide, by decide, by decide, Eq.trans (b := Value.int (own_dig pv 1000000000)) rfl (congrArg (fun z => Value.int (own_dig pv z)) (show (1000000000 : Int32) = own_pow (((10 : Int32) - (1 : Int32)) - (0 : Int32)) by decide)), own_digr (c := 1000000000) hv0 (by decide) (by decide), (own_digc (c := 1000000000) hv0 (by decide) (by decide) rfl).symm⟩
theorem own_rel_k1 {pv pd : Int32} {ls : List Value} (hrel : own_rel pv pd ls) : (1 : Int32) < pd → ¬ ((pd - (1 : Int32)) - (1 : Int32)) < 0 ∧ ((pd - (1 : Int32)) - (1 : Int32)) < 10 ∧ ¬ ((2 : Int32) + (1 : Int32)) < 0 ∧ ((2 : Int32) + (1 : Int32)) < (((2 : Int32) + pd) + (1 : Int32)) ∧ (own_cut (own_cp (own_cp own_L2 ls 2 pd) [.int 93] ((2 : Int32) + pd) 1) (((2 : Int32) + pd) + (1 : Int32))).getD ((2 : Int32) + (1 : Int32)).toNatClampNeg (.int 0) = .int (own_dig pv (own_pow ((pd - (1 : Int32)) - (1 : Int32)))) ∧ (0 ≤ (own_dig pv (own_pow ((pd - (1 : Int32)) - (1 : Int32)))).toInt ∧ (own_dig pv (own_pow ((pd - (1 : Int32)) - (1 : Int32)))).toInt < 128) ∧ (own_dig pv (own_pow ((pd - (1 : Int32)) - (1 : Int32)))) = (((48 : Int32) + ((pv / (own_pow ((pd - (1 : Int32)) - (1 : Int32)))) % (10 : Int32))).toUInt32.toUInt16.toUInt32.toInt32) := by
  obtain ⟨hv0, hrel⟩ := hrel
  rcases hrel with ⟨rfl, hlo, hhi, rfl⟩ | ⟨rfl, hlo, hhi, rfl⟩ | ⟨rfl, hlo, hhi, rfl⟩ | ⟨rfl, hlo, hhi, rfl⟩ | ⟨rfl, hlo, hhi, rfl⟩ | ⟨rfl, hlo, hhi, rfl⟩ | ⟨rfl, hlo, hhi, rfl⟩ | ⟨rfl, hlo, hhi, rfl⟩ | ⟨rfl, hlo, hhi, rfl⟩ | ⟨rfl, hlo, hhi, rfl⟩
  · exact fun z => absurd z (by decide)
  · exact fun _ => ⟨by decide, by decide, by decide, by decide, Eq.trans (b := Value.int (own_dig pv 1)) rfl (congrArg (fun z => Value.int (own_dig pv z)) (show (1 : Int32) = own_pow (((2 : Int32) - (1 : Int32)) - (1 : Int32)) by decide)), own_digr (c := 1) hv0 (by decide) (by decide), (own_digc (c := 1) hv0 (by decide) (by decide) rfl).symm⟩
  · exact fun _ => ⟨by decide, by decide, by decide, by decide, Eq.trans (b := Value.int (own_dig pv 10)) rfl (congrArg (fun z => Value.int (own_dig pv z)) (show (10 : Int32) = own_pow (((3 : Int32) - (1 : Int32)) - (1 : Int32)) by decide)), own_digr (c := 10) hv0 (by decide) (by decide), (own_digc (c := 10) hv0 (by decide) (by decide) rfl).symm⟩
  · exact fun _ => ⟨by decide, by decide, by decide, by decide, Eq.trans (b := Value.int (own_dig pv 100)) rfl (congrArg (fun z => Value.int (own_dig pv z)) (show (100 : Int32) = own_pow (((4 : Int32) - (1 : Int32)) - (1 : Int32)) by decide)), own_digr (c := 100) hv0 (by decide) (by decide), (own_digc (c := 100) hv0 (by decide) (by decide) rfl).symm⟩
  · exact fun _ => ⟨by decide, by decide, by decide, by decide, Eq.trans (b := Value.int (own_dig pv 1000)) rfl (congrArg (fun z => Value.int (own_dig pv z)) (show (1000 : Int32) = own_pow (((5 : Int32) - (1 : Int32)) - (1 : Int32)) by decide)), own_digr (c := 1000) hv0 (by decide) (by decide), (own_digc (c := 1000) hv0 (by decide) (by decide) rfl).symm⟩
  · exact fun _ => ⟨by decide, by decide, by decide, by decide, Eq.trans (b := Value.int (own_dig pv 10000)) rfl (congrArg (fun z => Value.int (own_dig pv z)) (show (10000 : Int32) = own_pow (((6 : Int32) - (1 : Int32)) - (1 : Int32)) by decide)), own_digr (c := 10000) hv0 (by decide) (by decide), (own_digc (c := 10000) hv0 (by decide) (by decide) rfl).symm⟩
  · exact fun _ => ⟨by decide, by decide, by decide, by decide, Eq.trans (b := Value.int (own_dig pv 100000)) rfl (congrArg (fun z => Value.int (own_dig pv z)) (show (100000 : Int32) = own_pow (((7 : Int32) - (1 : Int32)) - (1 : Int32)) by decide)), own_digr (c := 100000) hv0 (by decide) (by decide), (own_digc (c := 100000) hv0 (by decide) (by decide) rfl).symm⟩
  · exact fun _ => ⟨by decide, by decide, by decide, by decide, Eq.trans (b := Value.int (own_dig pv 1000000)) rfl (congrArg (fun z => Value.int (own_dig pv z)) (show (1000000 : Int32) = own_pow (((8 : Int32) - (1 : Int32)) - (1 : Int32)) by decide)), own_digr (c := 1000000) hv0 (by decide) (by decide), (own_digc (c := 1000000) hv0 (by decide) (by decide) rfl).symm⟩
  · exact fun _ => ⟨by decide, by decide, by decide, by decide, Eq.trans (b := Value.int (own_dig pv 10000000)) rfl (congrArg (fun z => Value.int (own_dig pv z)) (show (10000000 : Int32) = own_pow (((9 : Int32) - (1 : Int32)) - (1 : Int32)) by decide)), own_digr (c := 10000000) hv0 (by decide) (by decide), (own_digc (c := 10000000) hv0 (by decide) (by decide) rfl).symm⟩
  · exact fun _ => ⟨by decide, by decide, by decide, by decide, Eq.trans (b := Value.int (own_dig pv 100000000)) rfl (congrArg (fun z => Value.int (own_dig pv z)) (show (100000000 : Int32) = own_pow (((10 : Int32) - (1 : Int32)) - (1 : Int32)) by decide)), own_digr (c := 100000000) hv0 (by decide) (by decide), (own_digc (c := 100000000) hv0 (by decide) (by decide) rfl).symm⟩
theorem own_rel_k2 {pv pd : Int32} {ls : List Value} (hrel : own_rel pv pd ls) : (2 : Int32) < pd → ¬ ((pd - (1 : Int32)) - (2 : Int32)) < 0 ∧ ((pd - (1 : Int32)) - (2 : Int32)) < 10 ∧ ¬ ((2 : Int32) + (2 : Int32)) < 0 ∧ ((2 : Int32) + (2 : Int32)) < (((2 : Int32) + pd) + (1 : Int32)) ∧ (own_cut (own_cp (own_cp own_L2 ls 2 pd) [.int 93] ((2 : Int32) + pd) 1) (((2 : Int32) + pd) + (1 : Int32))).getD ((2 : Int32) + (2 : Int32)).toNatClampNeg (.int 0) = .int (own_dig pv (own_pow ((pd - (1 : Int32)) - (2 : Int32)))) ∧ (0 ≤ (own_dig pv (own_pow ((pd - (1 : Int32)) - (2 : Int32)))).toInt ∧ (own_dig pv (own_pow ((pd - (1 : Int32)) - (2 : Int32)))).toInt < 128) ∧ (own_dig pv (own_pow ((pd - (1 : Int32)) - (2 : Int32)))) = (((48 : Int32) + ((pv / (own_pow ((pd - (1 : Int32)) - (2 : Int32)))) % (10 : Int32))).toUInt32.toUInt16.toUInt32.toInt32) := by
  obtain ⟨hv0, hrel⟩ := hrel
  rcases hrel with ⟨rfl, hlo, hhi, rfl⟩ | ⟨rfl, hlo, hhi, rfl⟩ | ⟨rfl, hlo, hhi, rfl⟩ | ⟨rfl, hlo, hhi, rfl⟩ | ⟨rfl, hlo, hhi, rfl⟩ | ⟨rfl, hlo, hhi, rfl⟩ | ⟨rfl, hlo, hhi, rfl⟩ | ⟨rfl, hlo, hhi, rfl⟩ | ⟨rfl, hlo, hhi, rfl⟩ | ⟨rfl, hlo, hhi, rfl⟩
  · exact fun z => absurd z (by decide)
  · exact fun z => absurd z (by decide)
  · exact fun _ => ⟨by decide, by decide, by decide, by decide, Eq.trans (b := Value.int (own_dig pv 1)) rfl (congrArg (fun z => Value.int (own_dig pv z)) (show (1 : Int32) = own_pow (((3 : Int32) - (1 : Int32)) - (2 : Int32)) by decide)), own_digr (c := 1) hv0 (by decide) (by decide), (own_digc (c := 1) hv0 (by decide) (by decide) rfl).symm⟩
  · exact fun _ => ⟨by decide, by decide, by decide, by decide, Eq.trans (b := Value.int (own_dig pv 10)) rfl (congrArg (fun z => Value.int (own_dig pv z)) (show (10 : Int32) = own_pow (((4 : Int32) - (1 : Int32)) - (2 : Int32)) by decide)), own_digr (c := 10) hv0 (by decide) (by decide), (own_digc (c := 10) hv0 (by decide) (by decide) rfl).symm⟩
  · exact fun _ => ⟨by decide, by decide, by decide, by decide, Eq.trans (b := Value.int (own_dig pv 100)) rfl (congrArg (fun z => Value.int (own_dig pv z)) (show (100 : Int32) = own_pow (((5 : Int32) - (1 : Int32)) - (2 : Int32)) by decide)), own_digr (c := 100) hv0 (by decide) (by decide), (own_digc (c := 100) hv0 (by decide) (by decide) rfl).symm⟩
  · exact fun _ => ⟨by decide, by decide, by decide, by decide, Eq.trans (b := Value.int (own_dig pv 1000)) rfl (congrArg (fun z => Value.int (own_dig pv z)) (show (1000 : Int32) = own_pow (((6 : Int32) - (1 : Int32)) - (2 : Int32)) by decide)), own_digr (c := 1000) hv0 (by decide) (by decide), (own_digc (c := 1000) hv0 (by decide) (by decide) rfl).symm⟩
  · exact fun _ => ⟨by decide, by decide, by decide, by decide, Eq.trans (b := Value.int (own_dig pv 10000)) rfl (congrArg (fun z => Value.int (own_dig pv z)) (show (10000 : Int32) = own_pow (((7 : Int32) - (1 : Int32)) - (2 : Int32)) by decide)), own_digr (c := 10000) hv0 (by decide) (by decide), (own_digc (c := 10000) hv0 (by decide) (by decide) rfl).symm⟩
  · exact fun _ => ⟨by decide, by decide, by decide, by decide, Eq.trans (b := Value.int (own_dig pv 100000)) rfl (congrArg (fun z => Value.int (own_dig pv z)) (show (100000 : Int32) = own_pow (((8 : Int32) - (1 : Int32)) - (2 : Int32)) by decide)), own_digr (c := 100000) hv0 (by decide) (by decide), (own_digc (c := 100000) hv0 (by decide) (by decide) rfl).symm⟩
  · exact fun _ => ⟨by decide, by decide, by decide, by decide, Eq.trans (b := Value.int (own_dig pv 1000000)) rfl (congrArg (fun z => Value.int (own_dig pv z)) (show (1000000 : Int32) = own_pow (((9 : Int32) - (1 : Int32)) - (2 : Int32)) by decide)), own_digr (c := 1000000) hv0 (by decide) (by decide), (own_digc (c := 1000000) hv0 (by decide) (by decide) rfl).symm⟩
  · exact fun _ => ⟨by decide, by decide, by decide, by decide, Eq.trans (b := Value.int (own_dig pv 10000000)) rfl (congrArg (fun z => Value.int (own_dig pv z)) (show (10000000 : Int32) = own_pow (((10 : Int32) - (1 : Int32)) - (2 : Int32)) by decide)), own_digr (c := 10000000) hv0 (by decide) (by decide), (own_digc (c := 10000000) hv0 (by decide) (by decide) rfl).symm⟩
theorem own_rel_k3 {pv pd : Int32} {ls : List Value} (hrel : own_rel pv pd ls) : (3 : Int32) < pd → ¬ ((pd - (1 : Int32)) - (3 : Int32)) < 0 ∧ ((pd - (1 : Int32)) - (3 : Int32)) < 10 ∧ ¬ ((2 : Int32) + (3 : Int32)) < 0 ∧ ((2 : Int32) + (3 : Int32)) < (((2 : Int32) + pd) + (1 : Int32)) ∧ (own_cut (own_cp (own_cp own_L2 ls 2 pd) [.int 93] ((2 : Int32) + pd) 1) (((2 : Int32) + pd) + (1 : Int32))).getD ((2 : Int32) + (3 : Int32)).toNatClampNeg (.int 0) = .int (own_dig pv (own_pow ((pd - (1 : Int32)) - (3 : Int32)))) ∧ (0 ≤ (own_dig pv (own_pow ((pd - (1 : Int32)) - (3 : Int32)))).toInt ∧ (own_dig pv (own_pow ((pd - (1 : Int32)) - (3 : Int32)))).toInt < 128) ∧ (own_dig pv (own_pow ((pd - (1 : Int32)) - (3 : Int32)))) = (((48 : Int32) + ((pv / (own_pow ((pd - (1 : Int32)) - (3 : Int32)))) % (10 : Int32))).toUInt32.toUInt16.toUInt32.toInt32) := by
  obtain ⟨hv0, hrel⟩ := hrel
  rcases hrel with ⟨rfl, hlo, hhi, rfl⟩ | ⟨rfl, hlo, hhi, rfl⟩ | ⟨rfl, hlo, hhi, rfl⟩ | ⟨rfl, hlo, hhi, rfl⟩ | ⟨rfl, hlo, hhi, rfl⟩ | ⟨rfl, hlo, hhi, rfl⟩ | ⟨rfl, hlo, hhi, rfl⟩ | ⟨rfl, hlo, hhi, rfl⟩ | ⟨rfl, hlo, hhi, rfl⟩ | ⟨rfl, hlo, hhi, rfl⟩
  · exact fun z => absurd z (by decide)
  · exact fun z => absurd z (by decide)
  · exact fun z => absurd z (by decide)
  · exact fun _ => ⟨by decide, by decide, by decide, by decide, Eq.trans (b := Value.int (own_dig pv 1)) rfl (congrArg (fun z => Value.int (own_dig pv z)) (show (1 : Int32) = own_pow (((4 : Int32) - (1 : Int32)) - (3 : Int32)) by decide)), own_digr (c := 1) hv0 (by decide) (by decide), (own_digc (c := 1) hv0 (by decide) (by decide) rfl).symm⟩
  · exact fun _ => ⟨by decide, by decide, by decide, by decide, Eq.trans (b := Value.int (own_dig pv 10)) rfl (congrArg (fun z => Value.int (own_dig pv z)) (show (10 : Int32) = own_pow (((5 : Int32) - (1 : Int32)) - (3 : Int32)) by decide)), own_digr (c := 10) hv0 (by decide) (by decide), (own_digc (c := 10) hv0 (by decide) (by decide) rfl).symm⟩
  · exact fun _ => ⟨by decide, by decide, by decide, by decide, Eq.trans (b := Value.int (own_dig pv 100)) rfl (congrArg (fun z => Value.int (own_dig pv z)) (show (100 : Int32) = own_pow (((6 : Int32) - (1 : Int32)) - (3 : Int32)) by decide)), own_digr (c := 100) hv0 (by decide) (by decide), (own_digc (c := 100) hv0 (by decide) (by decide) rfl).symm⟩
  · exact fun _ => ⟨by decide, by decide, by decide, by decide, Eq.trans (b := Value.int (own_dig pv 1000)) rfl (congrArg (fun z => Value.int (own_dig pv z)) (show (1000 : Int32) = own_pow (((7 : Int32) - (1 : Int32)) - (3 : Int32)) by decide)), own_digr (c := 1000) hv0 (by decide) (by decide), (own_digc (c := 1000) hv0 (by decide) (by decide) rfl).symm⟩
  · exact fun _ => ⟨by decide, by decide, by decide, by decide, Eq.trans (b := Value.int (own_dig pv 10000)) rfl (congrArg (fun z => Value.int (own_dig pv z)) (show (10000 : Int32) = own_pow (((8 : Int32) - (1 : Int32)) - (3 : Int32)) by decide)), own_digr (c := 10000) hv0 (by decide) (by decide), (own_digc (c := 10000) hv0 (by decide) (by decide) rfl).symm⟩
  · exact fun _ => ⟨by decide, by decide, by decide, by decide, Eq.trans (b := Value.int (own_dig pv 100000)) rfl (congrArg (fun z => Value.int (own_dig pv z)) (show (100000 : Int32) = own_pow (((9 : Int32) - (1 : Int32)) - (3 : Int32)) by decide)), own_digr (c := 100000) hv0 (by decide) (by decide), (own_digc (c := 100000) hv0 (by decide) (by decide) rfl).symm⟩
  · exact fun _ => ⟨by decide, by decide, by decide, by decide, Eq.trans (b := Value.int (own_dig pv 1000000)) rfl (congrArg (fun z => Value.int (own_dig pv z)) (show (1000000 : Int32) = own_pow (((10 : Int32) - (1 : Int32)) - (3 : Int32)) by decide)), own_digr (c := 1000000) hv0 (by decide) (by decide), (own_digc (c := 1000000) hv0 (by decide) (by decide) rfl).symm⟩
theorem own_rel_k4 {pv pd : Int32} {ls : List Value} (hrel : own_rel pv pd ls) : (4 : Int32) < pd → ¬ ((pd - (1 : Int32)) - (4 : Int32)) < 0 ∧ ((pd - (1 : Int32)) - (4 : Int32)) < 10 ∧ ¬ ((2 : Int32) + (4 : Int32)) < 0 ∧ ((2 : Int32) + (4 : Int32)) < (((2 : Int32) + pd) + (1 : Int32)) ∧ (own_cut (own_cp (own_cp own_L2 ls 2 pd) [.int 93] ((2 : Int32) + pd) 1) (((2 : Int32) + pd) + (1 : Int32))).getD ((2 : Int32) + (4 : Int32)).toNatClampNeg (.int 0) = .int (own_dig pv (own_pow ((pd - (1 : Int32)) - (4 : Int32)))) ∧ (0 ≤ (own_dig pv (own_pow ((pd - (1 : Int32)) - (4 : Int32)))).toInt ∧ (own_dig pv (own_pow ((pd - (1 : Int32)) - (4 : Int32)))).toInt < 128) ∧ (own_dig pv (own_pow ((pd - (1 : Int32)) - (4 : Int32)))) = (((48 : Int32) + ((pv / (own_pow ((pd - (1 : Int32)) - (4 : Int32)))) % (10 : Int32))).toUInt32.toUInt16.toUInt32.toInt32) := by
  obtain ⟨hv0, hrel⟩ := hrel
  rcases hrel with ⟨rfl, hlo, hhi, rfl⟩ | ⟨rfl, hlo, hhi, rfl⟩ | ⟨rfl, hlo, hhi, rfl⟩ | ⟨rfl, hlo, hhi, rfl⟩ | ⟨rfl, hlo, hhi, rfl⟩ | ⟨rfl, hlo, hhi, rfl⟩ | ⟨rfl, hlo, hhi, rfl⟩ | ⟨rfl, hlo, hhi, rfl⟩ | ⟨rfl, hlo, hhi, rfl⟩ | ⟨rfl, hlo, hhi, rfl⟩
  · exact fun z => absurd z (by decide)
  · exact fun z => absurd z (by decide)
  · exact fun z => absurd z (by decide)
  · exact fun z => absurd z (by decide)
  · exact fun _ => ⟨by decide, by decide, by decide, by decide, Eq.trans (b := Value.int (own_dig pv 1)) rfl (congrArg (fun z => Value.int (own_dig pv z)) (show (1 : Int32) = own_pow (((5 : Int32) - (1 : Int32)) - (4 : Int32)) by decide)), own_digr (c := 1) hv0 (by decide) (by decide), (own_digc (c := 1) hv0 (by decide) (by decide) rfl).symm⟩
  · exact fun _ => ⟨by decide, by decide, by decide, by decide, Eq.trans (b := Value.int (own_dig pv 10)) rfl (congrArg (fun z => Value.int (own_dig pv z)) (show (10 : Int32) = own_pow (((6 : Int32) - (1 : Int32)) - (4 : Int32)) by decide)), own_digr (c := 10) hv0 (by decide) (by decide), (own_digc (c := 10) hv0 (by decide) (by decide) rfl).symm⟩
  · exact fun _ => ⟨by decide, by decide, by decide, by decide, Eq.trans (b := Value.int (own_dig pv 100)) rfl (congrArg (fun z => Value.int (own_dig pv z)) (show (100 : Int32) = own_pow (((7 : Int32) - (1 : Int32)) - (4 : Int32)) by decide)), own_digr (c := 100) hv0 (by decide) (by decide), (own_digc (c := 100) hv0 (by decide) (by decide) rfl).symm⟩
  · exact fun _ => ⟨by decide, by decide, by decide, by decide, Eq.trans (b := Value.int (own_dig pv 1000)) rfl (congrArg (fun z => Value.int (own_dig pv z)) (show (1000 : Int32) = own_pow (((8 : Int32) - (1 : Int32)) - (4 : Int32)) by decide)), own_digr (c := 1000) hv0 (by decide) (by decide), (own_digc (c := 1000) hv0 (by decide) (by decide) rfl).symm⟩
  · exact fun _ => ⟨by decide, by decide, by decide, by decide, Eq.trans (b := Value.int (own_dig pv 10000)) rfl (congrArg (fun z => Value.int (own_dig pv z)) (show (10000 : Int32) = own_pow (((9 : Int32) - (1 : Int32)) - (4 : Int32)) by decide)), own_digr (c := 10000) hv0 (by decide) (by decide), (own_digc (c := 10000) hv0 (by decide) (by decide) rfl).symm⟩
  · exact fun _ => ⟨by decide, by decide, by decide, by decide, Eq.trans (b := Value.int (own_dig pv 100000)) rfl (congrArg (fun z => Value.int (own_dig pv z)) (show (100000 : Int32) = own_pow (((10 : Int32) - (1 : Int32)) - (4 : Int32)) by decide)), own_digr (c := 100000) hv0 (by decide) (by decide), (own_digc (c := 100000) hv0 (by decide) (by decide) rfl).symm⟩
theorem own_rel_k5 {pv pd : Int32} {ls : List Value} (hrel : own_rel pv pd ls) : (5 : Int32) < pd → ¬ ((pd - (1 : Int32)) - (5 : Int32)) < 0 ∧ ((pd - (1 : Int32)) - (5 : Int32)) < 10 ∧ ¬ ((2 : Int32) + (5 : Int32)) < 0 ∧ ((2 : Int32) + (5 : Int32)) < (((2 : Int32) + pd) + (1 : Int32)) ∧ (own_cut (own_cp (own_cp own_L2 ls 2 pd) [.int 93] ((2 : Int32) + pd) 1) (((2 : Int32) + pd) + (1 : Int32))).getD ((2 : Int32) + (5 : Int32)).toNatClampNeg (.int 0) = .int (own_dig pv (own_pow ((pd - (1 : Int32)) - (5 : Int32)))) ∧ (0 ≤ (own_dig pv (own_pow ((pd - (1 : Int32)) - (5 : Int32)))).toInt ∧ (own_dig pv (own_pow ((pd - (1 : Int32)) - (5 : Int32)))).toInt < 128) ∧ (own_dig pv (own_pow ((pd - (1 : Int32)) - (5 : Int32)))) = (((48 : Int32) + ((pv / (own_pow ((pd - (1 : Int32)) - (5 : Int32)))) % (10 : Int32))).toUInt32.toUInt16.toUInt32.toInt32) := by
  obtain ⟨hv0, hrel⟩ := hrel
  rcases hrel with ⟨rfl, hlo, hhi, rfl⟩ | ⟨rfl, hlo, hhi, rfl⟩ | ⟨rfl, hlo, hhi, rfl⟩ | ⟨rfl, hlo, hhi, rfl⟩ | ⟨rfl, hlo, hhi, rfl⟩ | ⟨rfl, hlo, hhi, rfl⟩ | ⟨rfl, hlo, hhi, rfl⟩ | ⟨rfl, hlo, hhi, rfl⟩ | ⟨rfl, hlo, hhi, rfl⟩ | ⟨rfl, hlo, hhi, rfl⟩
  · exact fun z => absurd z (by decide)
  · exact fun z => absurd z (by decide)
  · exact fun z => absurd z (by decide)
  · exact fun z => absurd z (by decide)
  · exact fun z => absurd z (by decide)
  · exact fun _ => ⟨by decide, by decide, by decide, by decide, Eq.trans (b := Value.int (own_dig pv 1)) rfl (congrArg (fun z => Value.int (own_dig pv z)) (show (1 : Int32) = own_pow (((6 : Int32) - (1 : Int32)) - (5 : Int32)) by decide)), own_digr (c := 1) hv0 (by decide) (by decide), (own_digc (c := 1) hv0 (by decide) (by decide) rfl).symm⟩
  · exact fun _ => ⟨by decide, by decide, by decide, by decide, Eq.trans (b := Value.int (own_dig pv 10)) rfl (congrArg (fun z => Value.int (own_dig pv z)) (show (10 : Int32) = own_pow (((7 : Int32) - (1 : Int32)) - (5 : Int32)) by decide)), own_digr (c := 10) hv0 (by decide) (by decide), (own_digc (c := 10) hv0 (by decide) (by decide) rfl).symm⟩
  · exact fun _ => ⟨by decide, by decide, by decide, by decide, Eq.trans (b := Value.int (own_dig pv 100)) rfl (congrArg (fun z => Value.int (own_dig pv z)) (show (100 : Int32) = own_pow (((8 : Int32) - (1 : Int32)) - (5 : Int32)) by decide)), own_digr (c := 100) hv0 (by decide) (by decide), (own_digc (c := 100) hv0 (by decide) (by decide) rfl).symm⟩
  · exact fun _ => ⟨by decide, by decide, by decide, by decide, Eq.trans (b := Value.int (own_dig pv 1000)) rfl (congrArg (fun z => Value.int (own_dig pv z)) (show (1000 : Int32) = own_pow (((9 : Int32) - (1 : Int32)) - (5 : Int32)) by decide)), own_digr (c := 1000) hv0 (by decide) (by decide), (own_digc (c := 1000) hv0 (by decide) (by decide) rfl).symm⟩
  · exact fun _ => ⟨by decide, by decide, by decide, by decide, Eq.trans (b := Value.int (own_dig pv 10000)) rfl (congrArg (fun z => Value.int (own_dig pv z)) (show (10000 : Int32) = own_pow (((10 : Int32) - (1 : Int32)) - (5 : Int32)) by decide)), own_digr (c := 10000) hv0 (by decide) (by decide), (own_digc (c := 10000) hv0 (by decide) (by decide) rfl).symm⟩
theorem own_rel_k6 {pv pd : Int32} {ls : List Value} (hrel : own_rel pv pd ls) : (6 : Int32) < pd → ¬ ((pd - (1 : Int32)) - (6 : Int32)) < 0 ∧ ((pd - (1 : Int32)) - (6 : Int32)) < 10 ∧ ¬ ((2 : Int32) + (6 : Int32)) < 0 ∧ ((2 : Int32) + (6 : Int32)) < (((2 : Int32) + pd) + (1 : Int32)) ∧ (own_cut (own_cp (own_cp own_L2 ls 2 pd) [.int 93] ((2 : Int32) + pd) 1) (((2 : Int32) + pd) + (1 : Int32))).getD ((2 : Int32) + (6 : Int32)).toNatClampNeg (.int 0) = .int (own_dig pv (own_pow ((pd - (1 : Int32)) - (6 : Int32)))) ∧ (0 ≤ (own_dig pv (own_pow ((pd - (1 : Int32)) - (6 : Int32)))).toInt ∧ (own_dig pv (own_pow ((pd - (1 : Int32)) - (6 : Int32)))).toInt < 128) ∧ (own_dig pv (own_pow ((pd - (1 : Int32)) - (6 : Int32)))) = (((48 : Int32) + ((pv / (own_pow ((pd - (1 : Int32)) - (6 : Int32)))) % (10 : Int32))).toUInt32.toUInt16.toUInt32.toInt32) := by
  obtain ⟨hv0, hrel⟩ := hrel
  rcases hrel with ⟨rfl, hlo, hhi, rfl⟩ | ⟨rfl, hlo, hhi, rfl⟩ | ⟨rfl, hlo, hhi, rfl⟩ | ⟨rfl, hlo, hhi, rfl⟩ | ⟨rfl, hlo, hhi, rfl⟩ | ⟨rfl, hlo, hhi, rfl⟩ | ⟨rfl, hlo, hhi, rfl⟩ | ⟨rfl, hlo, hhi, rfl⟩ | ⟨rfl, hlo, hhi, rfl⟩ | ⟨rfl, hlo, hhi, rfl⟩
  · exact fun z => absurd z (by decide)
  · exact fun z => absurd z (by decide)
  · exact fun z => absurd z (by decide)
  · exact fun z => absurd z (by decide)
  · exact fun z => absurd z (by decide)
  · exact fun z => absurd z (by decide)
  · exact fun _ => ⟨by decide, by decide, by decide, by decide, Eq.trans (b := Value.int (own_dig pv 1)) rfl (congrArg (fun z => Value.int (own_dig pv z)) (show (1 : Int32) = own_pow (((7 : Int32) - (1 : Int32)) - (6 : Int32)) by decide)), own_digr (c := 1) hv0 (by decide) (by decide), (own_digc (c := 1) hv0 (by decide) (by decide) rfl).symm⟩
  · exact fun _ => ⟨by decide, by decide, by decide, by decide, Eq.trans (b := Value.int (own_dig pv 10)) rfl (congrArg (fun z => Value.int (own_dig pv z)) (show (10 : Int32) = own_pow (((8 : Int32) - (1 : Int32)) - (6 : Int32)) by decide)), own_digr (c := 10) hv0 (by decide) (by decide), (own_digc (c := 10) hv0 (by decide) (by decide) rfl).symm⟩
  · exact fun _ => ⟨by decide, by decide, by decide, by decide, Eq.trans (b := Value.int (own_dig pv 100)) rfl (congrArg (fun z => Value.int (own_dig pv z)) (show (100 : Int32) = own_pow (((9 : Int32) - (1 : Int32)) - (6 : Int32)) by decide)), own_digr (c := 100) hv0 (by decide) (by decide), (own_digc (c := 100) hv0 (by decide) (by decide) rfl).symm⟩
  · exact fun _ => ⟨by decide, by decide, by decide, by decide, Eq.trans (b := Value.int (own_dig pv 1000)) rfl (congrArg (fun z => Value.int (own_dig pv z)) (show (1000 : Int32) = own_pow (((10 : Int32) - (1 : Int32)) - (6 : Int32)) by decide)), own_digr (c := 1000) hv0 (by decide) (by decide), (own_digc (c := 1000) hv0 (by decide) (by decide) rfl).symm⟩
theorem own_rel_k7 {pv pd : Int32} {ls : List Value} (hrel : own_rel pv pd ls) : (7 : Int32) < pd → ¬ ((pd - (1 : Int32)) - (7 : Int32)) < 0 ∧ ((pd - (1 : Int32)) - (7 : Int32)) < 10 ∧ ¬ ((2 : Int32) + (7 : Int32)) < 0 ∧ ((2 : Int32) + (7 : Int32)) < (((2 : Int32) + pd) + (1 : Int32)) ∧ (own_cut (own_cp (own_cp own_L2 ls 2 pd) [.int 93] ((2 : Int32) + pd) 1) (((2 : Int32) + pd) + (1 : Int32))).getD ((2 : Int32) + (7 : Int32)).toNatClampNeg (.int 0) = .int (own_dig pv (own_pow ((pd - (1 : Int32)) - (7 : Int32)))) ∧ (0 ≤ (own_dig pv (own_pow ((pd - (1 : Int32)) - (7 : Int32)))).toInt ∧ (own_dig pv (own_pow ((pd - (1 : Int32)) - (7 : Int32)))).toInt < 128) ∧ (own_dig pv (own_pow ((pd - (1 : Int32)) - (7 : Int32)))) = (((48 : Int32) + ((pv / (own_pow ((pd - (1 : Int32)) - (7 : Int32)))) % (10 : Int32))).toUInt32.toUInt16.toUInt32.toInt32) := by
  obtain ⟨hv0, hrel⟩ := hrel
  rcases hrel with ⟨rfl, hlo, hhi, rfl⟩ | ⟨rfl, hlo, hhi, rfl⟩ | ⟨rfl, hlo, hhi, rfl⟩ | ⟨rfl, hlo, hhi, rfl⟩ | ⟨rfl, hlo, hhi, rfl⟩ | ⟨rfl, hlo, hhi, rfl⟩ | ⟨rfl, hlo, hhi, rfl⟩ | ⟨rfl, hlo, hhi, rfl⟩ | ⟨rfl, hlo, hhi, rfl⟩ | ⟨rfl, hlo, hhi, rfl⟩
  · exact fun z => absurd z (by decide)
  · exact fun z => absurd z (by decide)
  · exact fun z => absurd z (by decide)
  · exact fun z => absurd z (by decide)
  · exact fun z => absurd z (by decide)
  · exact fun z => absurd z (by decide)
  · exact fun z => absurd z (by decide)
  · exact fun _ => ⟨by decide, by decide, by decide, by decide, Eq.trans (b := Value.int (own_dig pv 1)) rfl (congrArg (fun z => Value.int (own_dig pv z)) (show (1 : Int32) = own_pow (((8 : Int32) - (1 : Int32)) - (7 : Int32)) by decide)), own_digr (c := 1) hv0 (by decide) (by decide), (own_digc (c := 1) hv0 (by decide) (by decide) rfl).symm⟩
  · exact fun _ => ⟨by decide, by decide, by decide, by decide, Eq.trans (b := Value.int (own_dig pv 10)) rfl (congrArg (fun z => Value.int (own_dig pv z)) (show (10 : Int32) = own_pow (((9 : Int32) - (1 : Int32)) - (7 : Int32)) by decide)), own_digr (c := 10) hv0 (by decide) (by decide), (own_digc (c := 10) hv0 (by decide) (by decide) rfl).symm⟩
  · exact fun _ => ⟨by decide, by decide, by decide, by decide, Eq.trans (b := Value.int (own_dig pv 100)) rfl (congrArg (fun z => Value.int (own_dig pv z)) (show (100 : Int32) = own_pow (((10 : Int32) - (1 : Int32)) - (7 : Int32)) by decide)), own_digr (c := 100) hv0 (by decide) (by decide), (own_digc (c := 100) hv0 (by decide) (by decide) rfl).symm⟩
theorem own_rel_k8 {pv pd : Int32} {ls : List Value} (hrel : own_rel pv pd ls) : (8 : Int32) < pd → ¬ ((pd - (1 : Int32)) - (8 : Int32)) < 0 ∧ ((pd - (1 : Int32)) - (8 : Int32)) < 10 ∧ ¬ ((2 : Int32) + (8 : Int32)) < 0 ∧ ((2 : Int32) + (8 : Int32)) < (((2 : Int32) + pd) + (1 : Int32)) ∧ (own_cut (own_cp (own_cp own_L2 ls 2 pd) [.int 93] ((2 : Int32) + pd) 1) (((2 : Int32) + pd) + (1 : Int32))).getD ((2 : Int32) + (8 : Int32)).toNatClampNeg (.int 0) = .int (own_dig pv (own_pow ((pd - (1 : Int32)) - (8 : Int32)))) ∧ (0 ≤ (own_dig pv (own_pow ((pd - (1 : Int32)) - (8 : Int32)))).toInt ∧ (own_dig pv (own_pow ((pd - (1 : Int32)) - (8 : Int32)))).toInt < 128) ∧ (own_dig pv (own_pow ((pd - (1 : Int32)) - (8 : Int32)))) = (((48 : Int32) + ((pv / (own_pow ((pd - (1 : Int32)) - (8 : Int32)))) % (10 : Int32))).toUInt32.toUInt16.toUInt32.toInt32) := by
  obtain ⟨hv0, hrel⟩ := hrel
  rcases hrel with ⟨rfl, hlo, hhi, rfl⟩ | ⟨rfl, hlo, hhi, rfl⟩ | ⟨rfl, hlo, hhi, rfl⟩ | ⟨rfl, hlo, hhi, rfl⟩ | ⟨rfl, hlo, hhi, rfl⟩ | ⟨rfl, hlo, hhi, rfl⟩ | ⟨rfl, hlo, hhi, rfl⟩ | ⟨rfl, hlo, hhi, rfl⟩ | ⟨rfl, hlo, hhi, rfl⟩ | ⟨rfl, hlo, hhi, rfl⟩
  · exact fun z => absurd z (by decide)
  · exact fun z => absurd z (by decide)
  · exact fun z => absurd z (by decide)
  · exact fun z => absurd z (by decide)
  · exact fun z => absurd z (by decide)
  · exact fun z => absurd z (by decide)
  · exact fun z => absurd z (by decide)
  · exact fun z => absurd z (by decide)
  · exact fun _ => ⟨by decide, by decide, by decide, by decide, Eq.trans (b := Value.int (own_dig pv 1)) rfl (congrArg (fun z => Value.int (own_dig pv z)) (show (1 : Int32) = own_pow (((9 : Int32) - (1 : Int32)) - (8 : Int32)) by decide)), own_digr (c := 1) hv0 (by decide) (by decide), (own_digc (c := 1) hv0 (by decide) (by decide) rfl).symm⟩
  · exact fun _ => ⟨by decide, by decide, by decide, by decide, Eq.trans (b := Value.int (own_dig pv 10)) rfl (congrArg (fun z => Value.int (own_dig pv z)) (show (10 : Int32) = own_pow (((10 : Int32) - (1 : Int32)) - (8 : Int32)) by decide)), own_digr (c := 10) hv0 (by decide) (by decide), (own_digc (c := 10) hv0 (by decide) (by decide) rfl).symm⟩
theorem own_rel_k9 {pv pd : Int32} {ls : List Value} (hrel : own_rel pv pd ls) : (9 : Int32) < pd → ¬ ((pd - (1 : Int32)) - (9 : Int32)) < 0 ∧ ((pd - (1 : Int32)) - (9 : Int32)) < 10 ∧ ¬ ((2 : Int32) + (9 : Int32)) < 0 ∧ ((2 : Int32) + (9 : Int32)) < (((2 : Int32) + pd) + (1 : Int32)) ∧ (own_cut (own_cp (own_cp own_L2 ls 2 pd) [.int 93] ((2 : Int32) + pd) 1) (((2 : Int32) + pd) + (1 : Int32))).getD ((2 : Int32) + (9 : Int32)).toNatClampNeg (.int 0) = .int (own_dig pv (own_pow ((pd - (1 : Int32)) - (9 : Int32)))) ∧ (0 ≤ (own_dig pv (own_pow ((pd - (1 : Int32)) - (9 : Int32)))).toInt ∧ (own_dig pv (own_pow ((pd - (1 : Int32)) - (9 : Int32)))).toInt < 128) ∧ (own_dig pv (own_pow ((pd - (1 : Int32)) - (9 : Int32)))) = (((48 : Int32) + ((pv / (own_pow ((pd - (1 : Int32)) - (9 : Int32)))) % (10 : Int32))).toUInt32.toUInt16.toUInt32.toInt32) := by
  obtain ⟨hv0, hrel⟩ := hrel
  rcases hrel with ⟨rfl, hlo, hhi, rfl⟩ | ⟨rfl, hlo, hhi, rfl⟩ | ⟨rfl, hlo, hhi, rfl⟩ | ⟨rfl, hlo, hhi, rfl⟩ | ⟨rfl, hlo, hhi, rfl⟩ | ⟨rfl, hlo, hhi, rfl⟩ | ⟨rfl, hlo, hhi, rfl⟩ | ⟨rfl, hlo, hhi, rfl⟩ | ⟨rfl, hlo, hhi, rfl⟩ | ⟨rfl, hlo, hhi, rfl⟩
  · exact fun z => absurd z (by decide)
  · exact fun z => absurd z (by decide)
  · exact fun z => absurd z (by decide)
  · exact fun z => absurd z (by decide)
  · exact fun z => absurd z (by decide)
  · exact fun z => absurd z (by decide)
  · exact fun z => absurd z (by decide)
  · exact fun z => absurd z (by decide)
  · exact fun z => absurd z (by decide)
  · exact fun _ => ⟨by decide, by decide, by decide, by decide, Eq.trans (b := Value.int (own_dig pv 1)) rfl (congrArg (fun z => Value.int (own_dig pv z)) (show (1 : Int32) = own_pow (((10 : Int32) - (1 : Int32)) - (9 : Int32)) by decide)), own_digr (c := 1) hv0 (by decide) (by decide), (own_digc (c := 1) hv0 (by decide) (by decide) rfl).symm⟩
theorem ef0 (m : MethodId) (x0 : Int32) (x1 : Int32) (x2 : Int32) : entryFrame m #[(.int x0), (.int x1), (.int x2)] maxLocals = mkF m 0 #[iv x0, iv x1, iv x2, .unset, .unset, .unset, .unset, .unset, .unset] [] := by first | (simp [entryFrame, mkF, argsToLocals, Value.category, maxLocals]; done) | rfl
def Q0 (Z : State) (pa : Int32) (pb : Int32) (pe : Int32) (cs : Int32) (sf : Value) (r1 : Addr) (r2 : Addr) (kr1 : ClassId) (kr2 : ClassId) (rdoc : Addr) (h0 : Heap) (n0 : Nat) (v : Option Value) (h : Heap) (L : List Loc) : Prop := v = some (.int 1) ∧ Fr n0 L
set_option maxRecDepth 65536 in
set_option maxHeartbeats 40000000 in
theorem rm0 (l : Launch) (Z : State) (a0 : Array Value) (hw : ∀ d ∈ tables_1, d.before a0 Z = true) (ws : List Jvm.Cond) (pa : Int32) (pb : Int32) (pe : Int32) (cs : Int32) (sf : Value) (r1 : Addr) (r2 : Addr) (kr1 : ClassId) (kr2 : ClassId) (rdoc : Addr) (h0 : Heap) (n0 : Nat) (Z0 : n0 ≤ h0.size) (Scs : Sta Z h0 "java/lang/String" "COMPACT_STRINGS" "Z" (.int cs)) (Ssf : Sta Z h0 "jdk/internal/util/Preconditions" "SIOOBE_FORMATTER" "Ljava/util/function/BiFunction;" sf) (Sr1 : Sta Z h0 "java/lang/Integer" "DigitOnes" "[B" (.ref r1)) (Sr2 : Sta Z h0 "java/lang/Integer" "DigitTens" "[B" (.ref r2)) (Vr1 : Arv Z h0 r1 kr1 .byte (100 : Int32) own_ones (.int 0)) (Vr2 : Arv Z h0 r2 kr2 .byte (100 : Int32) own_tens (.int 0)) (Sdoc : Sta Z h0 "com/example/salish/salish/SchemaFault$Place" "DOCUMENT" "Lcom/example/salish/salish/SchemaFault$Place;" (.ref rdoc)) (Edoc : Exa Z h0 rdoc "com/example/salish/salish/SchemaFault$Place") (Fvdoc : Fld Z h0 rdoc "com/example/salish/salish/SchemaFault$Place" "value" "I" (.int (-1))) (Ftdoc : Fld Z h0 rdoc "com/example/salish/salish/SchemaFault$Place" "type" "Ljava/lang/String;" .null) (Ffdoc : Fld Z h0 rdoc "com/example/salish/salish/SchemaFault$Place" "field" "I" (.int (-1))) (Fndoc : Fld Z h0 rdoc "com/example/salish/salish/SchemaFault$Place" "fieldName" "Ljava/lang/String;" .null) (hcs : ¬ cs = 0) (hsf : sf.isRef = true) :
    MetFree l x (head1 (Jvm.Cond.code x code maxLocals ret :: ws) room_1) (fun as' U => as' = #[(.int pa), (.int pb), (.int pe)] ∧ Z.Warmed39 U.vm ∧ U.heap = h0 ∧ CHv Z consts_1 U.vm h0) (fun _ _ _ _ _ => True) (fun _ U o U' => ∃ v L, o = .returned v ∧ Q0 Z pa pb pe cs sf r1 r2 kr1 kr2 rdoc h0 n0 v U'.heap L ∧ ReturnedEndW U o U' L 48 3456) := by
  refine MetFree.of_bodySF (plainFor_of_name pn_com_example_salish_salish_PlaceOfValuePinLaw) hisR ?_
  intro p e s m args below meth c s₁ Bd hml0 hP hK
  obtain ⟨rfl, hZ, hh, hCH⟩ := hP
  have hx := Bd.exec
  have hby := Bd.bytes
  have hml : c.maxLocals = 9 := hml0
  have hown : s.vm.findClass "com/example/salish/salish/PlaceOfValuePinLaw" = some m.cls := findClass_of_methodNamed Bd.named
  have hnm := (name_of_methodNamed Bd.named Bd.method).1
  have X0 : Stand p l e room_1 s m #[(.int pa), (.int pb), (.int pe)] below meth c s₁ [] 0 0 := Stand.of_body Bd
  have e0 : s₁.heap = h0 := by rw [← hh, Bd.state]; rfl
  have N0 := Fr.nil n0
  show GoW p e below s (fun v h L => Q0 Z pa pb pe cs sf r1 r2 kr1 kr2 rdoc h0 n0 v h L) 48 3456 _
  refine GoW.pull (V := s₁.setTop (mkF m 0 #[iv pa, iv pb, iv pe, .unset, .unset, .unset, .unset, .unset, .unset] [])) (fun t k => castTop (ef0 m pa pb pe) k) ?_
  have J25_1 : ∀ (zv : Int32) (zw : Int32), GoW p e below s (fun v h L => Q0 Z pa pb pe cs sf r1 r2 kr1 kr2 rdoc h0 n0 v h L) 48 3456 (s₁.setTop (mkF m 25 #[iv pa, iv pb, iv pe, iv zv, iv zw, .unset, .unset, .unset, .unset] [])) := by
    intro zv zw
    refine GoW.pull (V := s₁.setTop (mkF m 26 #[iv pa, iv pb, iv pe, iv zv, iv zw, .unset, .unset, .unset, .unset] [(.int zv)])) (fun t k => XS.iloadN X0.here hx rfl (hb hby at_25) rfl  k) ?_
    obtain ⟨_, _, ⟨T2, L2, k2, n2⟩, -, X2, ⟨Lc2, hQ2, l2, y2, z2⟩, st2⟩ := Jvm.LawKit.callS X0 hx (y := (⟨"com/example/salish/salish/SchemaFault$Place", "ofValue", "(I)Lcom/example/salish/salish/SchemaFault$Place;"⟩ : MethodName)) hown (mvT hZ (hw _ (List.mem_of_getElem? (i := 0) rfl))) (mvT hZ (hw _ (List.mem_of_getElem? (i := 1) rfl))) (mvT hZ (hw _ (List.mem_of_getElem? (i := 2) rfl))) (mvT hZ (hw _ (List.mem_of_getElem? (i := 3) rfl))) (by decide) (backOf (W := 0) (rmPo l Z a0 hw [] zv h0 n0 (Nat.le_trans Z0 ((Keep.refl h0 [])).1)) hZ (hw _ (List.mem_of_getElem? (i := 3) rfl)) (hw _ (List.mem_of_getElem? (i := 2) rfl)) (by decide) (by decide)) (g := (mkF m 26 #[iv pa, iv pb, iv pe, iv zv, iv zw, .unset, .unset, .unset, .unset] [(.int zv)])) rfl (by rw [hml]; rfl) (argsL := [(.int zv)]) (rest := []) (lenOf pd_26 rfl) rfl (by show 2 * 0 + _ ≤ _; exact Nat.le_of_eq rfl) (hb hby at_26) (fun _ _ => ⟨rfl, e0, (by decide : 0 + 1 ≤ _), (by decide : 0 + 5 ≤ _)⟩)
    dsimp only [Pt.U, Pt.locs, Pt.cells, Pt.slots] at X2 l2 y2 z2 st2 hQ2
    subst l2 y2 z2
    obtain ⟨po_2, rfl, N2q, Kc2, nex2_0, Fc2_0, Fc2_1, Fc2_2, Fc2_3, Fc2_4⟩ := hQ2
    have ne_r1_po_2 : r1 ≠ po_2 := Nat.ne_of_lt (Nat.lt_of_lt_of_le Vr1.lt nex2_0)
    have ne_r2_po_2 : r2 ≠ po_2 := Nat.ne_of_lt (Nat.lt_of_lt_of_le Vr2.lt nex2_0)
    have ne_rdoc_po_2 : rdoc ≠ po_2 := Nat.ne_of_lt (Nat.lt_of_lt_of_le Edoc.lt nex2_0)
    have sz_po_2 : h0.size ≤ po_2 := Nat.le_trans ((Keep.refl h0 [])).1 nex2_0
    have g_po_2 : n0 ≤ po_2 := Nat.le_trans Z0 sz_po_2
    have K2 : Keep h0 T2.heap [] := (Keep.refl h0 []).trans Kc2 (all0)
    have N2 := Fr.app N0 N2q
    refine GoW.pull (V := T2.setTop (mkF m 29 #[iv pa, iv pb, iv pe, iv zv, iv zw, .unset, .unset, .unset, .unset] [(.ref po_2)])) st2 ?_
    refine GoW.pull (V := T2.setTop (mkF m 33 #[iv pa, iv pb, iv pe, iv zv, iv zw, rv po_2, .unset, .unset, .unset] [(.int zw)])) (fun t k => XS.astore X2.here hx rfl (hb hby at_29) rfl rfl (l' := #[iv pa, iv pb, iv pe, iv zv, iv zw, rv po_2, .unset, .unset, .unset]) rfl (XS.iload X2.here hx rfl (hb hby at_31) rfl  k)) ?_
    obtain ⟨_, _, ⟨T3, L3, k3, n3⟩, -, X3, ⟨Lc3, hQ3, l3, y3, z3⟩, st3⟩ := Jvm.LawKit.callS X2 hx (y := (⟨"com/example/salish/salish/SchemaFault$Place", "ofValue", "(I)Lcom/example/salish/salish/SchemaFault$Place;"⟩ : MethodName)) hown (mvT hZ (hw _ (List.mem_of_getElem? (i := 0) rfl))) (mvT hZ (hw _ (List.mem_of_getElem? (i := 1) rfl))) (mvT hZ (hw _ (List.mem_of_getElem? (i := 2) rfl))) (mvT hZ (hw _ (List.mem_of_getElem? (i := 3) rfl))) (by decide) (backOf (W := 0) (rmPo l Z a0 hw [] zw T2.heap n0 (Nat.le_trans Z0 (K2).1)) hZ (hw _ (List.mem_of_getElem? (i := 3) rfl)) (hw _ (List.mem_of_getElem? (i := 2) rfl)) (by decide) (by decide)) (g := (mkF m 33 #[iv pa, iv pb, iv pe, iv zv, iv zw, rv po_2, .unset, .unset, .unset] [(.int zw)])) rfl (by rw [hml]; rfl) (argsL := [(.int zw)]) (rest := []) (lenOf pd_26 rfl) rfl (by show 2 * 0 + _ ≤ _; exact Nat.le_of_eq rfl) (hb hby at_33) (fun _ _ => ⟨rfl, rfl, (by decide : 1 + 1 ≤ _), (by decide : 5 + 5 ≤ _)⟩)
    dsimp only [Pt.U, Pt.locs, Pt.cells, Pt.slots] at X3 l3 y3 z3 st3 hQ3
    subst l3 y3 z3
    obtain ⟨po_3, rfl, N3q, Kc3, nex3_0, Fc3_0, Fc3_1, Fc3_2, Fc3_3, Fc3_4⟩ := hQ3
    have ne_r1_po_3 : r1 ≠ po_3 := Nat.ne_of_lt (Nat.lt_of_lt_of_le (Vr1.keep Kc2 nin0).lt nex3_0)
    have ne_r2_po_3 : r2 ≠ po_3 := Nat.ne_of_lt (Nat.lt_of_lt_of_le (Vr2.keep Kc2 nin0).lt nex3_0)
    have ne_rdoc_po_3 : rdoc ≠ po_3 := Nat.ne_of_lt (Nat.lt_of_lt_of_le (Edoc.keep Kc2).lt nex3_0)
    have ne_po_2_po_3 : po_2 ≠ po_3 := Nat.ne_of_lt (Nat.lt_of_lt_of_le Fc2_0.lt nex3_0)
    have sz_po_3 : h0.size ≤ po_3 := Nat.le_trans (K2).1 nex3_0
    have g_po_3 : n0 ≤ po_3 := Nat.le_trans Z0 sz_po_3
    have K3 : Keep h0 T3.heap [] := K2.trans Kc3 (all0)
    have N3 := Fr.app N2 N3q
    refine GoW.pull (V := T3.setTop (mkF m 36 #[iv pa, iv pb, iv pe, iv zv, iv zw, rv po_2, .unset, .unset, .unset] [(.ref po_3)])) st3 ?_
    refine GoW.pull (V := T3.setTop (mkF m 40 #[iv pa, iv pb, iv pe, iv zv, iv zw, rv po_2, rv po_3, .unset, .unset] [(.ref po_2)])) (fun t k => XS.astore X3.here hx rfl (hb hby at_36) rfl rfl (l' := #[iv pa, iv pb, iv pe, iv zv, iv zw, rv po_2, rv po_3, .unset, .unset]) rfl (XS.aload X3.here hx rfl (hb hby at_38) rfl rfl k)) ?_
    obtain ⟨cq4, kq4, q4a, q4b, q4c⟩ := isOf hZ rfl (Fc2_0.keep Kc3)
    obtain ⟨_, _, ⟨T4, L4, k4, n4⟩, -, X4, ⟨Lc4, hQ4, l4, y4, z4⟩, st4⟩ := X3.virtualBack hx (y := (⟨"com/example/salish/salish/SchemaFault$Place", "value", "()I"⟩ : MethodName)) (z := (⟨"com/example/salish/salish/SchemaFault$Place", "value", "()I"⟩ : MethodName)) hown (mvT hZ (hw _ (List.mem_of_getElem? (i := 22) rfl))) (mvT hZ (hw _ (List.mem_of_getElem? (i := 23) rfl))) (notFace_of_selects (args := #[]) (mvT hZ (hw _ (List.mem_of_getElem? (i := 25) rfl)))) (mvT hZ (hw _ (List.mem_of_getElem? (i := 25) rfl))) (mvT hZ (hw _ (List.mem_of_getElem? (i := 24) rfl))) (by decide) (backOf (W := 0) (rmPv l Z a0 hw [] po_2 zv T3.heap n0 (Fc2_1.keep Kc3 nin0)) hZ (hw _ (List.mem_of_getElem? (i := 26) rfl)) (hw _ (List.mem_of_getElem? (i := 2) rfl)) (by decide) (by decide)) q4a q4c (g := (mkF m 40 #[iv pa, iv pb, iv pe, iv zv, iv zw, rv po_2, rv po_3, .unset, .unset] [(.ref po_2)])) rfl (by rw [hml]; rfl) (Steps.refl _) (argsL := []) (rest := []) (lenOf pd_6 rfl) rfl (by show 2 * 0 + _ ≤ _; exact Nat.le_of_eq rfl) (hb hby at_40) (fun _ _ => ⟨rfl, rfl, (by decide : 2 + 0 ≤ _), (by decide : 10 + 0 ≤ _)⟩)
    dsimp only [Pt.U, Pt.locs, Pt.cells, Pt.slots] at X4 l4 y4 z4 st4 hQ4
    subst l4 y4 z4
    obtain ⟨rfl, N4q, e4⟩ := hQ4
    have N4 := Fr.app N3 N4q
    refine GoW.pull (V := T4.setTop (mkF m 43 #[iv pa, iv pb, iv pe, iv zv, iv zw, rv po_2, rv po_3, .unset, .unset] [(.int zv)])) (fun _ k => st4.trans k) ?_
    refine GoW.pull (V := T4.setTop (mkF m 51 #[iv pa, iv pb, iv pe, iv zv, iv zw, rv po_2, rv po_3, .unset, .unset] [(.ref po_2)])) (fun t k => XS.iloadN X4.here hx rfl (hb hby at_43) rfl  (XS.icmpYes X4.here hx rfl (pc0 := 44) (pc' := 49) rfl (hb hby at_44) rfl (XT.ii_eq_t rfl) (by decide) (by decide) (XS.aload X4.here hx rfl (hb hby at_49) rfl rfl k))) ?_
    obtain ⟨cq5, kq5, q5a, q5b, q5c⟩ := isOf hZ e4 (Fc2_0.keep Kc3)
    obtain ⟨_, _, ⟨T5, L5, k5, n5⟩, -, X5, ⟨Lc5, hQ5, l5, y5, z5⟩, st5⟩ := X4.virtualBack hx (y := (⟨"com/example/salish/salish/SchemaFault$Place", "field", "()I"⟩ : MethodName)) (z := (⟨"com/example/salish/salish/SchemaFault$Place", "field", "()I"⟩ : MethodName)) hown (mvT hZ (hw _ (List.mem_of_getElem? (i := 27) rfl))) (mvT hZ (hw _ (List.mem_of_getElem? (i := 28) rfl))) (notFace_of_selects (args := #[]) (mvT hZ (hw _ (List.mem_of_getElem? (i := 30) rfl)))) (mvT hZ (hw _ (List.mem_of_getElem? (i := 30) rfl))) (mvT hZ (hw _ (List.mem_of_getElem? (i := 29) rfl))) (by decide) (backOf (W := 0) (rmPf l Z a0 hw [] po_2 T3.heap n0 (Fc2_3.keep Kc3 nin0)) hZ (hw _ (List.mem_of_getElem? (i := 31) rfl)) (hw _ (List.mem_of_getElem? (i := 2) rfl)) (by decide) (by decide)) q5a q5c (g := (mkF m 51 #[iv pa, iv pb, iv pe, iv zv, iv zw, rv po_2, rv po_3, .unset, .unset] [(.ref po_2)])) rfl (by rw [hml]; rfl) (Steps.refl _) (argsL := []) (rest := []) (lenOf pd_6 rfl) rfl (by show 2 * 0 + _ ≤ _; exact Nat.le_of_eq rfl) (hb hby at_51) (fun _ _ => ⟨rfl, e4, (by decide : 2 + 0 ≤ _), (by decide : 10 + 0 ≤ _)⟩)
    dsimp only [Pt.U, Pt.locs, Pt.cells, Pt.slots] at X5 l5 y5 z5 st5 hQ5
    subst l5 y5 z5
    obtain ⟨rfl, N5q, e5⟩ := hQ5
    have N5 := Fr.app N4 N5q
    refine GoW.pull (V := T5.setTop (mkF m 54 #[iv pa, iv pb, iv pe, iv zv, iv zw, rv po_2, rv po_3, .unset, .unset] [(.int (-1))])) (fun _ k => st5.trans k) ?_
    refine GoW.pull (V := T5.setTop (mkF m 60 #[iv pa, iv pb, iv pe, iv zv, iv zw, rv po_2, rv po_3, .unset, .unset] [])) (fun t k => XS.iconst X5.here hx rfl (hb hby at_54) (XS.icmpYes X5.here hx rfl (pc0 := 55) (pc' := 60) rfl (hb hby at_55) rfl (XT.ii_eq_t (by decide)) (by decide) (by decide) k)) ?_
    have J83_6 : ∀ (Tj_83 : State) (Lj_83 : List Loc) (Xj_83 : Stand p l e room_1 s m #[(.int pa), (.int pb), (.int pe)] below meth c Tj_83 Lj_83 2 10) (ej_83 : Tj_83.heap = T3.heap) (Nj_83 : Fr n0 Lj_83) , GoW p e below s (fun v h L => Q0 Z pa pb pe cs sf r1 r2 kr1 kr2 rdoc h0 n0 v h L) 48 3456 (Tj_83.setTop (mkF m 83 #[iv pa, iv pb, iv pe, iv zv, iv zw, rv po_2, rv po_3, .unset, .unset] [])) := by
      intro Tj_83 Lj_83 Xj_83 ej_83 Nj_83
      have J106_7 : ∀ (Tj_106 : State) (Lj_106 : List Loc) (Xj_106 : Stand p l e room_1 s m #[(.int pa), (.int pb), (.int pe)] below meth c Tj_106 Lj_106 2 10) (ej_106 : Tj_106.heap = T3.heap) (Nj_106 : Fr n0 Lj_106) , GoW p e below s (fun v h L => Q0 Z pa pb pe cs sf r1 r2 kr1 kr2 rdoc h0 n0 v h L) 48 3456 (Tj_106.setTop (mkF m 106 #[iv pa, iv pb, iv pe, iv zv, iv zw, rv po_2, rv po_3, .unset, .unset] [])) := by
        intro Tj_106 Lj_106 Xj_106 ej_106 Nj_106
        have J129_8 : ∀ (Tj_129 : State) (Lj_129 : List Loc) (Xj_129 : Stand p l e room_1 s m #[(.int pa), (.int pb), (.int pe)] below meth c Tj_129 Lj_129 2 10) (ej_129 : Tj_129.heap = T3.heap) (Nj_129 : Fr n0 Lj_129) , GoW p e below s (fun v h L => Q0 Z pa pb pe cs sf r1 r2 kr1 kr2 rdoc h0 n0 v h L) 48 3456 (Tj_129.setTop (mkF m 129 #[iv pa, iv pb, iv pe, iv zv, iv zw, rv po_2, rv po_3, .unset, .unset] [])) := by
          intro Tj_129 Lj_129 Xj_129 ej_129 Nj_129
          by_cases hneg : zv < 0
          · skip
            refine GoW.pull (V := Tj_129.setTop (mkF m 131 #[iv pa, iv pb, iv pe, iv zv, iv zw, rv po_2, rv po_3, .unset, .unset] [(.ref po_2)])) (fun t k => XS.aload Xj_129.here hx rfl (hb hby at_129) rfl rfl k) ?_
            obtain ⟨cq9, kq9, q9a, q9b, q9c⟩ := isOf hZ ej_129 (Fc2_0.keep Kc3)
            obtain ⟨_, _, ⟨T9, L9, k9, n9⟩, -, X9, hS9, -, ⟨Lc9, hQ9, l9, y9, z9, -⟩, st9⟩ := Xj_129.virtualBackS hx (y := (⟨"com/example/salish/salish/SchemaFault$Place", "toString", "()Ljava/lang/String;"⟩ : MethodName)) (z := (⟨"com/example/salish/salish/SchemaFault$Place", "toString", "()Ljava/lang/String;"⟩ : MethodName)) hown (mvT hZ (hw _ (List.mem_of_getElem? (i := 44) rfl))) (mvT hZ (hw _ (List.mem_of_getElem? (i := 45) rfl))) (notFace_of_selects (args := #[]) (mvT hZ (hw _ (List.mem_of_getElem? (i := 47) rfl)))) (mvT hZ (hw _ (List.mem_of_getElem? (i := 47) rfl))) (mvT hZ (hw _ (List.mem_of_getElem? (i := 46) rfl))) (by decide) (backOfSH (W := 0) (s := s) (vm0 := s.vm) (rmT0 l Z a0 hw [] po_2 cs zv T3.heap n0 (Nat.le_trans Z0 (K3).1) (own_sta_keep (own_sta_keep Scs Kc2 all0) Kc3 all0) (Fc2_0.keep Kc3) (Fc2_1.keep Kc3 nin0) (Fc2_2.keep Kc3 nin0) (Fc2_3.keep Kc3 nin0) (Fc2_4.keep Kc3 nin0) hcs hneg) hZ (hw _ (List.mem_of_getElem? (i := 48) rfl)) (hw _ (List.mem_of_getElem? (i := 2) rfl)) (by decide) (by decide) (own_ew hw) (CHv.keep Kc3 all0 (CHv.keep Kc2 all0 hCH))) q9a q9c (g := (mkF m 131 #[iv pa, iv pb, iv pe, iv zv, iv zw, rv po_2, rv po_3, .unset, .unset] [(.ref po_2)])) rfl (by rw [hml]; rfl) (Steps.refl _) (argsL := []) (rest := []) (lenOf pd_25 rfl) rfl (by show 2 * 0 + _ ≤ _; exact Nat.le_of_eq rfl) (hb hby at_131) (fun _ _ => ⟨rfl, ej_129, (by decide : 2 + 2 ≤ _), (by decide : 10 + 4 ≤ _)⟩)
            dsimp only [Pt.U, Pt.locs, Pt.cells, Pt.slots] at X9 l9 y9 z9 st9 hQ9 hS9
            subst l9 y9 z9
            obtain ⟨ra9, rb9, kb9, rfl, N9q, Kc9, Lx9, Lc9', Lv9, La9⟩ := hQ9
            have hZ : Z.Warmed39 (s.setVm T9.vm).vm := State.Warmed39.trans hZ hS9.1
            have hown : (s.setVm T9.vm).vm.findClass "com/example/salish/salish/PlaceOfValuePinLaw" = some m.cls := by show T9.vm.findClass _ = _; rw [hS9.1.alike.findClass]; exact hown
            have hkN : T9.heap.size ≤ T9.heap.size := Nat.le_refl _
            have K9 : Keep h0 T9.heap [] := K3.trans Kc9 (all0)
            have N9 := Fr.app Nj_129 N9q
            refine GoW.pull (V := T9.setTop (mkF m 134 #[iv pa, iv pb, iv pe, iv zv, iv zw, rv po_2, rv po_3, .unset, .unset] [(.ref ra9)])) (fun _ k => st9.trans k) ?_
            refine Go.wide hS9 ?_
            refine Go.pull (V := T9.setTop (mkF m 142 #[iv pa, iv pb, iv pe, iv zv, iv zw, rv po_2, rv po_3, rv ra9, .unset] [(.ref ra9)])) (fun t k => XS.astore X9.here hx rfl (hb hby at_134) rfl rfl (l' := #[iv pa, iv pb, iv pe, iv zv, iv zw, rv po_2, rv po_3, rv ra9, .unset]) rfl (XS.iloadN X9.here hx rfl (hb hby at_136) rfl  (XS.ifNo X9.here hx rfl (hb hby at_137) rfl (XT.i0_ge_f hneg) (XS.aload X9.here hx rfl (hb hby at_140) rfl rfl k)))) ?_
            obtain ⟨cq10, kq10, q10a, q10b, q10c⟩ := isOf hZ rfl Lx9
            obtain ⟨_, _, ⟨T10, L10, k10, n10⟩, -, X10, ⟨Lc10, hQ10, l10, y10, z10⟩, st10⟩ := X9.virtualBack hx (y := (⟨"java/lang/String", "isEmpty", "()Z"⟩ : MethodName)) (z := (⟨"java/lang/String", "isEmpty", "()Z"⟩ : MethodName)) hown (mvT hZ (hw _ (List.mem_of_getElem? (i := 57) rfl))) (mvT hZ (hw _ (List.mem_of_getElem? (i := 58) rfl))) (notFace_of_selects (args := #[]) (mvT hZ (hw _ (List.mem_of_getElem? (i := 60) rfl)))) (mvT hZ (hw _ (List.mem_of_getElem? (i := 60) rfl))) (mvT hZ (hw _ (List.mem_of_getElem? (i := 59) rfl))) (by decide) (backOf (W := 0) (rmSe l Z a0 hw [] ra9 rb9 kb9 ([] : List Value) T9.heap n0 Lv9 La9) hZ (hw _ (List.mem_of_getElem? (i := 61) rfl)) (hw _ (List.mem_of_getElem? (i := 50) rfl)) (by decide) (by decide)) q10a q10c (g := (mkF m 142 #[iv pa, iv pb, iv pe, iv zv, iv zw, rv po_2, rv po_3, rv ra9, .unset] [(.ref ra9)])) rfl (by rw [hml]; rfl) (Steps.refl _) (argsL := []) (rest := []) (lenOf pd_10 rfl) rfl (by show 2 * 0 + _ ≤ _; exact Nat.le_of_eq rfl) (hb hby at_142) (fun _ _ => ⟨rfl, rfl, (by decide : 4 + 0 ≤ _), (by decide : 14 + 0 ≤ _)⟩)
            dsimp only [Pt.U, Pt.locs, Pt.cells, Pt.slots] at X10 l10 y10 z10 st10 hQ10
            subst l10 y10 z10
            obtain ⟨rfl, N10q, e10⟩ := hQ10
            have N10 := Fr.app N9 N10q
            refine Go.pull (V := T10.setTop (mkF m 145 #[iv pa, iv pb, iv pe, iv zv, iv zw, rv po_2, rv po_3, rv ra9, .unset] [(.int 1)])) (fun _ k => st10.trans k) ?_
            exact Go.retN X10 hx Bd.notSynchronized (t := .boolean) Bd.returns (by simp) (hb hby at_145) ⟨⟨rfl, N10⟩, by rw [e10]; exact hkN⟩ (by decide) (by decide)
          · skip
            obtain ⟨pd, ls, hrel⟩ := own_rel_of zv hneg
            refine GoW.pull (V := Tj_129.setTop (mkF m 131 #[iv pa, iv pb, iv pe, iv zv, iv zw, rv po_2, rv po_3, .unset, .unset] [(.ref po_2)])) (fun t k => XS.aload Xj_129.here hx rfl (hb hby at_129) rfl rfl k) ?_
            obtain ⟨cq11, kq11, q11a, q11b, q11c⟩ := isOf hZ ej_129 (Fc2_0.keep Kc3)
            obtain ⟨_, _, ⟨T11, L11, k11, n11⟩, -, X11, hS11, -, ⟨Lc11, hQ11, l11, y11, z11, -⟩, st11⟩ := Xj_129.virtualBackS hx (y := (⟨"com/example/salish/salish/SchemaFault$Place", "toString", "()Ljava/lang/String;"⟩ : MethodName)) (z := (⟨"com/example/salish/salish/SchemaFault$Place", "toString", "()Ljava/lang/String;"⟩ : MethodName)) hown (mvT hZ (hw _ (List.mem_of_getElem? (i := 44) rfl))) (mvT hZ (hw _ (List.mem_of_getElem? (i := 45) rfl))) (notFace_of_selects (args := #[]) (mvT hZ (hw _ (List.mem_of_getElem? (i := 47) rfl)))) (mvT hZ (hw _ (List.mem_of_getElem? (i := 47) rfl))) (mvT hZ (hw _ (List.mem_of_getElem? (i := 46) rfl))) (by decide) (backOfSH (W := 0) (s := s) (vm0 := s.vm) (rmT1 l Z a0 hw [] po_2 cs zv r1 r2 kr1 kr2 pd ls T3.heap n0 (Nat.le_trans Z0 (K3).1) (own_sta_keep (own_sta_keep Scs Kc2 all0) Kc3 all0) (Fc2_0.keep Kc3) (Fc2_1.keep Kc3 nin0) (Fc2_2.keep Kc3 nin0) (Fc2_3.keep Kc3 nin0) (Fc2_4.keep Kc3 nin0) (own_sta_keep (own_sta_keep Sr1 Kc2 all0) Kc3 all0) (own_sta_keep (own_sta_keep Sr2 Kc2 all0) Kc3 all0) ((Vr1.keep Kc2 nin0).keep Kc3 nin0) ((Vr2.keep Kc2 nin0).keep Kc3 nin0) hcs hrel) hZ (hw _ (List.mem_of_getElem? (i := 48) rfl)) (hw _ (List.mem_of_getElem? (i := 2) rfl)) (by decide) (by decide) (own_ew hw) (CHv.keep Kc3 all0 (CHv.keep Kc2 all0 hCH))) q11a q11c (g := (mkF m 131 #[iv pa, iv pb, iv pe, iv zv, iv zw, rv po_2, rv po_3, .unset, .unset] [(.ref po_2)])) rfl (by rw [hml]; rfl) (Steps.refl _) (argsL := []) (rest := []) (lenOf pd_25 rfl) rfl (by show 2 * 0 + _ ≤ _; exact Nat.le_of_eq rfl) (hb hby at_131) (fun _ _ => ⟨rfl, ej_129, (by decide : 2 + 10 ≤ _), (by decide : 10 + 64 ≤ _)⟩)
            dsimp only [Pt.U, Pt.locs, Pt.cells, Pt.slots] at X11 l11 y11 z11 st11 hQ11 hS11
            subst l11 y11 z11
            obtain ⟨ra11, rb11, kb11, rfl, N11q, Kc11, Lx11, Lc11', Lv11, La11⟩ := hQ11
            have hZ : Z.Warmed39 (s.setVm T11.vm).vm := State.Warmed39.trans hZ hS11.1
            have hown : (s.setVm T11.vm).vm.findClass "com/example/salish/salish/PlaceOfValuePinLaw" = some m.cls := by show T11.vm.findClass _ = _; rw [hS11.1.alike.findClass]; exact hown
            have hkN : T11.heap.size ≤ T11.heap.size := Nat.le_refl _
            have K11 : Keep h0 T11.heap [] := K3.trans Kc11 (all0)
            have N11 := Fr.app Nj_129 N11q
            refine GoW.pull (V := T11.setTop (mkF m 134 #[iv pa, iv pb, iv pe, iv zv, iv zw, rv po_2, rv po_3, .unset, .unset] [(.ref ra11)])) (fun _ k => st11.trans k) ?_
            refine Go.wide hS11 ?_
            refine Go.pull (V := T11.setTop (mkF m 147 #[iv pa, iv pb, iv pe, iv zv, iv zw, rv po_2, rv po_3, rv ra11, .unset] [(.int zv)])) (fun t k => XS.astore X11.here hx rfl (hb hby at_134) rfl rfl (l' := #[iv pa, iv pb, iv pe, iv zv, iv zw, rv po_2, rv po_3, rv ra11, .unset]) rfl (XS.iloadN X11.here hx rfl (hb hby at_136) rfl  (XS.ifYes X11.here hx rfl (pc0 := 137) (pc' := 146) rfl (hb hby at_137) rfl (XT.i0_ge_t hneg) (by decide) (by decide) (XS.iloadN X11.here hx rfl (hb hby at_146) rfl  k)))) ?_
            obtain ⟨_, _, ⟨T12, L12, k12, n12⟩, -, X12, ⟨Lc12, hQ12, l12, y12, z12⟩, st12⟩ := Jvm.LawKit.callS X11 hx (y := (⟨"com/example/salish/salish/PlaceOfValuePinLaw", "digits", "(I)I"⟩ : MethodName)) hown (mvT hZ (hw _ (List.mem_of_getElem? (i := 198) rfl))) (mvT hZ (hw _ (List.mem_of_getElem? (i := 199) rfl))) (mvT hZ (hw _ (List.mem_of_getElem? (i := 200) rfl))) (mvT hZ (hw _ (List.mem_of_getElem? (i := 201) rfl))) (by decide) (backOf (W := 0) (rmDg l Z a0 hw [] zv T11.heap n0 ) hZ (hw _ (List.mem_of_getElem? (i := 201) rfl)) (hw _ (List.mem_of_getElem? (i := 200) rfl)) (by decide) (by decide)) (g := (mkF m 147 #[iv pa, iv pb, iv pe, iv zv, iv zw, rv po_2, rv po_3, rv ra11, .unset] [(.int zv)])) rfl (by rw [hml]; rfl) (argsL := [(.int zv)]) (rest := []) (lenOf pd_9 rfl) rfl (by show 2 * 0 + _ ≤ _; exact Nat.le_of_eq rfl) (hb hby at_147) (fun _ _ => ⟨rfl, rfl, (by decide : 12 + 0 ≤ _), (by decide : 74 + 0 ≤ _)⟩)
            dsimp only [Pt.U, Pt.locs, Pt.cells, Pt.slots] at X12 l12 y12 z12 st12 hQ12
            subst l12 y12 z12
            obtain ⟨hv12, N12q, e12⟩ := hQ12
            rw [(show (own_digits zv) = pd from own_rel_digits hrel)] at hv12; subst hv12
            have N12 := Fr.app N11 N12q
            refine Go.pull (V := T12.setTop (mkF m 150 #[iv pa, iv pb, iv pe, iv zv, iv zw, rv po_2, rv po_3, rv ra11, .unset] [(.int pd)])) st12 ?_
            refine Go.pull (V := T12.setTop (mkF m 154 #[iv pa, iv pb, iv pe, iv zv, iv zw, rv po_2, rv po_3, rv ra11, iv pd] [(.ref ra11)])) (fun t k => XS.istore X12.here hx rfl (hb hby at_150) rfl (l' := #[iv pa, iv pb, iv pe, iv zv, iv zw, rv po_2, rv po_3, rv ra11, iv pd]) rfl (XS.aload X12.here hx rfl (hb hby at_152) rfl rfl k)) ?_
            obtain ⟨cq13, kq13, q13a, q13b, q13c⟩ := isOf hZ e12 Lx11
            obtain ⟨_, _, ⟨T13, L13, k13, n13⟩, -, X13, ⟨Lc13, hQ13, l13, y13, z13⟩, st13⟩ := X12.virtualBack hx (y := (⟨"java/lang/String", "length", "()I"⟩ : MethodName)) (z := (⟨"java/lang/String", "length", "()I"⟩ : MethodName)) hown (mvT hZ (hw _ (List.mem_of_getElem? (i := 207) rfl))) (mvT hZ (hw _ (List.mem_of_getElem? (i := 93) rfl))) (notFace_of_selects (args := #[]) (mvT hZ (hw _ (List.mem_of_getElem? (i := 95) rfl)))) (mvT hZ (hw _ (List.mem_of_getElem? (i := 95) rfl))) (mvT hZ (hw _ (List.mem_of_getElem? (i := 94) rfl))) (by decide) (backOf (W := 0) (rmSl l Z a0 hw [] ra11 cs rb11 kb11 (((2 : Int32) + pd) + (1 : Int32)) ((own_cut (own_cp (own_cp own_L2 ls 2 pd) [.int 93] ((2 : Int32) + pd) 1) (((2 : Int32) + pd) + (1 : Int32))) : List Value) T11.heap n0 (own_sta_keep (own_sta_keep (own_sta_keep Scs Kc2 all0) Kc3 all0) Kc11 all0) Lx11 Lc11' Lv11 La11 hcs) hZ (hw _ (List.mem_of_getElem? (i := 96) rfl)) (hw _ (List.mem_of_getElem? (i := 50) rfl)) (by decide) (by decide)) q13a q13c (g := (mkF m 154 #[iv pa, iv pb, iv pe, iv zv, iv zw, rv po_2, rv po_3, rv ra11, iv pd] [(.ref ra11)])) rfl (by rw [hml]; rfl) (Steps.refl _) (argsL := []) (rest := []) (lenOf pd_6 rfl) rfl (by show 2 * 0 + _ ≤ _; exact Nat.le_of_eq rfl) (hb hby at_154) (fun _ _ => ⟨rfl, e12, (by decide : 12 + 0 ≤ _), (by decide : 74 + 0 ≤ _)⟩)
            dsimp only [Pt.U, Pt.locs, Pt.cells, Pt.slots] at X13 l13 y13 z13 st13 hQ13
            subst l13 y13 z13
            obtain ⟨rfl, N13q, e13⟩ := hQ13
            have N13 := Fr.app N12 N13q
            refine Go.pull (V := T13.setTop (mkF m 157 #[iv pa, iv pb, iv pe, iv zv, iv zw, rv po_2, rv po_3, rv ra11, iv pd] [(.int (((2 : Int32) + pd) + (1 : Int32)))])) (fun _ k => st13.trans k) ?_
            refine Go.pull (V := T13.setTop (mkF m 168 #[iv pa, iv pb, iv pe, iv zv, iv zw, rv po_2, rv po_3, rv ra11, iv pd] [(.ref ra11)])) (fun t k => XS.iload X13.here hx rfl (hb hby at_157) rfl  (XS.iconst X13.here hx rfl (hb hby at_159) (XS.iadd X13.here hx rfl (hb hby at_160) rfl (XS.icmpYes X13.here hx rfl (pc0 := 161) (pc' := 166) rfl (hb hby at_161) rfl (XT.ii_eq_t (own_rel_len hrel)) (by decide) (by decide) (XS.aload X13.here hx rfl (hb hby at_166) rfl rfl k))))) ?_
            refine Go.pull (V := T13.setTop (mkF m 169 #[iv pa, iv pb, iv pe, iv zv, iv zw, rv po_2, rv po_3, rv ra11, iv pd] [(.int 0), (.ref ra11)])) (fun t k => XS.iconst X13.here hx rfl (hb hby at_168) k) ?_
            obtain ⟨cq14, kq14, q14a, q14b, q14c⟩ := isOf hZ e13 Lx11
            obtain ⟨_, _, ⟨T14, L14, k14, n14⟩, -, X14, ⟨Lc14, hQ14, l14, y14, z14⟩, st14⟩ := X13.virtualBack hx (y := (⟨"java/lang/String", "charAt", "(I)C"⟩ : MethodName)) (z := (⟨"java/lang/String", "charAt", "(I)C"⟩ : MethodName)) hown (mvT hZ (hw _ (List.mem_of_getElem? (i := 208) rfl))) (mvT hZ (hw _ (List.mem_of_getElem? (i := 209) rfl))) (notFace_of_selects (args := #[]) (mvT hZ (hw _ (List.mem_of_getElem? (i := 211) rfl)))) (mvT hZ (hw _ (List.mem_of_getElem? (i := 211) rfl))) (mvT hZ (hw _ (List.mem_of_getElem? (i := 210) rfl))) (by decide) (backOf (W := 0) (rmSh l Z a0 hw [] ra11 (0 : Int32) cs rb11 kb11 (((2 : Int32) + pd) + (1 : Int32)) ((own_cut (own_cp (own_cp own_L2 ls 2 pd) [.int 93] ((2 : Int32) + pd) 1) (((2 : Int32) + pd) + (1 : Int32))) : List Value) (36 : Int32) sf T11.heap n0 (own_sta_keep (own_sta_keep (own_sta_keep Scs Kc2 all0) Kc3 all0) Kc11 all0) Lx11 Lc11' Lv11 La11 (own_sta_keep (own_sta_keep (own_sta_keep Ssf Kc2 all0) Kc3 all0) Kc11 all0) hcs hsf (by decide) (own_rel_c0 hrel) (own_rel_g0 hrel) (by decide)) hZ (hw _ (List.mem_of_getElem? (i := 212) rfl)) (hw _ (List.mem_of_getElem? (i := 50) rfl)) (by decide) (by decide)) q14a q14c (g := (mkF m 169 #[iv pa, iv pb, iv pe, iv zv, iv zw, rv po_2, rv po_3, rv ra11, iv pd] [(.int 0), (.ref ra11)])) rfl (by rw [hml]; rfl) (Steps.refl _) (argsL := [(.int 0)]) (rest := []) (lenOf pd_21 rfl) rfl (by show 2 * 0 + _ ≤ _; exact Nat.le_of_eq rfl) (hb hby at_169) (fun _ _ => ⟨rfl, e13, (by decide : 12 + 0 ≤ _), (by decide : 74 + 0 ≤ _)⟩)
            dsimp only [Pt.U, Pt.locs, Pt.cells, Pt.slots] at X14 l14 y14 z14 st14 hQ14
            subst l14 y14 z14
            obtain ⟨rfl, N14q, e14⟩ := hQ14
            have N14 := Fr.app N13 N14q
            refine Go.pull (V := T14.setTop (mkF m 172 #[iv pa, iv pb, iv pe, iv zv, iv zw, rv po_2, rv po_3, rv ra11, iv pd] [(.int 36)])) (fun _ k => st14.trans k) ?_
            refine Go.pull (V := T14.setTop (mkF m 182 #[iv pa, iv pb, iv pe, iv zv, iv zw, rv po_2, rv po_3, rv ra11, iv pd] [(.int 1), (.ref ra11)])) (fun t k => XS.bipush X14.here hx rfl (hb hby at_172) (XS.icmpYes X14.here hx rfl (pc0 := 174) (pc' := 179) rfl (hb hby at_174) rfl (XT.ii_eq_t (by decide)) (by decide) (by decide) (XS.aload X14.here hx rfl (hb hby at_179) rfl rfl (XS.iconst X14.here hx rfl (hb hby at_181) k)))) ?_
            obtain ⟨cq15, kq15, q15a, q15b, q15c⟩ := isOf hZ e14 Lx11
            obtain ⟨_, _, ⟨T15, L15, k15, n15⟩, -, X15, ⟨Lc15, hQ15, l15, y15, z15⟩, st15⟩ := X14.virtualBack hx (y := (⟨"java/lang/String", "charAt", "(I)C"⟩ : MethodName)) (z := (⟨"java/lang/String", "charAt", "(I)C"⟩ : MethodName)) hown (mvT hZ (hw _ (List.mem_of_getElem? (i := 208) rfl))) (mvT hZ (hw _ (List.mem_of_getElem? (i := 209) rfl))) (notFace_of_selects (args := #[]) (mvT hZ (hw _ (List.mem_of_getElem? (i := 211) rfl)))) (mvT hZ (hw _ (List.mem_of_getElem? (i := 211) rfl))) (mvT hZ (hw _ (List.mem_of_getElem? (i := 210) rfl))) (by decide) (backOf (W := 0) (rmSh l Z a0 hw [] ra11 (1 : Int32) cs rb11 kb11 (((2 : Int32) + pd) + (1 : Int32)) ((own_cut (own_cp (own_cp own_L2 ls 2 pd) [.int 93] ((2 : Int32) + pd) 1) (((2 : Int32) + pd) + (1 : Int32))) : List Value) (91 : Int32) sf T11.heap n0 (own_sta_keep (own_sta_keep (own_sta_keep Scs Kc2 all0) Kc3 all0) Kc11 all0) Lx11 Lc11' Lv11 La11 (own_sta_keep (own_sta_keep (own_sta_keep Ssf Kc2 all0) Kc3 all0) Kc11 all0) hcs hsf (by decide) (own_rel_c1 hrel) (own_rel_g1 hrel) (by decide)) hZ (hw _ (List.mem_of_getElem? (i := 212) rfl)) (hw _ (List.mem_of_getElem? (i := 50) rfl)) (by decide) (by decide)) q15a q15c (g := (mkF m 182 #[iv pa, iv pb, iv pe, iv zv, iv zw, rv po_2, rv po_3, rv ra11, iv pd] [(.int 1), (.ref ra11)])) rfl (by rw [hml]; rfl) (Steps.refl _) (argsL := [(.int 1)]) (rest := []) (lenOf pd_21 rfl) rfl (by show 2 * 0 + _ ≤ _; exact Nat.le_of_eq rfl) (hb hby at_182) (fun _ _ => ⟨rfl, e14, (by decide : 12 + 0 ≤ _), (by decide : 74 + 0 ≤ _)⟩)
            dsimp only [Pt.U, Pt.locs, Pt.cells, Pt.slots] at X15 l15 y15 z15 st15 hQ15
            subst l15 y15 z15
            obtain ⟨rfl, N15q, e15⟩ := hQ15
            have N15 := Fr.app N14 N15q
            refine Go.pull (V := T15.setTop (mkF m 185 #[iv pa, iv pb, iv pe, iv zv, iv zw, rv po_2, rv po_3, rv ra11, iv pd] [(.int 91)])) (fun _ k => st15.trans k) ?_
            refine Go.pull (V := T15.setTop (mkF m 197 #[iv pa, iv pb, iv pe, iv zv, iv zw, rv po_2, rv po_3, rv ra11, iv pd] [(.int 2), (.int pd), (.ref ra11)])) (fun t k => XS.bipush X15.here hx rfl (hb hby at_185) (XS.icmpYes X15.here hx rfl (pc0 := 187) (pc' := 192) rfl (hb hby at_187) rfl (XT.ii_eq_t (by decide)) (by decide) (by decide) (XS.aload X15.here hx rfl (hb hby at_192) rfl rfl (XS.iload X15.here hx rfl (hb hby at_194) rfl  (XS.iconst X15.here hx rfl (hb hby at_196) k))))) ?_
            refine Go.pull (V := T15.setTop (mkF m 198 #[iv pa, iv pb, iv pe, iv zv, iv zw, rv po_2, rv po_3, rv ra11, iv pd] [(.int (pd + (2 : Int32))), (.ref ra11)])) (fun t k => XS.iadd X15.here hx rfl (hb hby at_197) rfl k) ?_
            obtain ⟨cq16, kq16, q16a, q16b, q16c⟩ := isOf hZ e15 Lx11
            obtain ⟨_, _, ⟨T16, L16, k16, n16⟩, -, X16, ⟨Lc16, hQ16, l16, y16, z16⟩, st16⟩ := X15.virtualBack hx (y := (⟨"java/lang/String", "charAt", "(I)C"⟩ : MethodName)) (z := (⟨"java/lang/String", "charAt", "(I)C"⟩ : MethodName)) hown (mvT hZ (hw _ (List.mem_of_getElem? (i := 208) rfl))) (mvT hZ (hw _ (List.mem_of_getElem? (i := 209) rfl))) (notFace_of_selects (args := #[]) (mvT hZ (hw _ (List.mem_of_getElem? (i := 211) rfl)))) (mvT hZ (hw _ (List.mem_of_getElem? (i := 211) rfl))) (mvT hZ (hw _ (List.mem_of_getElem? (i := 210) rfl))) (by decide) (backOf (W := 0) (rmSh l Z a0 hw [] ra11 (pd + (2 : Int32)) cs rb11 kb11 (((2 : Int32) + pd) + (1 : Int32)) ((own_cut (own_cp (own_cp own_L2 ls 2 pd) [.int 93] ((2 : Int32) + pd) 1) (((2 : Int32) + pd) + (1 : Int32))) : List Value) (93 : Int32) sf T11.heap n0 (own_sta_keep (own_sta_keep (own_sta_keep Scs Kc2 all0) Kc3 all0) Kc11 all0) Lx11 Lc11' Lv11 La11 (own_sta_keep (own_sta_keep (own_sta_keep Ssf Kc2 all0) Kc3 all0) Kc11 all0) hcs hsf (own_rel_j2 hrel) (own_rel_c2 hrel) (own_rel_g2 hrel) (by decide)) hZ (hw _ (List.mem_of_getElem? (i := 212) rfl)) (hw _ (List.mem_of_getElem? (i := 50) rfl)) (by decide) (by decide)) q16a q16c (g := (mkF m 198 #[iv pa, iv pb, iv pe, iv zv, iv zw, rv po_2, rv po_3, rv ra11, iv pd] [(.int (pd + (2 : Int32))), (.ref ra11)])) rfl (by rw [hml]; rfl) (Steps.refl _) (argsL := [(.int (pd + (2 : Int32)))]) (rest := []) (lenOf pd_21 rfl) rfl (by show 2 * 0 + _ ≤ _; exact Nat.le_of_eq rfl) (hb hby at_198) (fun _ _ => ⟨rfl, e15, (by decide : 12 + 0 ≤ _), (by decide : 74 + 0 ≤ _)⟩)
            dsimp only [Pt.U, Pt.locs, Pt.cells, Pt.slots] at X16 l16 y16 z16 st16 hQ16
            subst l16 y16 z16
            obtain ⟨rfl, N16q, e16⟩ := hQ16
            have N16 := Fr.app N15 N16q
            refine Go.pull (V := T16.setTop (mkF m 201 #[iv pa, iv pb, iv pe, iv zv, iv zw, rv po_2, rv po_3, rv ra11, iv pd] [(.int 93)])) (fun _ k => st16.trans k) ?_
            refine Go.pull (V := T16.setTop (mkF m 213 #[iv pa, iv pb, iv pe, iv zv, iv zw, rv po_2, rv po_3, rv ra11, iv pd] [(.int pd), (.int zv), (.ref ra11)])) (fun t k => XS.bipush X16.here hx rfl (hb hby at_201) (XS.icmpYes X16.here hx rfl (pc0 := 203) (pc' := 208) rfl (hb hby at_203) rfl (XT.ii_eq_t (by decide)) (by decide) (by decide) (XS.aload X16.here hx rfl (hb hby at_208) rfl rfl (XS.iloadN X16.here hx rfl (hb hby at_210) rfl  (XS.iload X16.here hx rfl (hb hby at_211) rfl  k))))) ?_
            refine Go.pull (V := T16.setTop (mkF m 214 #[iv pa, iv pb, iv pe, iv zv, iv zw, rv po_2, rv po_3, rv ra11, iv pd] [(.int 0), (.int pd), (.int zv), (.ref ra11)])) (fun t k => XS.iconst X16.here hx rfl (hb hby at_213) k) ?_
            obtain ⟨_, _, ⟨T17, L17, k17, n17⟩, -, X17, ⟨Lc17, hQ17, l17, y17, z17⟩, st17⟩ := Jvm.LawKit.callS X16 hx (y := (⟨"com/example/salish/salish/PlaceOfValuePinLaw", "digitOk", "(Ljava/lang/String;III)Z"⟩ : MethodName)) hown (mvT hZ (hw _ (List.mem_of_getElem? (i := 230) rfl))) (mvT hZ (hw _ (List.mem_of_getElem? (i := 231) rfl))) (mvT hZ (hw _ (List.mem_of_getElem? (i := 200) rfl))) (mvT hZ (hw _ (List.mem_of_getElem? (i := 232) rfl))) (by decide) (backOf (W := 0) (rmDk l Z a0 hw [] ra11 zv pd (0 : Int32) cs rb11 kb11 (((2 : Int32) + pd) + (1 : Int32)) ((own_cut (own_cp (own_cp own_L2 ls 2 pd) [.int 93] ((2 : Int32) + pd) 1) (((2 : Int32) + pd) + (1 : Int32))) : List Value) (own_dig zv (own_pow ((pd - (1 : Int32)) - (0 : Int32)))) sf T11.heap n0 (Nat.le_trans Z0 (K11).1) (own_sta_keep (own_sta_keep (own_sta_keep Scs Kc2 all0) Kc3 all0) Kc11 all0) Lx11 Lc11' Lv11 La11 (own_sta_keep (own_sta_keep (own_sta_keep Ssf Kc2 all0) Kc3 all0) Kc11 all0) hcs hsf (own_rel_k0 hrel)) hZ (hw _ (List.mem_of_getElem? (i := 232) rfl)) (hw _ (List.mem_of_getElem? (i := 200) rfl)) (by decide) (by decide)) (g := (mkF m 214 #[iv pa, iv pb, iv pe, iv zv, iv zw, rv po_2, rv po_3, rv ra11, iv pd] [(.int 0), (.int pd), (.int zv), (.ref ra11)])) rfl (by rw [hml]; rfl) (argsL := [(.ref ra11), (.int zv), (.int pd), (.int 0)]) (rest := []) (lenOf pd_27 rfl) rfl (by show 2 * 0 + _ ≤ _; exact Nat.le_of_eq rfl) (hb hby at_214) (fun _ _ => ⟨rfl, e16, (by decide : 12 + 1 ≤ _), (by decide : 74 + 10 ≤ _)⟩)
            dsimp only [Pt.U, Pt.locs, Pt.cells, Pt.slots] at X17 l17 y17 z17 st17 hQ17
            subst l17 y17 z17
            obtain ⟨rfl, N17q, Kc17⟩ := hQ17
            have K17 : Keep h0 T17.heap [] := K11.trans Kc17 (all0)
            have N17 := Fr.app N16 N17q
            refine Go.pull (V := T17.setTop (mkF m 217 #[iv pa, iv pb, iv pe, iv zv, iv zw, rv po_2, rv po_3, rv ra11, iv pd] [(.int 1)])) st17 ?_
            refine Go.pull (V := T17.setTop (mkF m 226 #[iv pa, iv pb, iv pe, iv zv, iv zw, rv po_2, rv po_3, rv ra11, iv pd] [(.int 1), (.int pd), (.int zv), (.ref ra11)])) (fun t k => XS.ifNo X17.here hx rfl (hb hby at_217) rfl (XT.i0_eq_f (by decide)) (XS.aload X17.here hx rfl (hb hby at_220) rfl rfl (XS.iloadN X17.here hx rfl (hb hby at_222) rfl  (XS.iload X17.here hx rfl (hb hby at_223) rfl  (XS.iconst X17.here hx rfl (hb hby at_225) k))))) ?_
            obtain ⟨_, _, ⟨T18, L18, k18, n18⟩, -, X18, ⟨Lc18, hQ18, l18, y18, z18⟩, st18⟩ := Jvm.LawKit.callS X17 hx (y := (⟨"com/example/salish/salish/PlaceOfValuePinLaw", "digitOk", "(Ljava/lang/String;III)Z"⟩ : MethodName)) hown (mvT hZ (hw _ (List.mem_of_getElem? (i := 230) rfl))) (mvT hZ (hw _ (List.mem_of_getElem? (i := 231) rfl))) (mvT hZ (hw _ (List.mem_of_getElem? (i := 200) rfl))) (mvT hZ (hw _ (List.mem_of_getElem? (i := 232) rfl))) (by decide) (backOf (W := 0) (rmDk l Z a0 hw [] ra11 zv pd (1 : Int32) cs rb11 kb11 (((2 : Int32) + pd) + (1 : Int32)) ((own_cut (own_cp (own_cp own_L2 ls 2 pd) [.int 93] ((2 : Int32) + pd) 1) (((2 : Int32) + pd) + (1 : Int32))) : List Value) (own_dig zv (own_pow ((pd - (1 : Int32)) - (1 : Int32)))) sf T17.heap n0 (Nat.le_trans Z0 (K17).1) (own_sta_keep (own_sta_keep (own_sta_keep (own_sta_keep Scs Kc2 all0) Kc3 all0) Kc11 all0) Kc17 all0) (Lx11.keep Kc17) (Lc11'.keep Kc17 nin0) (Lv11.keep Kc17 nin0) (La11.keep Kc17 nin0) (own_sta_keep (own_sta_keep (own_sta_keep (own_sta_keep Ssf Kc2 all0) Kc3 all0) Kc11 all0) Kc17 all0) hcs hsf (own_rel_k1 hrel)) hZ (hw _ (List.mem_of_getElem? (i := 232) rfl)) (hw _ (List.mem_of_getElem? (i := 200) rfl)) (by decide) (by decide)) (g := (mkF m 226 #[iv pa, iv pb, iv pe, iv zv, iv zw, rv po_2, rv po_3, rv ra11, iv pd] [(.int 1), (.int pd), (.int zv), (.ref ra11)])) rfl (by rw [hml]; rfl) (argsL := [(.ref ra11), (.int zv), (.int pd), (.int 1)]) (rest := []) (lenOf pd_27 rfl) rfl (by show 2 * 0 + _ ≤ _; exact Nat.le_of_eq rfl) (hb hby at_226) (fun _ _ => ⟨rfl, rfl, (by decide : 13 + 1 ≤ _), (by decide : 84 + 10 ≤ _)⟩)
            dsimp only [Pt.U, Pt.locs, Pt.cells, Pt.slots] at X18 l18 y18 z18 st18 hQ18
            subst l18 y18 z18
            obtain ⟨rfl, N18q, Kc18⟩ := hQ18
            have K18 : Keep h0 T18.heap [] := K17.trans Kc18 (all0)
            have N18 := Fr.app N17 N18q
            refine Go.pull (V := T18.setTop (mkF m 229 #[iv pa, iv pb, iv pe, iv zv, iv zw, rv po_2, rv po_3, rv ra11, iv pd] [(.int 1)])) st18 ?_
            refine Go.pull (V := T18.setTop (mkF m 238 #[iv pa, iv pb, iv pe, iv zv, iv zw, rv po_2, rv po_3, rv ra11, iv pd] [(.int 2), (.int pd), (.int zv), (.ref ra11)])) (fun t k => XS.ifNo X18.here hx rfl (hb hby at_229) rfl (XT.i0_eq_f (by decide)) (XS.aload X18.here hx rfl (hb hby at_232) rfl rfl (XS.iloadN X18.here hx rfl (hb hby at_234) rfl  (XS.iload X18.here hx rfl (hb hby at_235) rfl  (XS.iconst X18.here hx rfl (hb hby at_237) k))))) ?_
            obtain ⟨_, _, ⟨T19, L19, k19, n19⟩, -, X19, ⟨Lc19, hQ19, l19, y19, z19⟩, st19⟩ := Jvm.LawKit.callS X18 hx (y := (⟨"com/example/salish/salish/PlaceOfValuePinLaw", "digitOk", "(Ljava/lang/String;III)Z"⟩ : MethodName)) hown (mvT hZ (hw _ (List.mem_of_getElem? (i := 230) rfl))) (mvT hZ (hw _ (List.mem_of_getElem? (i := 231) rfl))) (mvT hZ (hw _ (List.mem_of_getElem? (i := 200) rfl))) (mvT hZ (hw _ (List.mem_of_getElem? (i := 232) rfl))) (by decide) (backOf (W := 0) (rmDk l Z a0 hw [] ra11 zv pd (2 : Int32) cs rb11 kb11 (((2 : Int32) + pd) + (1 : Int32)) ((own_cut (own_cp (own_cp own_L2 ls 2 pd) [.int 93] ((2 : Int32) + pd) 1) (((2 : Int32) + pd) + (1 : Int32))) : List Value) (own_dig zv (own_pow ((pd - (1 : Int32)) - (2 : Int32)))) sf T18.heap n0 (Nat.le_trans Z0 (K18).1) (own_sta_keep (own_sta_keep (own_sta_keep (own_sta_keep (own_sta_keep Scs Kc2 all0) Kc3 all0) Kc11 all0) Kc17 all0) Kc18 all0) ((Lx11.keep Kc17).keep Kc18) ((Lc11'.keep Kc17 nin0).keep Kc18 nin0) ((Lv11.keep Kc17 nin0).keep Kc18 nin0) ((La11.keep Kc17 nin0).keep Kc18 nin0) (own_sta_keep (own_sta_keep (own_sta_keep (own_sta_keep (own_sta_keep Ssf Kc2 all0) Kc3 all0) Kc11 all0) Kc17 all0) Kc18 all0) hcs hsf (own_rel_k2 hrel)) hZ (hw _ (List.mem_of_getElem? (i := 232) rfl)) (hw _ (List.mem_of_getElem? (i := 200) rfl)) (by decide) (by decide)) (g := (mkF m 238 #[iv pa, iv pb, iv pe, iv zv, iv zw, rv po_2, rv po_3, rv ra11, iv pd] [(.int 2), (.int pd), (.int zv), (.ref ra11)])) rfl (by rw [hml]; rfl) (argsL := [(.ref ra11), (.int zv), (.int pd), (.int 2)]) (rest := []) (lenOf pd_27 rfl) rfl (by show 2 * 0 + _ ≤ _; exact Nat.le_of_eq rfl) (hb hby at_238) (fun _ _ => ⟨rfl, rfl, (by decide : 14 + 1 ≤ _), (by decide : 94 + 10 ≤ _)⟩)
            dsimp only [Pt.U, Pt.locs, Pt.cells, Pt.slots] at X19 l19 y19 z19 st19 hQ19
            subst l19 y19 z19
            obtain ⟨rfl, N19q, Kc19⟩ := hQ19
            have K19 : Keep h0 T19.heap [] := K18.trans Kc19 (all0)
            have N19 := Fr.app N18 N19q
            refine Go.pull (V := T19.setTop (mkF m 241 #[iv pa, iv pb, iv pe, iv zv, iv zw, rv po_2, rv po_3, rv ra11, iv pd] [(.int 1)])) st19 ?_
            refine Go.pull (V := T19.setTop (mkF m 250 #[iv pa, iv pb, iv pe, iv zv, iv zw, rv po_2, rv po_3, rv ra11, iv pd] [(.int 3), (.int pd), (.int zv), (.ref ra11)])) (fun t k => XS.ifNo X19.here hx rfl (hb hby at_241) rfl (XT.i0_eq_f (by decide)) (XS.aload X19.here hx rfl (hb hby at_244) rfl rfl (XS.iloadN X19.here hx rfl (hb hby at_246) rfl  (XS.iload X19.here hx rfl (hb hby at_247) rfl  (XS.iconst X19.here hx rfl (hb hby at_249) k))))) ?_
            obtain ⟨_, _, ⟨T20, L20, k20, n20⟩, -, X20, ⟨Lc20, hQ20, l20, y20, z20⟩, st20⟩ := Jvm.LawKit.callS X19 hx (y := (⟨"com/example/salish/salish/PlaceOfValuePinLaw", "digitOk", "(Ljava/lang/String;III)Z"⟩ : MethodName)) hown (mvT hZ (hw _ (List.mem_of_getElem? (i := 230) rfl))) (mvT hZ (hw _ (List.mem_of_getElem? (i := 231) rfl))) (mvT hZ (hw _ (List.mem_of_getElem? (i := 200) rfl))) (mvT hZ (hw _ (List.mem_of_getElem? (i := 232) rfl))) (by decide) (backOf (W := 0) (rmDk l Z a0 hw [] ra11 zv pd (3 : Int32) cs rb11 kb11 (((2 : Int32) + pd) + (1 : Int32)) ((own_cut (own_cp (own_cp own_L2 ls 2 pd) [.int 93] ((2 : Int32) + pd) 1) (((2 : Int32) + pd) + (1 : Int32))) : List Value) (own_dig zv (own_pow ((pd - (1 : Int32)) - (3 : Int32)))) sf T19.heap n0 (Nat.le_trans Z0 (K19).1) (own_sta_keep (own_sta_keep (own_sta_keep (own_sta_keep (own_sta_keep (own_sta_keep Scs Kc2 all0) Kc3 all0) Kc11 all0) Kc17 all0) Kc18 all0) Kc19 all0) (((Lx11.keep Kc17).keep Kc18).keep Kc19) (((Lc11'.keep Kc17 nin0).keep Kc18 nin0).keep Kc19 nin0) (((Lv11.keep Kc17 nin0).keep Kc18 nin0).keep Kc19 nin0) (((La11.keep Kc17 nin0).keep Kc18 nin0).keep Kc19 nin0) (own_sta_keep (own_sta_keep (own_sta_keep (own_sta_keep (own_sta_keep (own_sta_keep Ssf Kc2 all0) Kc3 all0) Kc11 all0) Kc17 all0) Kc18 all0) Kc19 all0) hcs hsf (own_rel_k3 hrel)) hZ (hw _ (List.mem_of_getElem? (i := 232) rfl)) (hw _ (List.mem_of_getElem? (i := 200) rfl)) (by decide) (by decide)) (g := (mkF m 250 #[iv pa, iv pb, iv pe, iv zv, iv zw, rv po_2, rv po_3, rv ra11, iv pd] [(.int 3), (.int pd), (.int zv), (.ref ra11)])) rfl (by rw [hml]; rfl) (argsL := [(.ref ra11), (.int zv), (.int pd), (.int 3)]) (rest := []) (lenOf pd_27 rfl) rfl (by show 2 * 0 + _ ≤ _; exact Nat.le_of_eq rfl) (hb hby at_250) (fun _ _ => ⟨rfl, rfl, (by decide : 15 + 1 ≤ _), (by decide : 104 + 10 ≤ _)⟩)
            dsimp only [Pt.U, Pt.locs, Pt.cells, Pt.slots] at X20 l20 y20 z20 st20 hQ20
            subst l20 y20 z20
            obtain ⟨rfl, N20q, Kc20⟩ := hQ20
            have K20 : Keep h0 T20.heap [] := K19.trans Kc20 (all0)
            have N20 := Fr.app N19 N20q
            refine Go.pull (V := T20.setTop (mkF m 253 #[iv pa, iv pb, iv pe, iv zv, iv zw, rv po_2, rv po_3, rv ra11, iv pd] [(.int 1)])) st20 ?_
            refine Go.pull (V := T20.setTop (mkF m 262 #[iv pa, iv pb, iv pe, iv zv, iv zw, rv po_2, rv po_3, rv ra11, iv pd] [(.int 4), (.int pd), (.int zv), (.ref ra11)])) (fun t k => XS.ifNo X20.here hx rfl (hb hby at_253) rfl (XT.i0_eq_f (by decide)) (XS.aload X20.here hx rfl (hb hby at_256) rfl rfl (XS.iloadN X20.here hx rfl (hb hby at_258) rfl  (XS.iload X20.here hx rfl (hb hby at_259) rfl  (XS.iconst X20.here hx rfl (hb hby at_261) k))))) ?_
            obtain ⟨_, _, ⟨T21, L21, k21, n21⟩, -, X21, ⟨Lc21, hQ21, l21, y21, z21⟩, st21⟩ := Jvm.LawKit.callS X20 hx (y := (⟨"com/example/salish/salish/PlaceOfValuePinLaw", "digitOk", "(Ljava/lang/String;III)Z"⟩ : MethodName)) hown (mvT hZ (hw _ (List.mem_of_getElem? (i := 230) rfl))) (mvT hZ (hw _ (List.mem_of_getElem? (i := 231) rfl))) (mvT hZ (hw _ (List.mem_of_getElem? (i := 200) rfl))) (mvT hZ (hw _ (List.mem_of_getElem? (i := 232) rfl))) (by decide) (backOf (W := 0) (rmDk l Z a0 hw [] ra11 zv pd (4 : Int32) cs rb11 kb11 (((2 : Int32) + pd) + (1 : Int32)) ((own_cut (own_cp (own_cp own_L2 ls 2 pd) [.int 93] ((2 : Int32) + pd) 1) (((2 : Int32) + pd) + (1 : Int32))) : List Value) (own_dig zv (own_pow ((pd - (1 : Int32)) - (4 : Int32)))) sf T20.heap n0 (Nat.le_trans Z0 (K20).1) (own_sta_keep (own_sta_keep (own_sta_keep (own_sta_keep (own_sta_keep (own_sta_keep (own_sta_keep Scs Kc2 all0) Kc3 all0) Kc11 all0) Kc17 all0) Kc18 all0) Kc19 all0) Kc20 all0) ((((Lx11.keep Kc17).keep Kc18).keep Kc19).keep Kc20) ((((Lc11'.keep Kc17 nin0).keep Kc18 nin0).keep Kc19 nin0).keep Kc20 nin0) ((((Lv11.keep Kc17 nin0).keep Kc18 nin0).keep Kc19 nin0).keep Kc20 nin0) ((((La11.keep Kc17 nin0).keep Kc18 nin0).keep Kc19 nin0).keep Kc20 nin0) (own_sta_keep (own_sta_keep (own_sta_keep (own_sta_keep (own_sta_keep (own_sta_keep (own_sta_keep Ssf Kc2 all0) Kc3 all0) Kc11 all0) Kc17 all0) Kc18 all0) Kc19 all0) Kc20 all0) hcs hsf (own_rel_k4 hrel)) hZ (hw _ (List.mem_of_getElem? (i := 232) rfl)) (hw _ (List.mem_of_getElem? (i := 200) rfl)) (by decide) (by decide)) (g := (mkF m 262 #[iv pa, iv pb, iv pe, iv zv, iv zw, rv po_2, rv po_3, rv ra11, iv pd] [(.int 4), (.int pd), (.int zv), (.ref ra11)])) rfl (by rw [hml]; rfl) (argsL := [(.ref ra11), (.int zv), (.int pd), (.int 4)]) (rest := []) (lenOf pd_27 rfl) rfl (by show 2 * 0 + _ ≤ _; exact Nat.le_of_eq rfl) (hb hby at_262) (fun _ _ => ⟨rfl, rfl, (by decide : 16 + 1 ≤ _), (by decide : 114 + 10 ≤ _)⟩)
            dsimp only [Pt.U, Pt.locs, Pt.cells, Pt.slots] at X21 l21 y21 z21 st21 hQ21
            subst l21 y21 z21
            obtain ⟨rfl, N21q, Kc21⟩ := hQ21
            have K21 : Keep h0 T21.heap [] := K20.trans Kc21 (all0)
            have N21 := Fr.app N20 N21q
            refine Go.pull (V := T21.setTop (mkF m 265 #[iv pa, iv pb, iv pe, iv zv, iv zw, rv po_2, rv po_3, rv ra11, iv pd] [(.int 1)])) st21 ?_
            refine Go.pull (V := T21.setTop (mkF m 274 #[iv pa, iv pb, iv pe, iv zv, iv zw, rv po_2, rv po_3, rv ra11, iv pd] [(.int 5), (.int pd), (.int zv), (.ref ra11)])) (fun t k => XS.ifNo X21.here hx rfl (hb hby at_265) rfl (XT.i0_eq_f (by decide)) (XS.aload X21.here hx rfl (hb hby at_268) rfl rfl (XS.iloadN X21.here hx rfl (hb hby at_270) rfl  (XS.iload X21.here hx rfl (hb hby at_271) rfl  (XS.iconst X21.here hx rfl (hb hby at_273) k))))) ?_
            obtain ⟨_, _, ⟨T22, L22, k22, n22⟩, -, X22, ⟨Lc22, hQ22, l22, y22, z22⟩, st22⟩ := Jvm.LawKit.callS X21 hx (y := (⟨"com/example/salish/salish/PlaceOfValuePinLaw", "digitOk", "(Ljava/lang/String;III)Z"⟩ : MethodName)) hown (mvT hZ (hw _ (List.mem_of_getElem? (i := 230) rfl))) (mvT hZ (hw _ (List.mem_of_getElem? (i := 231) rfl))) (mvT hZ (hw _ (List.mem_of_getElem? (i := 200) rfl))) (mvT hZ (hw _ (List.mem_of_getElem? (i := 232) rfl))) (by decide) (backOf (W := 0) (rmDk l Z a0 hw [] ra11 zv pd (5 : Int32) cs rb11 kb11 (((2 : Int32) + pd) + (1 : Int32)) ((own_cut (own_cp (own_cp own_L2 ls 2 pd) [.int 93] ((2 : Int32) + pd) 1) (((2 : Int32) + pd) + (1 : Int32))) : List Value) (own_dig zv (own_pow ((pd - (1 : Int32)) - (5 : Int32)))) sf T21.heap n0 (Nat.le_trans Z0 (K21).1) (own_sta_keep (own_sta_keep (own_sta_keep (own_sta_keep (own_sta_keep (own_sta_keep (own_sta_keep (own_sta_keep Scs Kc2 all0) Kc3 all0) Kc11 all0) Kc17 all0) Kc18 all0) Kc19 all0) Kc20 all0) Kc21 all0) (((((Lx11.keep Kc17).keep Kc18).keep Kc19).keep Kc20).keep Kc21) (((((Lc11'.keep Kc17 nin0).keep Kc18 nin0).keep Kc19 nin0).keep Kc20 nin0).keep Kc21 nin0) (((((Lv11.keep Kc17 nin0).keep Kc18 nin0).keep Kc19 nin0).keep Kc20 nin0).keep Kc21 nin0) (((((La11.keep Kc17 nin0).keep Kc18 nin0).keep Kc19 nin0).keep Kc20 nin0).keep Kc21 nin0) (own_sta_keep (own_sta_keep (own_sta_keep (own_sta_keep (own_sta_keep (own_sta_keep (own_sta_keep (own_sta_keep Ssf Kc2 all0) Kc3 all0) Kc11 all0) Kc17 all0) Kc18 all0) Kc19 all0) Kc20 all0) Kc21 all0) hcs hsf (own_rel_k5 hrel)) hZ (hw _ (List.mem_of_getElem? (i := 232) rfl)) (hw _ (List.mem_of_getElem? (i := 200) rfl)) (by decide) (by decide)) (g := (mkF m 274 #[iv pa, iv pb, iv pe, iv zv, iv zw, rv po_2, rv po_3, rv ra11, iv pd] [(.int 5), (.int pd), (.int zv), (.ref ra11)])) rfl (by rw [hml]; rfl) (argsL := [(.ref ra11), (.int zv), (.int pd), (.int 5)]) (rest := []) (lenOf pd_27 rfl) rfl (by show 2 * 0 + _ ≤ _; exact Nat.le_of_eq rfl) (hb hby at_274) (fun _ _ => ⟨rfl, rfl, (by decide : 17 + 1 ≤ _), (by decide : 124 + 10 ≤ _)⟩)
            dsimp only [Pt.U, Pt.locs, Pt.cells, Pt.slots] at X22 l22 y22 z22 st22 hQ22
            subst l22 y22 z22
            obtain ⟨rfl, N22q, Kc22⟩ := hQ22
            have K22 : Keep h0 T22.heap [] := K21.trans Kc22 (all0)
            have N22 := Fr.app N21 N22q
            refine Go.pull (V := T22.setTop (mkF m 277 #[iv pa, iv pb, iv pe, iv zv, iv zw, rv po_2, rv po_3, rv ra11, iv pd] [(.int 1)])) st22 ?_
            refine Go.pull (V := T22.setTop (mkF m 287 #[iv pa, iv pb, iv pe, iv zv, iv zw, rv po_2, rv po_3, rv ra11, iv pd] [(.int 6), (.int pd), (.int zv), (.ref ra11)])) (fun t k => XS.ifNo X22.here hx rfl (hb hby at_277) rfl (XT.i0_eq_f (by decide)) (XS.aload X22.here hx rfl (hb hby at_280) rfl rfl (XS.iloadN X22.here hx rfl (hb hby at_282) rfl  (XS.iload X22.here hx rfl (hb hby at_283) rfl  (XS.bipush X22.here hx rfl (hb hby at_285) k))))) ?_
            obtain ⟨_, _, ⟨T23, L23, k23, n23⟩, -, X23, ⟨Lc23, hQ23, l23, y23, z23⟩, st23⟩ := Jvm.LawKit.callS X22 hx (y := (⟨"com/example/salish/salish/PlaceOfValuePinLaw", "digitOk", "(Ljava/lang/String;III)Z"⟩ : MethodName)) hown (mvT hZ (hw _ (List.mem_of_getElem? (i := 230) rfl))) (mvT hZ (hw _ (List.mem_of_getElem? (i := 231) rfl))) (mvT hZ (hw _ (List.mem_of_getElem? (i := 200) rfl))) (mvT hZ (hw _ (List.mem_of_getElem? (i := 232) rfl))) (by decide) (backOf (W := 0) (rmDk l Z a0 hw [] ra11 zv pd (6 : Int32) cs rb11 kb11 (((2 : Int32) + pd) + (1 : Int32)) ((own_cut (own_cp (own_cp own_L2 ls 2 pd) [.int 93] ((2 : Int32) + pd) 1) (((2 : Int32) + pd) + (1 : Int32))) : List Value) (own_dig zv (own_pow ((pd - (1 : Int32)) - (6 : Int32)))) sf T22.heap n0 (Nat.le_trans Z0 (K22).1) (own_sta_keep (own_sta_keep (own_sta_keep (own_sta_keep (own_sta_keep (own_sta_keep (own_sta_keep (own_sta_keep (own_sta_keep Scs Kc2 all0) Kc3 all0) Kc11 all0) Kc17 all0) Kc18 all0) Kc19 all0) Kc20 all0) Kc21 all0) Kc22 all0) ((((((Lx11.keep Kc17).keep Kc18).keep Kc19).keep Kc20).keep Kc21).keep Kc22) ((((((Lc11'.keep Kc17 nin0).keep Kc18 nin0).keep Kc19 nin0).keep Kc20 nin0).keep Kc21 nin0).keep Kc22 nin0) ((((((Lv11.keep Kc17 nin0).keep Kc18 nin0).keep Kc19 nin0).keep Kc20 nin0).keep Kc21 nin0).keep Kc22 nin0) ((((((La11.keep Kc17 nin0).keep Kc18 nin0).keep Kc19 nin0).keep Kc20 nin0).keep Kc21 nin0).keep Kc22 nin0) (own_sta_keep (own_sta_keep (own_sta_keep (own_sta_keep (own_sta_keep (own_sta_keep (own_sta_keep (own_sta_keep (own_sta_keep Ssf Kc2 all0) Kc3 all0) Kc11 all0) Kc17 all0) Kc18 all0) Kc19 all0) Kc20 all0) Kc21 all0) Kc22 all0) hcs hsf (own_rel_k6 hrel)) hZ (hw _ (List.mem_of_getElem? (i := 232) rfl)) (hw _ (List.mem_of_getElem? (i := 200) rfl)) (by decide) (by decide)) (g := (mkF m 287 #[iv pa, iv pb, iv pe, iv zv, iv zw, rv po_2, rv po_3, rv ra11, iv pd] [(.int 6), (.int pd), (.int zv), (.ref ra11)])) rfl (by rw [hml]; rfl) (argsL := [(.ref ra11), (.int zv), (.int pd), (.int 6)]) (rest := []) (lenOf pd_27 rfl) rfl (by show 2 * 0 + _ ≤ _; exact Nat.le_of_eq rfl) (hb hby at_287) (fun _ _ => ⟨rfl, rfl, (by decide : 18 + 1 ≤ _), (by decide : 134 + 10 ≤ _)⟩)
            dsimp only [Pt.U, Pt.locs, Pt.cells, Pt.slots] at X23 l23 y23 z23 st23 hQ23
            subst l23 y23 z23
            obtain ⟨rfl, N23q, Kc23⟩ := hQ23
            have K23 : Keep h0 T23.heap [] := K22.trans Kc23 (all0)
            have N23 := Fr.app N22 N23q
            refine Go.pull (V := T23.setTop (mkF m 290 #[iv pa, iv pb, iv pe, iv zv, iv zw, rv po_2, rv po_3, rv ra11, iv pd] [(.int 1)])) st23 ?_
            refine Go.pull (V := T23.setTop (mkF m 300 #[iv pa, iv pb, iv pe, iv zv, iv zw, rv po_2, rv po_3, rv ra11, iv pd] [(.int 7), (.int pd), (.int zv), (.ref ra11)])) (fun t k => XS.ifNo X23.here hx rfl (hb hby at_290) rfl (XT.i0_eq_f (by decide)) (XS.aload X23.here hx rfl (hb hby at_293) rfl rfl (XS.iloadN X23.here hx rfl (hb hby at_295) rfl  (XS.iload X23.here hx rfl (hb hby at_296) rfl  (XS.bipush X23.here hx rfl (hb hby at_298) k))))) ?_
            obtain ⟨_, _, ⟨T24, L24, k24, n24⟩, -, X24, ⟨Lc24, hQ24, l24, y24, z24⟩, st24⟩ := Jvm.LawKit.callS X23 hx (y := (⟨"com/example/salish/salish/PlaceOfValuePinLaw", "digitOk", "(Ljava/lang/String;III)Z"⟩ : MethodName)) hown (mvT hZ (hw _ (List.mem_of_getElem? (i := 230) rfl))) (mvT hZ (hw _ (List.mem_of_getElem? (i := 231) rfl))) (mvT hZ (hw _ (List.mem_of_getElem? (i := 200) rfl))) (mvT hZ (hw _ (List.mem_of_getElem? (i := 232) rfl))) (by decide) (backOf (W := 0) (rmDk l Z a0 hw [] ra11 zv pd (7 : Int32) cs rb11 kb11 (((2 : Int32) + pd) + (1 : Int32)) ((own_cut (own_cp (own_cp own_L2 ls 2 pd) [.int 93] ((2 : Int32) + pd) 1) (((2 : Int32) + pd) + (1 : Int32))) : List Value) (own_dig zv (own_pow ((pd - (1 : Int32)) - (7 : Int32)))) sf T23.heap n0 (Nat.le_trans Z0 (K23).1) (own_sta_keep (own_sta_keep (own_sta_keep (own_sta_keep (own_sta_keep (own_sta_keep (own_sta_keep (own_sta_keep (own_sta_keep (own_sta_keep Scs Kc2 all0) Kc3 all0) Kc11 all0) Kc17 all0) Kc18 all0) Kc19 all0) Kc20 all0) Kc21 all0) Kc22 all0) Kc23 all0) (((((((Lx11.keep Kc17).keep Kc18).keep Kc19).keep Kc20).keep Kc21).keep Kc22).keep Kc23) (((((((Lc11'.keep Kc17 nin0).keep Kc18 nin0).keep Kc19 nin0).keep Kc20 nin0).keep Kc21 nin0).keep Kc22 nin0).keep Kc23 nin0) (((((((Lv11.keep Kc17 nin0).keep Kc18 nin0).keep Kc19 nin0).keep Kc20 nin0).keep Kc21 nin0).keep Kc22 nin0).keep Kc23 nin0) (((((((La11.keep Kc17 nin0).keep Kc18 nin0).keep Kc19 nin0).keep Kc20 nin0).keep Kc21 nin0).keep Kc22 nin0).keep Kc23 nin0) (own_sta_keep (own_sta_keep (own_sta_keep (own_sta_keep (own_sta_keep (own_sta_keep (own_sta_keep (own_sta_keep (own_sta_keep (own_sta_keep Ssf Kc2 all0) Kc3 all0) Kc11 all0) Kc17 all0) Kc18 all0) Kc19 all0) Kc20 all0) Kc21 all0) Kc22 all0) Kc23 all0) hcs hsf (own_rel_k7 hrel)) hZ (hw _ (List.mem_of_getElem? (i := 232) rfl)) (hw _ (List.mem_of_getElem? (i := 200) rfl)) (by decide) (by decide)) (g := (mkF m 300 #[iv pa, iv pb, iv pe, iv zv, iv zw, rv po_2, rv po_3, rv ra11, iv pd] [(.int 7), (.int pd), (.int zv), (.ref ra11)])) rfl (by rw [hml]; rfl) (argsL := [(.ref ra11), (.int zv), (.int pd), (.int 7)]) (rest := []) (lenOf pd_27 rfl) rfl (by show 2 * 0 + _ ≤ _; exact Nat.le_of_eq rfl) (hb hby at_300) (fun _ _ => ⟨rfl, rfl, (by decide : 19 + 1 ≤ _), (by decide : 144 + 10 ≤ _)⟩)
            dsimp only [Pt.U, Pt.locs, Pt.cells, Pt.slots] at X24 l24 y24 z24 st24 hQ24
            subst l24 y24 z24
            obtain ⟨rfl, N24q, Kc24⟩ := hQ24
            have K24 : Keep h0 T24.heap [] := K23.trans Kc24 (all0)
            have N24 := Fr.app N23 N24q
            refine Go.pull (V := T24.setTop (mkF m 303 #[iv pa, iv pb, iv pe, iv zv, iv zw, rv po_2, rv po_3, rv ra11, iv pd] [(.int 1)])) st24 ?_
            refine Go.pull (V := T24.setTop (mkF m 313 #[iv pa, iv pb, iv pe, iv zv, iv zw, rv po_2, rv po_3, rv ra11, iv pd] [(.int 8), (.int pd), (.int zv), (.ref ra11)])) (fun t k => XS.ifNo X24.here hx rfl (hb hby at_303) rfl (XT.i0_eq_f (by decide)) (XS.aload X24.here hx rfl (hb hby at_306) rfl rfl (XS.iloadN X24.here hx rfl (hb hby at_308) rfl  (XS.iload X24.here hx rfl (hb hby at_309) rfl  (XS.bipush X24.here hx rfl (hb hby at_311) k))))) ?_
            obtain ⟨_, _, ⟨T25, L25, k25, n25⟩, -, X25, ⟨Lc25, hQ25, l25, y25, z25⟩, st25⟩ := Jvm.LawKit.callS X24 hx (y := (⟨"com/example/salish/salish/PlaceOfValuePinLaw", "digitOk", "(Ljava/lang/String;III)Z"⟩ : MethodName)) hown (mvT hZ (hw _ (List.mem_of_getElem? (i := 230) rfl))) (mvT hZ (hw _ (List.mem_of_getElem? (i := 231) rfl))) (mvT hZ (hw _ (List.mem_of_getElem? (i := 200) rfl))) (mvT hZ (hw _ (List.mem_of_getElem? (i := 232) rfl))) (by decide) (backOf (W := 0) (rmDk l Z a0 hw [] ra11 zv pd (8 : Int32) cs rb11 kb11 (((2 : Int32) + pd) + (1 : Int32)) ((own_cut (own_cp (own_cp own_L2 ls 2 pd) [.int 93] ((2 : Int32) + pd) 1) (((2 : Int32) + pd) + (1 : Int32))) : List Value) (own_dig zv (own_pow ((pd - (1 : Int32)) - (8 : Int32)))) sf T24.heap n0 (Nat.le_trans Z0 (K24).1) (own_sta_keep (own_sta_keep (own_sta_keep (own_sta_keep (own_sta_keep (own_sta_keep (own_sta_keep (own_sta_keep (own_sta_keep (own_sta_keep (own_sta_keep Scs Kc2 all0) Kc3 all0) Kc11 all0) Kc17 all0) Kc18 all0) Kc19 all0) Kc20 all0) Kc21 all0) Kc22 all0) Kc23 all0) Kc24 all0) ((((((((Lx11.keep Kc17).keep Kc18).keep Kc19).keep Kc20).keep Kc21).keep Kc22).keep Kc23).keep Kc24) ((((((((Lc11'.keep Kc17 nin0).keep Kc18 nin0).keep Kc19 nin0).keep Kc20 nin0).keep Kc21 nin0).keep Kc22 nin0).keep Kc23 nin0).keep Kc24 nin0) ((((((((Lv11.keep Kc17 nin0).keep Kc18 nin0).keep Kc19 nin0).keep Kc20 nin0).keep Kc21 nin0).keep Kc22 nin0).keep Kc23 nin0).keep Kc24 nin0) ((((((((La11.keep Kc17 nin0).keep Kc18 nin0).keep Kc19 nin0).keep Kc20 nin0).keep Kc21 nin0).keep Kc22 nin0).keep Kc23 nin0).keep Kc24 nin0) (own_sta_keep (own_sta_keep (own_sta_keep (own_sta_keep (own_sta_keep (own_sta_keep (own_sta_keep (own_sta_keep (own_sta_keep (own_sta_keep (own_sta_keep Ssf Kc2 all0) Kc3 all0) Kc11 all0) Kc17 all0) Kc18 all0) Kc19 all0) Kc20 all0) Kc21 all0) Kc22 all0) Kc23 all0) Kc24 all0) hcs hsf (own_rel_k8 hrel)) hZ (hw _ (List.mem_of_getElem? (i := 232) rfl)) (hw _ (List.mem_of_getElem? (i := 200) rfl)) (by decide) (by decide)) (g := (mkF m 313 #[iv pa, iv pb, iv pe, iv zv, iv zw, rv po_2, rv po_3, rv ra11, iv pd] [(.int 8), (.int pd), (.int zv), (.ref ra11)])) rfl (by rw [hml]; rfl) (argsL := [(.ref ra11), (.int zv), (.int pd), (.int 8)]) (rest := []) (lenOf pd_27 rfl) rfl (by show 2 * 0 + _ ≤ _; exact Nat.le_of_eq rfl) (hb hby at_313) (fun _ _ => ⟨rfl, rfl, (by decide : 20 + 1 ≤ _), (by decide : 154 + 10 ≤ _)⟩)
            dsimp only [Pt.U, Pt.locs, Pt.cells, Pt.slots] at X25 l25 y25 z25 st25 hQ25
            subst l25 y25 z25
            obtain ⟨rfl, N25q, Kc25⟩ := hQ25
            have K25 : Keep h0 T25.heap [] := K24.trans Kc25 (all0)
            have N25 := Fr.app N24 N25q
            refine Go.pull (V := T25.setTop (mkF m 316 #[iv pa, iv pb, iv pe, iv zv, iv zw, rv po_2, rv po_3, rv ra11, iv pd] [(.int 1)])) st25 ?_
            refine Go.pull (V := T25.setTop (mkF m 326 #[iv pa, iv pb, iv pe, iv zv, iv zw, rv po_2, rv po_3, rv ra11, iv pd] [(.int 9), (.int pd), (.int zv), (.ref ra11)])) (fun t k => XS.ifNo X25.here hx rfl (hb hby at_316) rfl (XT.i0_eq_f (by decide)) (XS.aload X25.here hx rfl (hb hby at_319) rfl rfl (XS.iloadN X25.here hx rfl (hb hby at_321) rfl  (XS.iload X25.here hx rfl (hb hby at_322) rfl  (XS.bipush X25.here hx rfl (hb hby at_324) k))))) ?_
            obtain ⟨_, _, ⟨T26, L26, k26, n26⟩, -, X26, ⟨Lc26, hQ26, l26, y26, z26⟩, st26⟩ := Jvm.LawKit.callS X25 hx (y := (⟨"com/example/salish/salish/PlaceOfValuePinLaw", "digitOk", "(Ljava/lang/String;III)Z"⟩ : MethodName)) hown (mvT hZ (hw _ (List.mem_of_getElem? (i := 230) rfl))) (mvT hZ (hw _ (List.mem_of_getElem? (i := 231) rfl))) (mvT hZ (hw _ (List.mem_of_getElem? (i := 200) rfl))) (mvT hZ (hw _ (List.mem_of_getElem? (i := 232) rfl))) (by decide) (backOf (W := 0) (rmDk l Z a0 hw [] ra11 zv pd (9 : Int32) cs rb11 kb11 (((2 : Int32) + pd) + (1 : Int32)) ((own_cut (own_cp (own_cp own_L2 ls 2 pd) [.int 93] ((2 : Int32) + pd) 1) (((2 : Int32) + pd) + (1 : Int32))) : List Value) (own_dig zv (own_pow ((pd - (1 : Int32)) - (9 : Int32)))) sf T25.heap n0 (Nat.le_trans Z0 (K25).1) (own_sta_keep (own_sta_keep (own_sta_keep (own_sta_keep (own_sta_keep (own_sta_keep (own_sta_keep (own_sta_keep (own_sta_keep (own_sta_keep (own_sta_keep (own_sta_keep Scs Kc2 all0) Kc3 all0) Kc11 all0) Kc17 all0) Kc18 all0) Kc19 all0) Kc20 all0) Kc21 all0) Kc22 all0) Kc23 all0) Kc24 all0) Kc25 all0) (((((((((Lx11.keep Kc17).keep Kc18).keep Kc19).keep Kc20).keep Kc21).keep Kc22).keep Kc23).keep Kc24).keep Kc25) (((((((((Lc11'.keep Kc17 nin0).keep Kc18 nin0).keep Kc19 nin0).keep Kc20 nin0).keep Kc21 nin0).keep Kc22 nin0).keep Kc23 nin0).keep Kc24 nin0).keep Kc25 nin0) (((((((((Lv11.keep Kc17 nin0).keep Kc18 nin0).keep Kc19 nin0).keep Kc20 nin0).keep Kc21 nin0).keep Kc22 nin0).keep Kc23 nin0).keep Kc24 nin0).keep Kc25 nin0) (((((((((La11.keep Kc17 nin0).keep Kc18 nin0).keep Kc19 nin0).keep Kc20 nin0).keep Kc21 nin0).keep Kc22 nin0).keep Kc23 nin0).keep Kc24 nin0).keep Kc25 nin0) (own_sta_keep (own_sta_keep (own_sta_keep (own_sta_keep (own_sta_keep (own_sta_keep (own_sta_keep (own_sta_keep (own_sta_keep (own_sta_keep (own_sta_keep (own_sta_keep Ssf Kc2 all0) Kc3 all0) Kc11 all0) Kc17 all0) Kc18 all0) Kc19 all0) Kc20 all0) Kc21 all0) Kc22 all0) Kc23 all0) Kc24 all0) Kc25 all0) hcs hsf (own_rel_k9 hrel)) hZ (hw _ (List.mem_of_getElem? (i := 232) rfl)) (hw _ (List.mem_of_getElem? (i := 200) rfl)) (by decide) (by decide)) (g := (mkF m 326 #[iv pa, iv pb, iv pe, iv zv, iv zw, rv po_2, rv po_3, rv ra11, iv pd] [(.int 9), (.int pd), (.int zv), (.ref ra11)])) rfl (by rw [hml]; rfl) (argsL := [(.ref ra11), (.int zv), (.int pd), (.int 9)]) (rest := []) (lenOf pd_27 rfl) rfl (by show 2 * 0 + _ ≤ _; exact Nat.le_of_eq rfl) (hb hby at_326) (fun _ _ => ⟨rfl, rfl, (by decide : 21 + 1 ≤ _), (by decide : 164 + 10 ≤ _)⟩)
            dsimp only [Pt.U, Pt.locs, Pt.cells, Pt.slots] at X26 l26 y26 z26 st26 hQ26
            subst l26 y26 z26
            obtain ⟨rfl, N26q, Kc26⟩ := hQ26
            have K26 : Keep h0 T26.heap [] := K25.trans Kc26 (all0)
            have N26 := Fr.app N25 N26q
            refine Go.pull (V := T26.setTop (mkF m 329 #[iv pa, iv pb, iv pe, iv zv, iv zw, rv po_2, rv po_3, rv ra11, iv pd] [(.int 1)])) st26 ?_
            refine Go.pull (V := T26.setTop (mkF m 337 #[iv pa, iv pb, iv pe, iv zv, iv zw, rv po_2, rv po_3, rv ra11, iv pd] [(.int 1)])) (fun t k => XS.ifNo X26.here hx rfl (hb hby at_329) rfl (XT.i0_eq_f (by decide)) (XS.iconst X26.here hx rfl (hb hby at_332) (XS.goto X26.here hx rfl (pc0 := 333) (pc' := 337) rfl (hb hby at_333) (by decide) (by decide) k))) ?_
            exact Go.retN X26 hx Bd.notSynchronized (t := .boolean) Bd.returns (by simp) (hb hby at_337) ⟨⟨rfl, N26⟩, by exact (Nat.le_trans (Nat.le_trans (Nat.le_trans (Nat.le_trans (Nat.le_trans (Nat.le_trans (Nat.le_trans (Nat.le_trans (Nat.le_trans (Nat.le_trans hkN Kc17.1) Kc18.1) Kc19.1) Kc20.1) Kc21.1) Kc22.1) Kc23.1) Kc24.1) Kc25.1) Kc26.1)⟩ (by decide) (by decide)
        refine GoW.pull (V := Tj_106.setTop (mkF m 108 #[iv pa, iv pb, iv pe, iv zv, iv zw, rv po_2, rv po_3, .unset, .unset] [(.ref po_2)])) (fun t k => XS.aload Xj_106.here hx rfl (hb hby at_106) rfl rfl k) ?_
        obtain ⟨T27, X27, e27, st27⟩ := getS2 Xj_106 hx hZ hown (host := "") (Or.inl (hw _ (List.mem_of_getElem? (i := 38) rfl))) Via.refl ej_106 (own_sta_keep (own_sta_keep Sdoc Kc2 all0) Kc3 all0) (g := (mkF m 108 #[iv pa, iv pb, iv pe, iv zv, iv zw, rv po_2, rv po_3, .unset, .unset] [(.ref po_2)])) rfl (hb hby at_108)
        refine GoW.pull (V := T27.setTop (mkF m 111 #[iv pa, iv pb, iv pe, iv zv, iv zw, rv po_2, rv po_3, .unset, .unset] [(.ref rdoc), (.ref po_2)])) st27 ?_
        obtain ⟨cq28, kq28, q28a, q28b, q28c⟩ := isOf hZ e27 (Fc2_0.keep Kc3)
        obtain ⟨_, _, ⟨T28, L28, k28, n28⟩, -, X28, ⟨Lc28, hQ28, l28, y28, z28⟩, st28⟩ := X27.virtualBack hx (y := (⟨"com/example/salish/salish/SchemaFault$Place", "equals", "(Ljava/lang/Object;)Z"⟩ : MethodName)) (z := (⟨"com/example/salish/salish/SchemaFault$Place", "equals", "(Ljava/lang/Object;)Z"⟩ : MethodName)) hown (mvT hZ (hw _ (List.mem_of_getElem? (i := 32) rfl))) (mvT hZ (hw _ (List.mem_of_getElem? (i := 33) rfl))) (notFace_of_selects (args := #[]) (mvT hZ (hw _ (List.mem_of_getElem? (i := 35) rfl)))) (mvT hZ (hw _ (List.mem_of_getElem? (i := 35) rfl))) (mvT hZ (hw _ (List.mem_of_getElem? (i := 34) rfl))) (by decide) (backOf (W := 0) (rmPe l Z a0 hw [] po_2 rdoc zv (-1 : Int32) T3.heap n0 (Fc2_0.keep Kc3) (Fc2_1.keep Kc3 nin0) (Fc2_2.keep Kc3 nin0) (Fc2_3.keep Kc3 nin0) (Fc2_4.keep Kc3 nin0) ((Edoc.keep Kc2).keep Kc3) ((Fvdoc.keep Kc2 nin0).keep Kc3 nin0) ((Ftdoc.keep Kc2 nin0).keep Kc3 nin0) ((Ffdoc.keep Kc2 nin0).keep Kc3 nin0) ((Fndoc.keep Kc2 nin0).keep Kc3 nin0)) hZ (hw _ (List.mem_of_getElem? (i := 36) rfl)) (hw _ (List.mem_of_getElem? (i := 2) rfl)) (by decide) (by decide)) q28a q28c (g := (mkF m 111 #[iv pa, iv pb, iv pe, iv zv, iv zw, rv po_2, rv po_3, .unset, .unset] [(.ref rdoc), (.ref po_2)])) rfl (by rw [hml]; rfl) (Steps.refl _) (argsL := [(.ref rdoc)]) (rest := []) (lenOf pd_28 rfl) rfl (by show 2 * 0 + _ ≤ _; exact Nat.le_of_eq rfl) (hb hby at_111) (fun _ _ => ⟨rfl, e27, (by decide : 2 + 0 ≤ _), (by decide : 10 + 0 ≤ _)⟩)
        dsimp only [Pt.U, Pt.locs, Pt.cells, Pt.slots] at X28 l28 y28 z28 st28 hQ28
        subst l28 y28 z28
        obtain ⟨rfl, N28q, e28⟩ := hQ28
        have N28 := Fr.app Nj_106 N28q
        refine GoW.pull (V := T28.setTop (mkF m 114 #[iv pa, iv pb, iv pe, iv zv, iv zw, rv po_2, rv po_3, .unset, .unset] [(.int (own_eqv zv (-1 : Int32)))])) (fun _ k => st28.trans k) ?_
        refine GoW.pull (V := T28.setTop (mkF m 116 #[iv pa, iv pb, iv pe, iv zv, iv zw, rv po_2, rv po_3, .unset, .unset] [(.int (-1)), (.int zv), (.int (own_eqv zv (-1 : Int32)))])) (fun t k => XS.iloadN X28.here hx rfl (hb hby at_114) rfl  (XS.iconst X28.here hx rfl (hb hby at_115) k)) ?_
        by_cases hc116_29 : zv = (-1 : Int32)
        · skip
          refine GoW.pull (V := T28.setTop (mkF m 129 #[iv pa, iv pb, iv pe, iv zv, iv zw, rv po_2, rv po_3, .unset, .unset] [])) (fun t k => XS.icmpNo X28.here hx rfl (hb hby at_116) rfl (XT.ii_ne_f hc116_29) (XS.iconst X28.here hx rfl (hb hby at_119) (XS.goto X28.here hx rfl (pc0 := 120) (pc' := 124) rfl (hb hby at_120) (by decide) (by decide) (XS.icmpYes X28.here hx rfl (pc0 := 124) (pc' := 129) rfl (hb hby at_124) rfl (XT.ii_eq_t (by rw [own_eqv, if_pos hc116_29] <;> rfl)) (by decide) (by decide) k)))) ?_
          exact J129_8 T28 _ X28 e28 N28  
        · skip
          refine GoW.pull (V := T28.setTop (mkF m 129 #[iv pa, iv pb, iv pe, iv zv, iv zw, rv po_2, rv po_3, .unset, .unset] [])) (fun t k => XS.icmpYes X28.here hx rfl (pc0 := 116) (pc' := 123) rfl (hb hby at_116) rfl (XT.ii_ne_t hc116_29) (by decide) (by decide) (XS.iconst X28.here hx rfl (hb hby at_123) (XS.icmpYes X28.here hx rfl (pc0 := 124) (pc' := 129) rfl (hb hby at_124) rfl (XT.ii_eq_t (by rw [own_eqv, if_neg hc116_29] <;> rfl)) (by decide) (by decide) k))) ?_
          exact J129_8 T28 _ X28 e28 N28  
      refine GoW.pull (V := Tj_83.setTop (mkF m 87 #[iv pa, iv pb, iv pe, iv zv, iv zw, rv po_2, rv po_3, .unset, .unset] [(.ref po_2), (.ref po_3)])) (fun t k => XS.aload Xj_83.here hx rfl (hb hby at_83) rfl rfl (XS.aload Xj_83.here hx rfl (hb hby at_85) rfl rfl k)) ?_
      obtain ⟨cq30, kq30, q30a, q30b, q30c⟩ := isOf hZ ej_83 Fc3_0
      obtain ⟨_, _, ⟨T30, L30, k30, n30⟩, -, X30, ⟨Lc30, hQ30, l30, y30, z30⟩, st30⟩ := Xj_83.virtualBack hx (y := (⟨"com/example/salish/salish/SchemaFault$Place", "equals", "(Ljava/lang/Object;)Z"⟩ : MethodName)) (z := (⟨"com/example/salish/salish/SchemaFault$Place", "equals", "(Ljava/lang/Object;)Z"⟩ : MethodName)) hown (mvT hZ (hw _ (List.mem_of_getElem? (i := 32) rfl))) (mvT hZ (hw _ (List.mem_of_getElem? (i := 33) rfl))) (notFace_of_selects (args := #[]) (mvT hZ (hw _ (List.mem_of_getElem? (i := 35) rfl)))) (mvT hZ (hw _ (List.mem_of_getElem? (i := 35) rfl))) (mvT hZ (hw _ (List.mem_of_getElem? (i := 34) rfl))) (by decide) (backOf (W := 0) (rmPe l Z a0 hw [] po_3 po_2 zw zv T3.heap n0 Fc3_0 Fc3_1 Fc3_2 Fc3_3 Fc3_4 (Fc2_0.keep Kc3) (Fc2_1.keep Kc3 nin0) (Fc2_2.keep Kc3 nin0) (Fc2_3.keep Kc3 nin0) (Fc2_4.keep Kc3 nin0)) hZ (hw _ (List.mem_of_getElem? (i := 36) rfl)) (hw _ (List.mem_of_getElem? (i := 2) rfl)) (by decide) (by decide)) q30a q30c (g := (mkF m 87 #[iv pa, iv pb, iv pe, iv zv, iv zw, rv po_2, rv po_3, .unset, .unset] [(.ref po_2), (.ref po_3)])) rfl (by rw [hml]; rfl) (Steps.refl _) (argsL := [(.ref po_2)]) (rest := []) (lenOf pd_28 rfl) rfl (by show 2 * 0 + _ ≤ _; exact Nat.le_of_eq rfl) (hb hby at_87) (fun _ _ => ⟨rfl, ej_83, (by decide : 2 + 0 ≤ _), (by decide : 10 + 0 ≤ _)⟩)
      dsimp only [Pt.U, Pt.locs, Pt.cells, Pt.slots] at X30 l30 y30 z30 st30 hQ30
      subst l30 y30 z30
      obtain ⟨rfl, N30q, e30⟩ := hQ30
      have N30 := Fr.app Nj_83 N30q
      refine GoW.pull (V := T30.setTop (mkF m 90 #[iv pa, iv pb, iv pe, iv zv, iv zw, rv po_2, rv po_3, .unset, .unset] [(.int (own_eqv zw zv))])) (fun _ k => st30.trans k) ?_
      refine GoW.pull (V := T30.setTop (mkF m 93 #[iv pa, iv pb, iv pe, iv zv, iv zw, rv po_2, rv po_3, .unset, .unset] [(.int zw), (.int zv), (.int (own_eqv zw zv))])) (fun t k => XS.iloadN X30.here hx rfl (hb hby at_90) rfl  (XS.iload X30.here hx rfl (hb hby at_91) rfl  k)) ?_
      by_cases hc93_31 : zv = zw
      · skip
        refine GoW.pull (V := T30.setTop (mkF m 106 #[iv pa, iv pb, iv pe, iv zv, iv zw, rv po_2, rv po_3, .unset, .unset] [])) (fun t k => XS.icmpNo X30.here hx rfl (hb hby at_93) rfl (XT.ii_ne_f hc93_31) (XS.iconst X30.here hx rfl (hb hby at_96) (XS.goto X30.here hx rfl (pc0 := 97) (pc' := 101) rfl (hb hby at_97) (by decide) (by decide) (XS.icmpYes X30.here hx rfl (pc0 := 101) (pc' := 106) rfl (hb hby at_101) rfl (XT.ii_eq_t (by rw [own_eqv, if_pos (Eq.symm hc93_31)] <;> rfl)) (by decide) (by decide) k)))) ?_
        exact J106_7 T30 _ X30 e30 N30  
      · skip
        refine GoW.pull (V := T30.setTop (mkF m 106 #[iv pa, iv pb, iv pe, iv zv, iv zw, rv po_2, rv po_3, .unset, .unset] [])) (fun t k => XS.icmpYes X30.here hx rfl (pc0 := 93) (pc' := 100) rfl (hb hby at_93) rfl (XT.ii_ne_t hc93_31) (by decide) (by decide) (XS.iconst X30.here hx rfl (hb hby at_100) (XS.icmpYes X30.here hx rfl (pc0 := 101) (pc' := 106) rfl (hb hby at_101) rfl (XT.ii_eq_t (by rw [own_eqv, if_neg (fun q => hc93_31 q.symm)] <;> rfl)) (by decide) (by decide) k))) ?_
        exact J106_7 T30 _ X30 e30 N30  
    refine GoW.pull (V := T5.setTop (mkF m 64 #[iv pa, iv pb, iv pe, iv zv, iv zw, rv po_2, rv po_3, .unset, .unset] [(.ref po_3), (.ref po_2)])) (fun t k => XS.aload X5.here hx rfl (hb hby at_60) rfl rfl (XS.aload X5.here hx rfl (hb hby at_62) rfl rfl k)) ?_
    obtain ⟨cq32, kq32, q32a, q32b, q32c⟩ := isOf hZ e5 (Fc2_0.keep Kc3)
    obtain ⟨_, _, ⟨T32, L32, k32, n32⟩, -, X32, ⟨Lc32, hQ32, l32, y32, z32⟩, st32⟩ := X5.virtualBack hx (y := (⟨"com/example/salish/salish/SchemaFault$Place", "equals", "(Ljava/lang/Object;)Z"⟩ : MethodName)) (z := (⟨"com/example/salish/salish/SchemaFault$Place", "equals", "(Ljava/lang/Object;)Z"⟩ : MethodName)) hown (mvT hZ (hw _ (List.mem_of_getElem? (i := 32) rfl))) (mvT hZ (hw _ (List.mem_of_getElem? (i := 33) rfl))) (notFace_of_selects (args := #[]) (mvT hZ (hw _ (List.mem_of_getElem? (i := 35) rfl)))) (mvT hZ (hw _ (List.mem_of_getElem? (i := 35) rfl))) (mvT hZ (hw _ (List.mem_of_getElem? (i := 34) rfl))) (by decide) (backOf (W := 0) (rmPe l Z a0 hw [] po_2 po_3 zv zw T3.heap n0 (Fc2_0.keep Kc3) (Fc2_1.keep Kc3 nin0) (Fc2_2.keep Kc3 nin0) (Fc2_3.keep Kc3 nin0) (Fc2_4.keep Kc3 nin0) Fc3_0 Fc3_1 Fc3_2 Fc3_3 Fc3_4) hZ (hw _ (List.mem_of_getElem? (i := 36) rfl)) (hw _ (List.mem_of_getElem? (i := 2) rfl)) (by decide) (by decide)) q32a q32c (g := (mkF m 64 #[iv pa, iv pb, iv pe, iv zv, iv zw, rv po_2, rv po_3, .unset, .unset] [(.ref po_3), (.ref po_2)])) rfl (by rw [hml]; rfl) (Steps.refl _) (argsL := [(.ref po_3)]) (rest := []) (lenOf pd_28 rfl) rfl (by show 2 * 0 + _ ≤ _; exact Nat.le_of_eq rfl) (hb hby at_64) (fun _ _ => ⟨rfl, e5, (by decide : 2 + 0 ≤ _), (by decide : 10 + 0 ≤ _)⟩)
    dsimp only [Pt.U, Pt.locs, Pt.cells, Pt.slots] at X32 l32 y32 z32 st32 hQ32
    subst l32 y32 z32
    obtain ⟨rfl, N32q, e32⟩ := hQ32
    have N32 := Fr.app N5 N32q
    refine GoW.pull (V := T32.setTop (mkF m 67 #[iv pa, iv pb, iv pe, iv zv, iv zw, rv po_2, rv po_3, .unset, .unset] [(.int (own_eqv zv zw))])) (fun _ k => st32.trans k) ?_
    refine GoW.pull (V := T32.setTop (mkF m 70 #[iv pa, iv pb, iv pe, iv zv, iv zw, rv po_2, rv po_3, .unset, .unset] [(.int zw), (.int zv), (.int (own_eqv zv zw))])) (fun t k => XS.iloadN X32.here hx rfl (hb hby at_67) rfl  (XS.iload X32.here hx rfl (hb hby at_68) rfl  k)) ?_
    by_cases hc70_33 : zv = zw
    · skip
      refine GoW.pull (V := T32.setTop (mkF m 83 #[iv pa, iv pb, iv pe, iv zv, iv zw, rv po_2, rv po_3, .unset, .unset] [])) (fun t k => XS.icmpNo X32.here hx rfl (hb hby at_70) rfl (XT.ii_ne_f hc70_33) (XS.iconst X32.here hx rfl (hb hby at_73) (XS.goto X32.here hx rfl (pc0 := 74) (pc' := 78) rfl (hb hby at_74) (by decide) (by decide) (XS.icmpYes X32.here hx rfl (pc0 := 78) (pc' := 83) rfl (hb hby at_78) rfl (XT.ii_eq_t (by rw [own_eqv, if_pos hc70_33] <;> rfl)) (by decide) (by decide) k)))) ?_
      exact J83_6 T32 _ X32 e32 N32  
    · skip
      refine GoW.pull (V := T32.setTop (mkF m 83 #[iv pa, iv pb, iv pe, iv zv, iv zw, rv po_2, rv po_3, .unset, .unset] [])) (fun t k => XS.icmpYes X32.here hx rfl (pc0 := 70) (pc' := 77) rfl (hb hby at_70) rfl (XT.ii_ne_t hc70_33) (by decide) (by decide) (XS.iconst X32.here hx rfl (hb hby at_77) (XS.icmpYes X32.here hx rfl (pc0 := 78) (pc' := 83) rfl (hb hby at_78) rfl (XT.ii_eq_t (by rw [own_eqv, if_neg hc70_33] <;> rfl)) (by decide) (by decide) k))) ?_
      exact J83_6 T32 _ X32 e32 N32  
  refine GoW.pull (V := s₁.setTop (mkF m 3 #[iv pa, iv pb, iv pe, .unset, .unset, .unset, .unset, .unset, .unset] [(.int (pe &&& (2 : Int32)))])) (fun t k => XS.iloadN X0.here hx rfl (hb hby at_0) rfl  (XS.iconst X0.here hx rfl (hb hby at_1) (XS.iand X0.here hx rfl (hb hby at_2) rfl k))) ?_
  by_cases hc3_34 : (pe &&& (2 : Int32)) = 0
  · skip
    refine GoW.pull (V := s₁.setTop (mkF m 14 #[iv pa, iv pb, iv pe, iv pa, .unset, .unset, .unset, .unset, .unset] [(.int 1), (.int pe)])) (fun t k => XS.ifYes X0.here hx rfl (pc0 := 3) (pc' := 10) rfl (hb hby at_3) rfl (XT.i0_eq_t hc3_34) (by decide) (by decide) (XS.iloadN X0.here hx rfl (hb hby at_10) rfl  (XS.istoreN X0.here hx rfl (hb hby at_11) rfl (l' := #[iv pa, iv pb, iv pe, iv pa, .unset, .unset, .unset, .unset, .unset]) rfl (XS.iloadN X0.here hx rfl (hb hby at_12) rfl  (XS.iconst X0.here hx rfl (hb hby at_13) k))))) ?_
    refine GoW.pull (V := s₁.setTop (mkF m 15 #[iv pa, iv pb, iv pe, iv pa, .unset, .unset, .unset, .unset, .unset] [(.int (pe &&& (1 : Int32)))])) (fun t k => XS.iand X0.here hx rfl (hb hby at_14) rfl k) ?_
    by_cases hc15_35 : (pe &&& (1 : Int32)) = 0
    · skip
      refine GoW.pull (V := s₁.setTop (mkF m 25 #[iv pa, iv pb, iv pe, iv pa, iv pb, .unset, .unset, .unset, .unset] [])) (fun t k => XS.ifYes X0.here hx rfl (pc0 := 15) (pc' := 22) rfl (hb hby at_15) rfl (XT.i0_eq_t hc15_35) (by decide) (by decide) (XS.iloadN X0.here hx rfl (hb hby at_22) rfl  (XS.istore X0.here hx rfl (hb hby at_23) rfl (l' := #[iv pa, iv pb, iv pe, iv pa, iv pb, .unset, .unset, .unset, .unset]) rfl k))) ?_
      exact J25_1 (pa) (pb) 
    · skip
      refine GoW.pull (V := s₁.setTop (mkF m 25 #[iv pa, iv pb, iv pe, iv pa, iv pa, .unset, .unset, .unset, .unset] [])) (fun t k => XS.ifNo X0.here hx rfl (hb hby at_15) rfl (XT.i0_eq_f hc15_35) (XS.iloadN X0.here hx rfl (hb hby at_18) rfl  (XS.goto X0.here hx rfl (pc0 := 19) (pc' := 23) rfl (hb hby at_19) (by decide) (by decide) (XS.istore X0.here hx rfl (hb hby at_23) rfl (l' := #[iv pa, iv pb, iv pe, iv pa, iv pa, .unset, .unset, .unset, .unset]) rfl k)))) ?_
      exact J25_1 (pa) (pa) 
  · skip
    refine GoW.pull (V := s₁.setTop (mkF m 13 #[iv pa, iv pb, iv pe, iv (-1), .unset, .unset, .unset, .unset, .unset] [(.int pe)])) (fun t k => XS.ifNo X0.here hx rfl (hb hby at_3) rfl (XT.i0_eq_f hc3_34) (XS.iconst X0.here hx rfl (hb hby at_6) (XS.goto X0.here hx rfl (pc0 := 7) (pc' := 11) rfl (hb hby at_7) (by decide) (by decide) (XS.istoreN X0.here hx rfl (hb hby at_11) rfl (l' := #[iv pa, iv pb, iv pe, iv (-1), .unset, .unset, .unset, .unset, .unset]) rfl (XS.iloadN X0.here hx rfl (hb hby at_12) rfl  k))))) ?_
    refine GoW.pull (V := s₁.setTop (mkF m 15 #[iv pa, iv pb, iv pe, iv (-1), .unset, .unset, .unset, .unset, .unset] [(.int (pe &&& (1 : Int32)))])) (fun t k => XS.iconst X0.here hx rfl (hb hby at_13) (XS.iand X0.here hx rfl (hb hby at_14) rfl k)) ?_
    by_cases hc15_36 : (pe &&& (1 : Int32)) = 0
    · skip
      refine GoW.pull (V := s₁.setTop (mkF m 25 #[iv pa, iv pb, iv pe, iv (-1), iv pb, .unset, .unset, .unset, .unset] [])) (fun t k => XS.ifYes X0.here hx rfl (pc0 := 15) (pc' := 22) rfl (hb hby at_15) rfl (XT.i0_eq_t hc15_36) (by decide) (by decide) (XS.iloadN X0.here hx rfl (hb hby at_22) rfl  (XS.istore X0.here hx rfl (hb hby at_23) rfl (l' := #[iv pa, iv pb, iv pe, iv (-1), iv pb, .unset, .unset, .unset, .unset]) rfl k))) ?_
      exact J25_1 ((-1 : Int32)) (pb) 
    · skip
      refine GoW.pull (V := s₁.setTop (mkF m 25 #[iv pa, iv pb, iv pe, iv (-1), iv (-1), .unset, .unset, .unset, .unset] [])) (fun t k => XS.ifNo X0.here hx rfl (hb hby at_15) rfl (XT.i0_eq_f hc15_36) (XS.iloadN X0.here hx rfl (hb hby at_18) rfl  (XS.goto X0.here hx rfl (pc0 := 19) (pc' := 23) rfl (hb hby at_19) (by decide) (by decide) (XS.istore X0.here hx rfl (hb hby at_23) rfl (l' := #[iv pa, iv pb, iv pe, iv (-1), iv (-1), .unset, .unset, .unset, .unset]) rfl k)))) ?_
      exact J25_1 ((-1 : Int32)) ((-1 : Int32)) 
set_option maxRecDepth 65536 in
set_option maxHeartbeats 40000000 in
theorem comes_1 {Post : Tables → Env → Array Value → State → Outcome → State → Prop} (hpost : ∀ tb e args s v u, (limb_1_1.after args s (.returned v) u = true ∧ limb_1_2.after args s (.returned v) u = true ∧ True) → ReturnedEndW s (.returned v) u (Jvm.fieldLocs frame_1_writes args s ++ Jvm.arrayLocs frame_1_arrays args s ++ Jvm.staticLocs frame_1_statics s) 48 3456 → Post tb e args s (.returned v) u) :
    ArmFor flags0 classFile x code maxLocals ret World_1 tables_1 room_1 Calls_1 rest_1 Pre_1 Post := by
  intro l hfl _ _ p e ha hc hk s m args below hf hA hF happ hP
  obtain ⟨hcalls, hrest, hpre⟩ := hP
  obtain ⟨-, -, -, hnamed, -, -, -, hat⟩ := (Spec.applies_iff hf).mp happ
  obtain ⟨hg, hn⟩ := and_e (Cond.before_iff.mp (show (Jvm.Cond.and given_1 narrow_1).before args s = true from hpre))
  obtain ⟨y1, y2⟩ := and_e hg
  obtain ⟨y3, y4⟩ := and_e y2
  obtain ⟨y5, y6⟩ := and_e y4
  obtain ⟨w0, w1, w2, rfl⟩ : ∃ w0 w1 w2 : Value, args = #[w0, w1, w2] := by
    have hs : args.size = 3 := by simpa [Cond.value, given_1] using y1
    obtain ⟨L⟩ := args
    match L, hs with
    | [w0, w1, w2], _ => exact ⟨w0, w1, w2, rfl⟩
  have hw := fun d (hd : d ∈ tables_1) => atoms_spec (ws := Jvm.Cond.code x code maxLocals ret :: tables_1) hat d (List.mem_cons_of_mem _ hd)
  obtain ⟨hsets, hown0⟩ := atoms_of _ (rest_1_c_eq ▸ (show rest_1_c.before _ s = true from hrest))
  obtain ⟨i0, ei0⟩ := is_v y3
  obtain rfl : w0 = (.int i0) := Option.some.inj ei0
  obtain ⟨i1, ei1⟩ := is_v y5
  obtain rfl : w1 = (.int i1) := Option.some.inj ei1
  obtain ⟨i2, ei2⟩ := is_v y6
  obtain rfl : w2 = (.int i2) := Option.some.inj ei2
  obtain ⟨z1, z2⟩ := and_e hn
  obtain ⟨z3, z4⟩ := and_e z2
  obtain ⟨z5, z6⟩ := and_e z4
  obtain ⟨z7, z8⟩ := and_e z6
  obtain ⟨ad, evd⟩ := exa_v z1
  have Edoc : Exa s s.heap ad "com/example/salish/salish/SchemaFault$Place" := Exa.start evd z1
  have Sdoc : Sta s s.heap "com/example/salish/salish/SchemaFault$Place" "DOCUMENT" "Lcom/example/salish/salish/SchemaFault$Place;" (.ref ad) := Sta.start evd (Or.inr ⟨(hw _ (List.mem_of_getElem? (i := 2) rfl)), (hw _ (List.mem_of_getElem? (i := 39) rfl))⟩)
  have Fv : Fld s s.heap ad "com/example/salish/salish/SchemaFault$Place" "value" "I" (.int (-1)) := Fld.start ((fld_at evd).symm.trans (own_eq_i z3))
  have Ft : Fld s s.heap ad "com/example/salish/salish/SchemaFault$Place" "type" "Ljava/lang/String;" .null := Fld.start ((fld_at evd).symm.trans (null_v z5))
  have Ff : Fld s s.heap ad "com/example/salish/salish/SchemaFault$Place" "field" "I" (.int (-1)) := Fld.start ((fld_at evd).symm.trans (own_eq_i z7))
  have Fn : Fld s s.heap ad "com/example/salish/salish/SchemaFault$Place" "fieldName" "Ljava/lang/String;" .null := Fld.start ((fld_at evd).symm.trans (null_v z8))
  obtain ⟨ic, ec⟩ := is_v (Cond.before_iff.mp (hsets _ (List.mem_of_getElem? (i := 1) rfl)))
  have Scs : Sta s s.heap "java/lang/String" "COMPACT_STRINGS" "Z" (.int ic) := Sta.start ec (Or.inl (hsets _ (List.mem_of_getElem? (i := 0) rfl)))
  have n5 := not_v (Cond.before_iff.mp (hsets _ (List.mem_of_getElem? (i := 2) rfl)))
  have hcs : ¬ (ic = (0 : Int32)) := gotF (Cond.eq_ints ec (Term.int_eval (0))) n5
  obtain ⟨vf, ef, rf⟩ := isR_v (Cond.before_iff.mp (hsets _ (List.mem_of_getElem? (i := 8) rfl)))
  have Ssf : Sta s s.heap "jdk/internal/util/Preconditions" "SIOOBE_FORMATTER" "Ljava/util/function/BiFunction;" vf := Sta.start ef (Or.inl (hsets _ (List.mem_of_getElem? (i := 7) rfl)))
  obtain ⟨d1, kd1, ev1, A1⟩ := own_tab (f := fun i => (48 : Int32) + i.toInt32 % 10) (hsets _ (List.mem_of_getElem? (i := 12) rfl)) (hsets _ (List.mem_of_getElem? (i := 13) rfl)) (hsets _ (List.mem_of_getElem? (i := 14) rfl)) (hw _ (List.mem_of_getElem? (i := 52) rfl)) (fun r hr => rfl) (by decide)
  have Sr1 : Sta s s.heap "java/lang/Integer" "DigitOnes" "[B" (.ref d1) := Sta.start ev1 (Or.inl (hsets _ (List.mem_of_getElem? (i := 11) rfl)))
  obtain ⟨d2, kd2, ev2, A2⟩ := own_tab (f := fun i => (48 : Int32) + i.toInt32 / 10) (hsets _ (List.mem_of_getElem? (i := 17) rfl)) (hsets _ (List.mem_of_getElem? (i := 18) rfl)) (hsets _ (List.mem_of_getElem? (i := 19) rfl)) (hw _ (List.mem_of_getElem? (i := 52) rfl)) (fun r hr => rfl) (by decide)
  have Sr2 : Sta s s.heap "java/lang/Integer" "DigitTens" "[B" (.ref d2) := Sta.start ev2 (Or.inl (hsets _ (List.mem_of_getElem? (i := 16) rfl)))
  have hCH : CHv s consts_1 s.vm s.heap := CHv.start (own_ew hw) hcalls.1 (hsets _ (List.mem_of_getElem? (i := 2) rfl)) (hw _ (List.mem_of_getElem? (i := 52) rfl)) (hw _ (List.mem_of_getElem? (i := 51) rfl))
  obtain ⟨n, o, h1, h2, h3, _, L, rfl, ⟨rfl, N⟩, hq⟩ := rm0 l s _ hw tables_1 i0 i1 i2 ic vf d1 d2 kd1 kd2 ad s.heap s.heap.size (Nat.le_refl _) Scs Ssf Sr1 Sr2 A1 A2 Sdoc Edoc Fv Ft Ff Fn hcs rf p e ha hc hk s m _ below hf ((Spec.applies_iff_loose hf).mp happ).1 ⟨rfl, State.Warmed39.refl s, rfl, hCH⟩ trivial
  refine ⟨n, _, h1, h2, h3, hpost _ _ _ _ _ _ ⟨Cond.after_iff.mpr rfl, Cond.after_iff.mpr (eq_i res_at (Term.int_eval (1)) rfl), trivial⟩ ⟨hq.1, hq.2.1, hq.2.2.1, (hq.2.2.2.sift fun y hy => Or.inr (N y hy)).mono (by decide) (by decide)⟩⟩
theorem main_1_1 : Claimed_1_1 := comes_1 fun _ _ _ _ _ _ h hF => ⟨h.1, hF⟩
theorem main_1_2 : Claimed_1_2 := comes_1 fun _ _ _ _ _ _ h hF => ⟨h.2.1, hF⟩
end Jvm.Pilot.@@N@@
namespace Jvm.Pilot.@@N@@
open Jvm Jvm.ClassFile Sem Op Lib Jvm.Free Jvm.Stand Jvm.Pilot.@@N@@.Jvm.D
/-! MADE BY PROGRAM (witnessworld.py) out of the Statement's table words and the real class files: 26 classes; the members and pool entries that the words name. The judged class is class 1, her method 4. -/
namespace start1
open Jvm.ClassFile
def u (s : String) : CpInfo := .utf8 (stringToUtf16 s)
/-- a pool by its gaps: so many unusable entries, then the entry; so many at the end -/
def gap : Nat → List CpInfo → List CpInfo
  | 0, r => r
  | n + 1, r => .unusable :: gap n r
def poolList (es : List (Nat × CpInfo)) (last : Nat) : List CpInfo := es.foldr (fun e r => gap e.1 (e.2 :: r)) (gap last [])
def pool (es : List (Nat × CpInfo)) (last : Nat) : Array CpInfo := ⟨poolList es last⟩
def fileOf (pool : Array CpInfo) (this : Nat) (attrs : Array Attribute := #[]) (ms : Array MethodInfo := #[]) (fl : Nat := 33) (sup : Nat := 0) (ifs : Array Nat := #[]) (fds : Array FieldInfo := #[]) : ClassFile where
  minorVersion := 0
  majorVersion := 65
  constantPool := pool
  accessFlags := fl
  thisClass := this
  superClass := sup
  interfaces := ifs
  fields := fds
  methods := ms
  attributes := attrs
def plain (name : String) (sup : Option ClassId) : Class where
  name := name
  kind := .ordinary
  loader := none
  accessFlags := 33
  super := sup
  interfaces := #[]
  cf := none
  fields := #[]
  methods := #[]
  instanceTypes := #[]
  staticTypes := #[]
  resolved := #[]
  callSites := []
  init := .initialized
  statics := none
  mirror := none

def pool0 : Array CpInfo := pool [(5, u "<init>"), (0, u "()V"), (1, .class_ 10), (1, u "java/lang/Object")] 113

def k0c0 : Code := { maxStack := 0, maxLocals := 1, code := object_method_1_code, exceptionTable := #[], attributes := #[] }
def k0m0 : Method := { name := "<init>", desc := "()V", sig := { parameters := [], returnType := none }, accessFlags := 1, code := some k0c0 }
/-- java/lang/Object -/
def k0 : Class := { plain "java/lang/Object" none with
  accessFlags := 33
  interfaces := #[]
  cf := some (fileOf pool0 8 #[] #[{ accessFlags := 1, nameIndex := 5, descriptorIndex := 6, attributes := #[] }] 33 0 #[] #[])
  fields := #[]
  methods := #[k0m0]
  instanceTypes := #[]
  staticTypes := #[]
  resolved := Array.replicate 124 none
  statics := none }

def pool1 : Array CpInfo := pool [(2, .class_ 4), (1, u "java/lang/Object"), (0, u "<init>"), (0, u "()V"), (0, .integer 100000), (0, .integer 1000000), (0, .integer 10000000), (0, .integer 100000000), (0, .integer 1000000000), (0, .methodref 13 14), (0, .class_ 15), (0, .nameAndType 16 17), (0, u "com/example/salish/salish/PlaceOfValuePinLaw"), (0, u "pow10"), (0, u "(I)I"), (0, .methodref 19 20), (0, .class_ 21), (0, .nameAndType 22 23), (0, u "java/lang/String"), (0, u "charAt"), (0, u "(I)C"), (0, .methodref 25 26), (0, .class_ 27), (0, .nameAndType 28 29), (0, u "com/example/salish/salish/SchemaFault$Place"), (0, u "ofValue"), (0, u "(I)Lcom/example/salish/salish/SchemaFault$Place;"), (0, .methodref 25 31), (0, .nameAndType 32 33), (0, u "value"), (0, u "()I"), (0, .methodref 25 35), (0, .nameAndType 36 33), (0, u "field"), (0, .methodref 25 38), (0, .nameAndType 39 40), (0, u "equals"), (0, u "(Ljava/lang/Object;)Z"), (0, .fieldref 25 42), (0, .nameAndType 43 44), (0, u "DOCUMENT"), (0, u "Lcom/example/salish/salish/SchemaFault$Place;"), (0, .methodref 25 46), (0, .nameAndType 47 48), (0, u "toString"), (0, u "()Ljava/lang/String;"), (0, .methodref 19 50), (0, .nameAndType 51 52), (0, u "isEmpty"), (0, u "()Z"), (0, .methodref 13 54), (0, .nameAndType 55 17), (0, u "digits"), (0, .methodref 19 57), (0, .nameAndType 58 33), (0, u "length"), (0, .methodref 13 60), (0, .nameAndType 61 62), (0, u "digitOk"), (0, u "(Ljava/lang/String;III)Z"), (3, u "law"), (0, u "(III)Z")] 6

def k1m0 : Method := { name := "<init>", desc := "()V", sig := { parameters := [], returnType := none }, accessFlags := 1, code := none }
def k1c1 : Code := { maxStack := 2, maxLocals := 1, code := method_2_code, exceptionTable := #[], attributes := #[] }
def k1m1 : Method := { name := "digits", desc := "(I)I", sig := { parameters := [.int], returnType := some .int }, accessFlags := 10, code := some k1c1 }
def k1c2 : Code := { maxStack := 4, maxLocals := 2, code := method_3_code, exceptionTable := #[], attributes := #[] }
def k1m2 : Method := { name := "pow10", desc := "(I)I", sig := { parameters := [.int], returnType := some .int }, accessFlags := 10, code := some k1c2 }
def k1c3 : Code := { maxStack := 4, maxLocals := 5, code := method_4_code, exceptionTable := #[], attributes := #[] }
def k1m3 : Method := { name := "digitOk", desc := "(Ljava/lang/String;III)Z", sig := { parameters := [(.object "java/lang/String"), .int, .int, .int], returnType := some .boolean }, accessFlags := 10, code := some k1c3 }
def k1c4 : Code := { maxStack := 4, maxLocals := 9, code := code, exceptionTable := #[], attributes := #[] }
def k1m4 : Method := { name := "law", desc := "(III)Z", sig := { parameters := [.int, .int, .int], returnType := some .boolean }, accessFlags := 9, code := some k1c4 }
/-- com/example/salish/salish/PlaceOfValuePinLaw -/
def k1 : Class := { plain "com/example/salish/salish/PlaceOfValuePinLaw" (some 0) with
  accessFlags := 49
  interfaces := #[]
  cf := some (fileOf pool1 13 #[] #[{ accessFlags := 1, nameIndex := 5, descriptorIndex := 6, attributes := #[] }, { accessFlags := 10, nameIndex := 55, descriptorIndex := 17, attributes := #[] }, { accessFlags := 10, nameIndex := 16, descriptorIndex := 17, attributes := #[] }, { accessFlags := 10, nameIndex := 61, descriptorIndex := 62, attributes := #[] }, { accessFlags := 9, nameIndex := 66, descriptorIndex := 67, attributes := #[] }] 49 2 #[] #[])
  fields := #[]
  methods := #[k1m0, k1m1, k1m2, k1m3, k1m4]
  instanceTypes := #[]
  staticTypes := #[]
  resolved := Array.replicate 74 none
  statics := none }

def pool2 : Array CpInfo := pool [(1, .class_ 2), (0, u "java/io/Serializable"), (0, .class_ 4), (0, u "java/lang/Object")] 2

/-- java/io/Serializable -/
def k2 : Class := { plain "java/io/Serializable" (some 0) with
  accessFlags := 1537
  interfaces := #[]
  cf := some (fileOf pool2 1 #[] #[] 1537 3 #[] #[])
  fields := #[]
  methods := #[]
  instanceTypes := #[]
  staticTypes := #[]
  resolved := Array.replicate 7 none
  statics := none }

def pool3 : Array CpInfo := pool [(1, .methodref 2 3), (0, .class_ 4), (0, .nameAndType 5 6), (0, u "java/lang/Object"), (0, u "<init>"), (0, u "()V"), (0, .fieldref 8 9), (0, .class_ 10), (0, .nameAndType 11 12), (0, u "com/example/salish/salish/SchemaFault$Place"), (0, u "value"), (0, u "I"), (0, .fieldref 8 14), (0, .nameAndType 15 16), (0, u "type"), (0, u "Ljava/lang/String;"), (0, .fieldref 8 18), (0, .nameAndType 19 12), (0, u "field"), (0, .fieldref 8 21), (0, .nameAndType 22 16), (0, u "fieldName"), (0, .fieldref 8 24), (0, .nameAndType 25 12), (0, u "order"), (0, .methodref 8 27), (0, .nameAndType 5 28), (0, u "(ILjava/lang/String;ILjava/lang/String;I)V"), (3, .class_ 34), (1, u "java/util/Objects"), (2, .class_ 38), (0, u "java/lang/String"), (6, .string 46), (0, u ""), (0, .class_ 48), (0, u "java/lang/StringBuilder"), (0, .methodref 47 3), (2, .methodref 47 53), (0, .nameAndType 54 55), (0, u "append"), (0, u "(Ljava/lang/String;)Ljava/lang/StringBuilder;"), (0, .methodref 47 57), (0, .nameAndType 58 59), (0, u "toString"), (0, u "()Ljava/lang/String;"), (0, .string 61), (0, u "$["), (0, .methodref 47 63), (0, .nameAndType 54 64), (0, u "(I)Ljava/lang/StringBuilder;"), (0, .string 66), (0, u "]"), (0, .methodref 37 68), (0, .nameAndType 69 70), (0, u "isEmpty"), (0, u "()Z"), (2, .methodref 32 74), (0, .nameAndType 75 76), (0, u "equals"), (0, u "(Ljava/lang/Object;Ljava/lang/Object;)Z"), (12, u "DOCUMENT"), (0, u "Lcom/example/salish/salish/SchemaFault$Place;"), (17, u "IN_DOCUMENT"), (0, u "Ljava/util/Comparator;"), (0, .class_ 111), (0, u "java/io/Serializable"), (2, u "serialVersionUID"), (0, u "J"), (5, u "ofValue"), (0, u "(I)Lcom/example/salish/salish/SchemaFault$Place;"), (4, u "()I"), (3, u "(Ljava/lang/Object;)Z"), (7, .class_ 140), (0, u "com/example/salish/salish/SchemaFault")] 27

def k3c0 : Code := { maxStack := 2, maxLocals := 6, code := prog_7_method_1_code, exceptionTable := #[], attributes := #[] }
def k3m0 : Method := { name := "<init>", desc := "(ILjava/lang/String;ILjava/lang/String;I)V", sig := { parameters := [.int, (.object "java/lang/String"), .int, (.object "java/lang/String"), .int], returnType := none }, accessFlags := 2, code := some k3c0 }
def k3c1 : Code := { maxStack := 7, maxLocals := 1, code := prog_7_method_2_code, exceptionTable := #[], attributes := #[] }
def k3m1 : Method := { name := "ofValue", desc := "(I)Lcom/example/salish/salish/SchemaFault$Place;", sig := { parameters := [.int], returnType := some (.object "com/example/salish/salish/SchemaFault$Place") }, accessFlags := 9, code := some k3c1 }
def k3c2 : Code := { maxStack := 1, maxLocals := 1, code := prog_7_method_6_code, exceptionTable := #[], attributes := #[] }
def k3m2 : Method := { name := "value", desc := "()I", sig := { parameters := [], returnType := some .int }, accessFlags := 1, code := some k3c2 }
def k3c3 : Code := { maxStack := 1, maxLocals := 1, code := prog_7_method_8_code, exceptionTable := #[], attributes := #[] }
def k3m3 : Method := { name := "field", desc := "()I", sig := { parameters := [], returnType := some .int }, accessFlags := 1, code := some k3c3 }
def k3c4 : Code := { maxStack := 2, maxLocals := 2, code := prog_7_method_10_code, exceptionTable := #[], attributes := #[] }
def k3m4 : Method := { name := "toString", desc := "()Ljava/lang/String;", sig := { parameters := [], returnType := some (.object "java/lang/String") }, accessFlags := 1, code := some k3c4 }
def k3c5 : Code := { maxStack := 2, maxLocals := 3, code := prog_7_method_11_code, exceptionTable := #[], attributes := #[] }
def k3m5 : Method := { name := "equals", desc := "(Ljava/lang/Object;)Z", sig := { parameters := [(.object "java/lang/Object")], returnType := some .boolean }, accessFlags := 1, code := some k3c5 }
/-- com/example/salish/salish/SchemaFault$Place -/
def k3 : Class := { plain "com/example/salish/salish/SchemaFault$Place" (some 0) with
  accessFlags := 49
  interfaces := #[2]
  cf := some (fileOf pool3 8 #[.nestHost 139] #[{ accessFlags := 2, nameIndex := 5, descriptorIndex := 28, attributes := #[] }, { accessFlags := 9, nameIndex := 121, descriptorIndex := 122, attributes := #[] }, { accessFlags := 1, nameIndex := 11, descriptorIndex := 127, attributes := #[] }, { accessFlags := 1, nameIndex := 19, descriptorIndex := 127, attributes := #[] }, { accessFlags := 1, nameIndex := 58, descriptorIndex := 59, attributes := #[] }, { accessFlags := 1, nameIndex := 75, descriptorIndex := 131, attributes := #[] }] 49 2 #[110] #[{ accessFlags := 25, nameIndex := 89, descriptorIndex := 90, attributes := #[] }, { accessFlags := 24, nameIndex := 108, descriptorIndex := 109, attributes := #[] }, { accessFlags := 26, nameIndex := 114, descriptorIndex := 115, attributes := #[] }, { accessFlags := 18, nameIndex := 11, descriptorIndex := 12, attributes := #[] }, { accessFlags := 18, nameIndex := 15, descriptorIndex := 16, attributes := #[] }, { accessFlags := 18, nameIndex := 19, descriptorIndex := 12, attributes := #[] }, { accessFlags := 18, nameIndex := 22, descriptorIndex := 16, attributes := #[] }, { accessFlags := 18, nameIndex := 25, descriptorIndex := 12, attributes := #[] }])
  fields := #[{ name := "DOCUMENT", type := (.object "com/example/salish/salish/SchemaFault$Place"), accessFlags := 25, slot := 0, constantValue := 0 }, { name := "IN_DOCUMENT", type := (.object "java/util/Comparator"), accessFlags := 24, slot := 1, constantValue := 0 }, { name := "serialVersionUID", type := .long, accessFlags := 26, slot := 2, constantValue := 0 }, { name := "value", type := .int, accessFlags := 18, slot := 0, constantValue := 0 }, { name := "type", type := (.object "java/lang/String"), accessFlags := 18, slot := 1, constantValue := 0 }, { name := "field", type := .int, accessFlags := 18, slot := 2, constantValue := 0 }, { name := "fieldName", type := (.object "java/lang/String"), accessFlags := 18, slot := 3, constantValue := 0 }, { name := "order", type := .int, accessFlags := 18, slot := 4, constantValue := 0 }]
  methods := #[k3m0, k3m1, k3m2, k3m3, k3m4, k3m5]
  instanceTypes := #[.int, (.object "java/lang/String"), .int, (.object "java/lang/String"), .int]
  staticTypes := #[(.object "com/example/salish/salish/SchemaFault$Place"), (.object "java/util/Comparator"), .long]
  resolved := Array.replicate 168 none
  statics := some 0 }

def pool4 : Array CpInfo := pool [(2, .class_ 4), (1, u "java/lang/Object"), (0, u "<init>"), (0, u "()V"), (9, u "equals"), (6, u "(Ljava/lang/Object;Ljava/lang/Object;)Z"), (18, .class_ 44), (1, u "java/util/Objects")] 139

def k4m0 : Method := { name := "<init>", desc := "()V", sig := { parameters := [], returnType := none }, accessFlags := 2, code := none }
def k4c1 : Code := { maxStack := 2, maxLocals := 2, code := jdk_31_method_2_code, exceptionTable := #[], attributes := #[] }
def k4m1 : Method := { name := "equals", desc := "(Ljava/lang/Object;Ljava/lang/Object;)Z", sig := { parameters := [(.object "java/lang/Object"), (.object "java/lang/Object")], returnType := some .boolean }, accessFlags := 9, code := some k4c1 }
/-- java/util/Objects -/
def k4 : Class := { plain "java/util/Objects" (some 0) with
  accessFlags := 49
  interfaces := #[]
  cf := some (fileOf pool4 42 #[] #[{ accessFlags := 2, nameIndex := 5, descriptorIndex := 6, attributes := #[] }, { accessFlags := 9, nameIndex := 16, descriptorIndex := 23, attributes := #[] }] 49 2 #[] #[])
  fields := #[]
  methods := #[k4m0, k4m1]
  instanceTypes := #[]
  staticTypes := #[]
  resolved := Array.replicate 184 none
  statics := none }

def pool5 : Array CpInfo := pool [(1, .class_ 2), (0, u "java/lang/Comparable"), (0, .class_ 4), (0, u "java/lang/Object")] 7

/-- java/lang/Comparable -/
def k5 : Class := { plain "java/lang/Comparable" (some 0) with
  accessFlags := 1537
  interfaces := #[]
  cf := some (fileOf pool5 1 #[] #[] 1537 3 #[] #[])
  fields := #[]
  methods := #[]
  instanceTypes := #[]
  staticTypes := #[]
  resolved := Array.replicate 12 none
  statics := none }

def pool6 : Array CpInfo := pool [(2, .class_ 4), (1, u "java/lang/CharSequence"), (42, .class_ 48), (0, u "java/lang/CharSequence$1CodePointIterator"), (10, .class_ 60), (0, u "java/lang/CharSequence$1CharIterator"), (5, .class_ 67), (0, u "java/lang/Object")] 63

/-- java/lang/CharSequence -/
def k6 : Class := { plain "java/lang/CharSequence" (some 0) with
  accessFlags := 1537
  interfaces := #[]
  cf := some (fileOf pool6 2 #[.nestMembers #[47, 59]] #[] 1537 66 #[] #[])
  fields := #[]
  methods := #[]
  instanceTypes := #[]
  staticTypes := #[]
  resolved := Array.replicate 131 none
  statics := none }

def pool7 : Array CpInfo := pool [(1, .class_ 2), (0, u "java/lang/constant/Constable"), (0, .class_ 4), (0, u "java/lang/Object")] 6

/-- java/lang/constant/Constable -/
def k7 : Class := { plain "java/lang/constant/Constable" (some 0) with
  accessFlags := 1537
  interfaces := #[]
  cf := some (fileOf pool7 1 #[] #[] 1537 3 #[] #[])
  fields := #[]
  methods := #[]
  instanceTypes := #[]
  staticTypes := #[]
  resolved := Array.replicate 11 none
  statics := none }

def pool8 : Array CpInfo := pool [(1, .class_ 2), (0, u "java/lang/constant/ConstantDesc"), (0, .class_ 4), (0, u "java/lang/Object")] 32

/-- java/lang/constant/ConstantDesc -/
def k8 : Class := { plain "java/lang/constant/ConstantDesc" (some 0) with
  accessFlags := 1537
  interfaces := #[]
  cf := some (fileOf pool8 1 #[] #[] 1537 3 #[] #[])
  fields := #[]
  methods := #[]
  instanceTypes := #[]
  staticTypes := #[]
  resolved := Array.replicate 37 none
  statics := none }

def pool9 : Array CpInfo := pool [(1, .methodref 2 3), (0, .class_ 4), (0, .nameAndType 5 6), (0, u "java/lang/Object"), (0, u "<init>"), (0, u "()V"), (2, .fieldref 10 11), (0, .class_ 12), (0, .nameAndType 13 14), (0, u "java/lang/String"), (0, u "value"), (0, u "[B"), (0, .fieldref 10 16), (0, .nameAndType 17 18), (0, u "coder"), (0, u "B"), (2, u "hash"), (0, u "I"), (2, u "hashIsZero"), (0, u "Z"), (11, .fieldref 10 39), (0, .nameAndType 40 26), (0, u "COMPACT_STRINGS"), (13, .methodref 55 56), (0, .class_ 57), (0, .nameAndType 58 59), (0, u "java/util/Arrays"), (0, u "copyOfRange"), (0, u "([BII)[B"), (47, .class_ 109), (1, u "java/lang/StringLatin1"), (32, u "()Z"), (50, .class_ 195), (1, u "java/lang/System"), (16, .methodref 193 213), (0, .nameAndType 214 215), (0, u "arraycopy"), (0, u "(Ljava/lang/Object;ILjava/lang/Object;II)V"), (118, u "()I"), (0, .methodref 10 336), (0, .nameAndType 17 337), (0, u "()B"), (2, u "()[B"), (22, u "([BI)C"), (27, u "(II)V"), (35, u "(I)C"), (61, .methodref 10 490), (0, .nameAndType 5 491), (0, u "(Ljava/lang/AbstractStringBuilder;Ljava/lang/Void;)V"), (0, .methodref 10 493), (0, .nameAndType 494 142), (0, u "isLatin1"), (0, .methodref 107 496), (0, .nameAndType 497 363), (0, u "charAt"), (3, u "checkIndex"), (4, .nameAndType 507 334), (0, u "length"), (24, u "getBytes"), (16, .methodref 550 506), (0, .class_ 551), (0, u "java/lang/AbstractStringBuilder"), (0, .methodref 550 553), (0, .nameAndType 554 340), (0, u "getValue"), (20, .class_ 576), (0, u "java/lang/CharSequence"), (22, u "CASE_INSENSITIVE_ORDER"), (0, u "Ljava/util/Comparator;"), (91, u "isEmpty"), (128, u "([BIB)V"), (225, .methodref 550 493), (5, .fieldref 1054 1055), (0, .class_ 1056), (0, .nameAndType 1057 1058), (0, u "jdk/internal/util/Preconditions"), (0, u "SIOOBE_FORMATTER"), (0, u "Ljava/util/function/BiFunction;"), (0, .methodref 1054 1060), (0, .nameAndType 501 1061), (0, u "(IILjava/util/function/BiFunction;)I"), (39, u "serialPersistentFields"), (0, u "[Ljava/io/ObjectStreamField;"), (0, .class_ 1104), (0, u "java/lang/String$CaseInsensitiveComparator"), (1, .class_ 1107), (0, u "java/io/Serializable"), (0, .class_ 1109), (0, u "java/lang/Comparable"), (0, .class_ 1111), (0, u "java/lang/constant/Constable"), (0, .class_ 1113), (0, u "java/lang/constant/ConstantDesc"), (2, u "serialVersionUID"), (0, u "J"), (3, u "REPL"), (0, u "C"), (2, u "LATIN1"), (1, u "UTF16"), (105, u "(Ljava/lang/StringBuilder;)V")] 217

def k9m0 : Method := { name := "<init>", desc := "()V", sig := { parameters := [], returnType := none }, accessFlags := 1, code := none }
def k9c1 : Code := { maxStack := 3, maxLocals := 2, code := jdk_42_method_53_code, exceptionTable := #[], attributes := #[] }
def k9m1 : Method := { name := "<init>", desc := "(Ljava/lang/StringBuilder;)V", sig := { parameters := [(.object "java/lang/StringBuilder")], returnType := none }, accessFlags := 1, code := some k9c1 }
def k9c2 : Code := { maxStack := 2, maxLocals := 1, code := jdk_42_method_54_code, exceptionTable := #[], attributes := #[] }
def k9m2 : Method := { name := "length", desc := "()I", sig := { parameters := [], returnType := some .int }, accessFlags := 1, code := some k9c2 }
def k9c3 : Code := { maxStack := 1, maxLocals := 1, code := jdk_42_method_55_code, exceptionTable := #[], attributes := #[] }
def k9m3 : Method := { name := "isEmpty", desc := "()Z", sig := { parameters := [], returnType := some .boolean }, accessFlags := 1, code := some k9c3 }
def k9c4 : Code := { maxStack := 2, maxLocals := 2, code := jdk_42_method_56_code, exceptionTable := #[], attributes := #[] }
def k9m4 : Method := { name := "charAt", desc := "(I)C", sig := { parameters := [.int], returnType := some .char }, accessFlags := 1, code := some k9c4 }
def k9c5 : Code := { maxStack := 5, maxLocals := 4, code := jdk_42_method_147_code, exceptionTable := #[], attributes := #[] }
def k9m5 : Method := { name := "getBytes", desc := "([BIB)V", sig := { parameters := [(.array .byte), .int, .byte], returnType := none }, accessFlags := 0, code := some k9c5 }
def k9c6 : Code := { maxStack := 5, maxLocals := 5, code := jdk_42_method_150_code, exceptionTable := #[], attributes := #[] }
def k9m6 : Method := { name := "<init>", desc := "(Ljava/lang/AbstractStringBuilder;Ljava/lang/Void;)V", sig := { parameters := [(.object "java/lang/AbstractStringBuilder"), (.object "java/lang/Void")], returnType := none }, accessFlags := 0, code := some k9c6 }
def k9c7 : Code := { maxStack := 1, maxLocals := 1, code := jdk_42_method_152_code, exceptionTable := #[], attributes := #[] }
def k9m7 : Method := { name := "coder", desc := "()B", sig := { parameters := [], returnType := some .byte }, accessFlags := 0, code := some k9c7 }
def k9c8 : Code := { maxStack := 1, maxLocals := 1, code := jdk_42_method_154_code, exceptionTable := #[], attributes := #[] }
def k9m8 : Method := { name := "isLatin1", desc := "()Z", sig := { parameters := [], returnType := some .boolean }, accessFlags := 0, code := some k9c8 }
def k9c9 : Code := { maxStack := 3, maxLocals := 2, code := jdk_42_method_155_code, exceptionTable := #[], attributes := #[] }
def k9m9 : Method := { name := "checkIndex", desc := "(II)V", sig := { parameters := [.int, .int], returnType := none }, accessFlags := 8, code := some k9c9 }
/-- java/lang/String -/
def k9 : Class := { plain "java/lang/String" (some 0) with
  accessFlags := 49
  interfaces := #[2, 5, 6, 7, 8]
  cf := some (fileOf pool9 10 #[.nestMembers #[1103]] #[{ accessFlags := 1, nameIndex := 5, descriptorIndex := 6, attributes := #[] }, { accessFlags := 1, nameIndex := 5, descriptorIndex := 1233, attributes := #[] }, { accessFlags := 1, nameIndex := 507, descriptorIndex := 334, attributes := #[] }, { accessFlags := 1, nameIndex := 692, descriptorIndex := 142, attributes := #[] }, { accessFlags := 1, nameIndex := 497, descriptorIndex := 427, attributes := #[] }, { accessFlags := 0, nameIndex := 532, descriptorIndex := 821, attributes := #[] }, { accessFlags := 0, nameIndex := 5, descriptorIndex := 491, attributes := #[] }, { accessFlags := 0, nameIndex := 17, descriptorIndex := 337, attributes := #[] }, { accessFlags := 0, nameIndex := 494, descriptorIndex := 142, attributes := #[] }, { accessFlags := 8, nameIndex := 501, descriptorIndex := 391, attributes := #[] }] 49 2 #[1106, 1108, 575, 1110, 1112] #[{ accessFlags := 18, nameIndex := 13, descriptorIndex := 14, attributes := #[] }, { accessFlags := 18, nameIndex := 17, descriptorIndex := 18, attributes := #[] }, { accessFlags := 2, nameIndex := 21, descriptorIndex := 22, attributes := #[] }, { accessFlags := 2, nameIndex := 25, descriptorIndex := 26, attributes := #[] }, { accessFlags := 26, nameIndex := 1116, descriptorIndex := 1117, attributes := #[] }, { accessFlags := 24, nameIndex := 40, descriptorIndex := 26, attributes := #[] }, { accessFlags := 26, nameIndex := 1101, descriptorIndex := 1102, attributes := #[] }, { accessFlags := 26, nameIndex := 1121, descriptorIndex := 1122, attributes := #[] }, { accessFlags := 25, nameIndex := 599, descriptorIndex := 600, attributes := #[] }, { accessFlags := 24, nameIndex := 1125, descriptorIndex := 18, attributes := #[] }, { accessFlags := 24, nameIndex := 1127, descriptorIndex := 18, attributes := #[] }])
  fields := #[{ name := "value", type := (.array .byte), accessFlags := 18, slot := 0, constantValue := 0 }, { name := "coder", type := .byte, accessFlags := 18, slot := 1, constantValue := 0 }, { name := "hash", type := .int, accessFlags := 2, slot := 2, constantValue := 0 }, { name := "hashIsZero", type := .boolean, accessFlags := 2, slot := 3, constantValue := 0 }, { name := "serialVersionUID", type := .long, accessFlags := 26, slot := 0, constantValue := 0 }, { name := "COMPACT_STRINGS", type := .boolean, accessFlags := 24, slot := 1, constantValue := 0 }, { name := "serialPersistentFields", type := (.array (.object "java/io/ObjectStreamField")), accessFlags := 26, slot := 2, constantValue := 0 }, { name := "REPL", type := .char, accessFlags := 26, slot := 3, constantValue := 0 }, { name := "CASE_INSENSITIVE_ORDER", type := (.object "java/util/Comparator"), accessFlags := 25, slot := 4, constantValue := 0 }, { name := "LATIN1", type := .byte, accessFlags := 24, slot := 5, constantValue := 0 }, { name := "UTF16", type := .byte, accessFlags := 24, slot := 6, constantValue := 0 }]
  methods := #[k9m0, k9m1, k9m2, k9m3, k9m4, k9m5, k9m6, k9m7, k9m8, k9m9]
  instanceTypes := #[(.array .byte), .byte, .int, .boolean]
  staticTypes := #[.long, .boolean, (.array (.object "java/io/ObjectStreamField")), .char, (.object "java/util/Comparator"), .byte, .byte]
  resolved := Array.replicate 1451 none
  statics := some 1 }

def pool10 : Array CpInfo := pool [(1, .class_ 2), (0, u "java/lang/Appendable"), (0, .class_ 4), (0, u "java/lang/Object")] 9

/-- java/lang/Appendable -/
def k10 : Class := { plain "java/lang/Appendable" (some 0) with
  accessFlags := 1537
  interfaces := #[]
  cf := some (fileOf pool10 1 #[] #[] 1537 3 #[] #[])
  fields := #[]
  methods := #[]
  instanceTypes := #[]
  staticTypes := #[]
  resolved := Array.replicate 14 none
  statics := none }

def pool11 : Array CpInfo := pool [(1, .class_ 2), (0, u "java/lang/String"), (0, .methodref 4 5), (0, .class_ 6), (0, .nameAndType 7 8), (0, u "java/lang/Object"), (0, u "<init>"), (0, u "()V"), (1, .class_ 12), (1, u "java/lang/AbstractStringBuilder"), (0, u "EMPTYVALUE"), (0, u "[B"), (0, .fieldref 10 16), (0, .nameAndType 17 14), (0, u "value"), (0, .fieldref 1 19), (0, .nameAndType 20 21), (0, u "COMPACT_STRINGS"), (0, u "Z"), (0, .fieldref 10 23), (0, .nameAndType 24 25), (0, u "coder"), (0, u "B"), (6, .methodref 1 33), (0, .nameAndType 34 35), (0, u "length"), (0, u "()I"), (0, .class_ 37), (0, u "java/lang/Integer"), (2, .methodref 1 41), (0, .nameAndType 24 42), (0, u "()B"), (2, u "append"), (0, u "(Ljava/lang/String;)Ljava/lang/AbstractStringBuilder;"), (1, .class_ 49), (0, u "java/lang/CharSequence"), (19, u "(Ljava/lang/String;)V"), (5, u "maybeLatin1"), (3, .fieldref 10 80), (0, .nameAndType 81 82), (0, u "count"), (0, u "I"), (0, .methodref 10 84), (0, .nameAndType 85 86), (0, u "isLatin1"), (0, u "()Z"), (13, .methodref 10 101), (0, .nameAndType 102 103), (0, u "ensureCapacityInternal"), (0, u "(I)V"), (3, u "(I)I"), (80, u "getChars"), (19, .methodref 10 209), (0, .nameAndType 210 211), (0, u "putStringAt"), (0, u "(ILjava/lang/String;)V"), (5, u "inflateIfNeededFor"), (2, .nameAndType 221 222), (0, u "getBytes"), (0, u "([BIB)V"), (22, .methodref 36 246), (0, .nameAndType 247 107), (0, u "stringSize"), (0, .methodref 36 249), (0, .nameAndType 188 250), (0, u "(II[B)I"), (146, .methodref 10 398), (0, .nameAndType 217 69), (0, .methodref 1 220), (3, u "()[B"), (40, .class_ 445), (0, u "java/lang/Appendable"), (65, u "(I)Ljava/lang/AbstractStringBuilder;"), (40, u "getValue")] 56

def k11m0 : Method := { name := "<init>", desc := "()V", sig := { parameters := [], returnType := none }, accessFlags := 0, code := none }
def k11c1 : Code := { maxStack := 2, maxLocals := 2, code := jdk_68_method_2_code, exceptionTable := #[], attributes := #[] }
def k11m1 : Method := { name := "<init>", desc := "(I)V", sig := { parameters := [.int], returnType := none }, accessFlags := 0, code := some k11c1 }
def k11c2 : Code := { maxStack := 1, maxLocals := 1, code := jdk_68_method_6_code, exceptionTable := #[], attributes := #[] }
def k11m2 : Method := { name := "length", desc := "()I", sig := { parameters := [], returnType := some .int }, accessFlags := 1, code := some k11c2 }
def k11c3 : Code := { maxStack := 4, maxLocals := 3, code := jdk_68_method_9_code, exceptionTable := #[], attributes := #[] }
def k11m3 : Method := { name := "ensureCapacityInternal", desc := "(I)V", sig := { parameters := [.int], returnType := none }, accessFlags := 2, code := some k11c3 }
def k11c4 : Code := { maxStack := 3, maxLocals := 3, code := jdk_68_method_22_code, exceptionTable := #[], attributes := #[] }
def k11m4 : Method := { name := "append", desc := "(Ljava/lang/String;)Ljava/lang/AbstractStringBuilder;", sig := { parameters := [(.object "java/lang/String")], returnType := some (.object "java/lang/AbstractStringBuilder") }, accessFlags := 1, code := some k11c4 }
def k11c5 : Code := { maxStack := 4, maxLocals := 4, code := jdk_68_method_32_code, exceptionTable := #[], attributes := #[] }
def k11m5 : Method := { name := "append", desc := "(I)Ljava/lang/AbstractStringBuilder;", sig := { parameters := [.int], returnType := some (.object "java/lang/AbstractStringBuilder") }, accessFlags := 1, code := some k11c5 }
def k11c6 : Code := { maxStack := 1, maxLocals := 1, code := jdk_68_method_64_code, exceptionTable := #[], attributes := #[] }
def k11m6 : Method := { name := "getValue", desc := "()[B", sig := { parameters := [], returnType := some (.array .byte) }, accessFlags := 16, code := some k11c6 }
def k11c7 : Code := { maxStack := 1, maxLocals := 1, code := jdk_68_method_68_code, exceptionTable := #[], attributes := #[] }
def k11m7 : Method := { name := "isLatin1", desc := "()Z", sig := { parameters := [], returnType := some .boolean }, accessFlags := 16, code := some k11c7 }
def k11c8 : Code := { maxStack := 2, maxLocals := 2, code := jdk_68_method_71_code, exceptionTable := #[], attributes := #[] }
def k11m8 : Method := { name := "inflateIfNeededFor", desc := "(Ljava/lang/String;)V", sig := { parameters := [(.object "java/lang/String")], returnType := none }, accessFlags := 2, code := some k11c8 }
def k11c9 : Code := { maxStack := 4, maxLocals := 3, code := jdk_68_method_73_code, exceptionTable := #[], attributes := #[] }
def k11m9 : Method := { name := "putStringAt", desc := "(ILjava/lang/String;)V", sig := { parameters := [.int, (.object "java/lang/String")], returnType := none }, accessFlags := 2, code := some k11c9 }
/-- java/lang/AbstractStringBuilder -/
def k11 : Class := { plain "java/lang/AbstractStringBuilder" (some 0) with
  accessFlags := 1056
  interfaces := #[10, 6]
  cf := some (fileOf pool11 10 #[] #[{ accessFlags := 0, nameIndex := 7, descriptorIndex := 8, attributes := #[] }, { accessFlags := 0, nameIndex := 7, descriptorIndex := 103, attributes := #[] }, { accessFlags := 1, nameIndex := 34, descriptorIndex := 35, attributes := #[] }, { accessFlags := 2, nameIndex := 102, descriptorIndex := 103, attributes := #[] }, { accessFlags := 1, nameIndex := 45, descriptorIndex := 46, attributes := #[] }, { accessFlags := 1, nameIndex := 45, descriptorIndex := 511, attributes := #[] }, { accessFlags := 16, nameIndex := 552, descriptorIndex := 403, attributes := #[] }, { accessFlags := 16, nameIndex := 85, descriptorIndex := 86, attributes := #[] }, { accessFlags := 2, nameIndex := 217, descriptorIndex := 69, attributes := #[] }, { accessFlags := 2, nameIndex := 210, descriptorIndex := 211, attributes := #[] }] 1056 4 #[444, 48] #[{ accessFlags := 0, nameIndex := 17, descriptorIndex := 14, attributes := #[] }, { accessFlags := 0, nameIndex := 24, descriptorIndex := 25, attributes := #[] }, { accessFlags := 0, nameIndex := 75, descriptorIndex := 21, attributes := #[] }, { accessFlags := 0, nameIndex := 81, descriptorIndex := 82, attributes := #[] }, { accessFlags := 26, nameIndex := 13, descriptorIndex := 14, attributes := #[] }])
  fields := #[{ name := "value", type := (.array .byte), accessFlags := 0, slot := 0, constantValue := 0 }, { name := "coder", type := .byte, accessFlags := 0, slot := 1, constantValue := 0 }, { name := "maybeLatin1", type := .boolean, accessFlags := 0, slot := 2, constantValue := 0 }, { name := "count", type := .int, accessFlags := 0, slot := 3, constantValue := 0 }, { name := "EMPTYVALUE", type := (.array .byte), accessFlags := 26, slot := 0, constantValue := 0 }]
  methods := #[k11m0, k11m1, k11m2, k11m3, k11m4, k11m5, k11m6, k11m7, k11m8, k11m9]
  instanceTypes := #[(.array .byte), .byte, .boolean, .int]
  staticTypes := #[(.array .byte)]
  resolved := Array.replicate 609 none
  statics := none }

def pool12 : Array CpInfo := pool [(1, .methodref 2 3), (0, .class_ 4), (0, .nameAndType 5 6), (0, u "java/lang/AbstractStringBuilder"), (0, u "<init>"), (0, u "(I)V"), (11, .class_ 20), (1, u "java/lang/String"), (3, .class_ 26), (1, u "java/lang/StringBuilder"), (0, u "append"), (0, u "(Ljava/lang/String;)Ljava/lang/StringBuilder;"), (0, .methodref 2 30), (0, .nameAndType 27 31), (0, u "(Ljava/lang/String;)Ljava/lang/AbstractStringBuilder;"), (21, .methodref 2 54), (0, .nameAndType 27 55), (0, u "(I)Ljava/lang/AbstractStringBuilder;"), (81, .methodref 18 138), (0, .nameAndType 5 139), (0, u "(Ljava/lang/StringBuilder;)V"), (5, u "()V"), (10, u "()I"), (111, u "(I)Ljava/lang/StringBuilder;"), (74, .methodref 2 344), (0, .nameAndType 345 156), (0, u "length"), (3, .class_ 350), (0, u "java/lang/Appendable"), (0, .class_ 352), (0, u "java/io/Serializable"), (0, .class_ 354), (0, u "java/lang/Comparable"), (0, .class_ 356), (0, u "java/lang/CharSequence"), (0, u "serialVersionUID"), (0, u "J"), (40, u "toString"), (0, u "()Ljava/lang/String;")] 21

def k12c0 : Code := { maxStack := 2, maxLocals := 1, code := jdk_67_method_1_code, exceptionTable := #[], attributes := #[] }
def k12m0 : Method := { name := "<init>", desc := "()V", sig := { parameters := [], returnType := none }, accessFlags := 1, code := some k12c0 }
def k12c1 : Code := { maxStack := 2, maxLocals := 2, code := jdk_67_method_7_code, exceptionTable := #[], attributes := #[] }
def k12m1 : Method := { name := "append", desc := "(Ljava/lang/String;)Ljava/lang/StringBuilder;", sig := { parameters := [(.object "java/lang/String")], returnType := some (.object "java/lang/StringBuilder") }, accessFlags := 1, code := some k12c1 }
def k12c2 : Code := { maxStack := 2, maxLocals := 2, code := jdk_67_method_15_code, exceptionTable := #[], attributes := #[] }
def k12m2 : Method := { name := "append", desc := "(I)Ljava/lang/StringBuilder;", sig := { parameters := [.int], returnType := some (.object "java/lang/StringBuilder") }, accessFlags := 1, code := some k12c2 }
def k12c3 : Code := { maxStack := 3, maxLocals := 1, code := jdk_67_method_42_code, exceptionTable := #[], attributes := #[] }
def k12m3 : Method := { name := "toString", desc := "()Ljava/lang/String;", sig := { parameters := [], returnType := some (.object "java/lang/String") }, accessFlags := 1, code := some k12c3 }
def k12c4 : Code := { maxStack := 1, maxLocals := 1, code := jdk_67_method_93_code, exceptionTable := #[], attributes := #[] }
def k12m4 : Method := { name := "length", desc := "()I", sig := { parameters := [], returnType := some .int }, accessFlags := 4161, code := some k12c4 }
/-- java/lang/StringBuilder -/
def k12 : Class := { plain "java/lang/StringBuilder" (some 11) with
  accessFlags := 49
  interfaces := #[10, 2, 5, 6]
  cf := some (fileOf pool12 24 #[] #[{ accessFlags := 1, nameIndex := 5, descriptorIndex := 145, attributes := #[] }, { accessFlags := 1, nameIndex := 27, descriptorIndex := 28, attributes := #[] }, { accessFlags := 1, nameIndex := 27, descriptorIndex := 268, attributes := #[] }, { accessFlags := 1, nameIndex := 399, descriptorIndex := 400, attributes := #[] }, { accessFlags := 4161, nameIndex := 345, descriptorIndex := 156, attributes := #[] }] 49 2 #[349, 351, 353, 355] #[{ accessFlags := 24, nameIndex := 357, descriptorIndex := 358, attributes := #[] }])
  fields := #[{ name := "serialVersionUID", type := .long, accessFlags := 24, slot := 0, constantValue := 0 }]
  methods := #[k12m0, k12m1, k12m2, k12m3, k12m4]
  instanceTypes := #[(.array .byte), .byte, .boolean, .int]
  staticTypes := #[.long]
  resolved := Array.replicate 422 none
  statics := none }

def pool13 : Array CpInfo := pool [(2, .class_ 4), (1, u "java/lang/Object"), (0, u "<init>"), (0, u "()V"), (1, .class_ 10), (1, u "java/lang/System"), (0, u "allowSecurityManager"), (0, u "I"), (16, u "cons"), (0, u "Ljava/io/Console;"), (77, .class_ 110), (1, u "java/lang/System$CallersHolder"), (43, u "initialErrStream"), (0, u "Ljava/io/PrintStream;"), (19, u "security"), (0, u "Ljava/lang/SecurityManager;"), (31, .class_ 209), (0, u "java/lang/System$1"), (7, u "props"), (0, u "Ljava/util/Properties;"), (2, u "lineSeparator"), (0, u "Ljava/lang/String;"), (96, .class_ 321), (1, u "java/lang/System$LoggerFinder"), (5, .class_ 328), (0, u "java/lang/System$Logger"), (67, u "err"), (2, u "out"), (91, u "notSupportedJnuEncoding"), (15, u "in"), (17, u "initialIn"), (0, u "Ljava/io/InputStream;"), (35, u "bootLayer"), (0, u "Ljava/lang/ModuleLayer;"), (99, .class_ 664), (0, u "java/lang/System$2"), (9, u "NEVER"), (2, u "MAYBE"), (49, u "arraycopy"), (0, u "(Ljava/lang/Object;ILjava/lang/Object;II)V"), (72, .class_ 802), (0, u "java/lang/System$Logger$Level")] 31

def k13m0 : Method := { name := "<init>", desc := "()V", sig := { parameters := [], returnType := none }, accessFlags := 2, code := none }
def k13m1 : Method := { name := "arraycopy", desc := "(Ljava/lang/Object;ILjava/lang/Object;II)V", sig := { parameters := [(.object "java/lang/Object"), .int, (.object "java/lang/Object"), .int, .int], returnType := none }, accessFlags := 265, code := none }
/-- java/lang/System -/
def k13 : Class := { plain "java/lang/System" (some 0) with
  accessFlags := 49
  interfaces := #[]
  cf := some (fileOf pool13 8 #[.nestMembers #[319, 327, 801, 108, 663, 208]] #[{ accessFlags := 2, nameIndex := 5, descriptorIndex := 6, attributes := #[] }, { accessFlags := 265, nameIndex := 727, descriptorIndex := 728, attributes := #[] }] 49 2 #[] #[{ accessFlags := 25, nameIndex := 507, descriptorIndex := 526, attributes := #[] }, { accessFlags := 25, nameIndex := 399, descriptorIndex := 155, attributes := #[] }, { accessFlags := 25, nameIndex := 396, descriptorIndex := 155, attributes := #[] }, { accessFlags := 10, nameIndex := 525, descriptorIndex := 526, attributes := #[] }, { accessFlags := 26, nameIndex := 674, descriptorIndex := 12, attributes := #[] }, { accessFlags := 26, nameIndex := 677, descriptorIndex := 12, attributes := #[] }, { accessFlags := 10, nameIndex := 11, descriptorIndex := 12, attributes := #[] }, { accessFlags := 74, nameIndex := 175, descriptorIndex := 176, attributes := #[] }, { accessFlags := 10, nameIndex := 491, descriptorIndex := 222, attributes := #[] }, { accessFlags := 74, nameIndex := 29, descriptorIndex := 30, attributes := #[] }, { accessFlags := 74, nameIndex := 154, descriptorIndex := 155, attributes := #[] }, { accessFlags := 10, nameIndex := 217, descriptorIndex := 218, attributes := #[] }, { accessFlags := 10, nameIndex := 221, descriptorIndex := 222, attributes := #[] }, { accessFlags := 8, nameIndex := 562, descriptorIndex := 563, attributes := #[] }])
  fields := #[{ name := "in", type := (.object "java/io/InputStream"), accessFlags := 25, slot := 0, constantValue := 0 }, { name := "out", type := (.object "java/io/PrintStream"), accessFlags := 25, slot := 1, constantValue := 0 }, { name := "err", type := (.object "java/io/PrintStream"), accessFlags := 25, slot := 2, constantValue := 0 }, { name := "initialIn", type := (.object "java/io/InputStream"), accessFlags := 10, slot := 3, constantValue := 0 }, { name := "NEVER", type := .int, accessFlags := 26, slot := 4, constantValue := 0 }, { name := "MAYBE", type := .int, accessFlags := 26, slot := 5, constantValue := 0 }, { name := "allowSecurityManager", type := .int, accessFlags := 10, slot := 6, constantValue := 0 }, { name := "security", type := (.object "java/lang/SecurityManager"), accessFlags := 74, slot := 7, constantValue := 0 }, { name := "notSupportedJnuEncoding", type := (.object "java/lang/String"), accessFlags := 10, slot := 8, constantValue := 0 }, { name := "cons", type := (.object "java/io/Console"), accessFlags := 74, slot := 9, constantValue := 0 }, { name := "initialErrStream", type := (.object "java/io/PrintStream"), accessFlags := 74, slot := 10, constantValue := 0 }, { name := "props", type := (.object "java/util/Properties"), accessFlags := 10, slot := 11, constantValue := 0 }, { name := "lineSeparator", type := (.object "java/lang/String"), accessFlags := 10, slot := 12, constantValue := 0 }, { name := "bootLayer", type := (.object "java/lang/ModuleLayer"), accessFlags := 8, slot := 13, constantValue := 0 }]
  methods := #[k13m0, k13m1]
  instanceTypes := #[]
  staticTypes := #[(.object "java/io/InputStream"), (.object "java/io/PrintStream"), (.object "java/io/PrintStream"), (.object "java/io/InputStream"), .int, .int, .int, (.object "java/lang/SecurityManager"), (.object "java/lang/String"), (.object "java/io/Console"), (.object "java/io/PrintStream"), (.object "java/util/Properties"), (.object "java/lang/String"), (.object "java/lang/ModuleLayer")]
  resolved := Array.replicate 834 none
  statics := none }

def pool14 : Array CpInfo := pool [(2, .class_ 4), (1, u "java/lang/Object"), (0, u "<init>"), (0, u "()V"), (1, .class_ 10), (1, u "java/lang/Number"), (2, .class_ 14), (0, u "java/io/Serializable"), (0, u "serialVersionUID"), (0, u "J")] 20

def k14m0 : Method := { name := "<init>", desc := "()V", sig := { parameters := [], returnType := none }, accessFlags := 1, code := none }
/-- java/lang/Number -/
def k14 : Class := { plain "java/lang/Number" (some 0) with
  accessFlags := 1057
  interfaces := #[2]
  cf := some (fileOf pool14 8 #[] #[{ accessFlags := 1, nameIndex := 5, descriptorIndex := 6, attributes := #[] }] 1057 2 #[13] #[{ accessFlags := 26, nameIndex := 15, descriptorIndex := 16, attributes := #[] }])
  fields := #[{ name := "serialVersionUID", type := .long, accessFlags := 26, slot := 0, constantValue := 0 }]
  methods := #[k14m0]
  instanceTypes := #[]
  staticTypes := #[.long]
  resolved := Array.replicate 37 none
  statics := none }

def pool15 : Array CpInfo := pool [(1, .class_ 2), (0, u "java/lang/Integer"), (16, u "digits"), (0, u "[C"), (33, u "(I)I"), (19, u "stringSize"), (2, u "getChars"), (0, u "(II[B)I"), (4, .fieldref 1 84), (0, .nameAndType 85 86), (0, u "DigitOnes"), (0, u "[B"), (0, .fieldref 1 88), (0, .nameAndType 89 86), (0, u "DigitTens"), (99, .class_ 190), (0, u "java/lang/Integer$IntegerCache"), (3, u "I"), (8, .class_ 204), (0, u "java/lang/Number"), (2, u "value"), (94, u "TYPE"), (0, u "Ljava/lang/Class;"), (0, .class_ 305), (0, u "java/lang/Comparable"), (0, .class_ 307), (0, u "java/lang/constant/Constable"), (0, .class_ 309), (0, u "java/lang/constant/ConstantDesc"), (0, u "MIN_VALUE"), (1, u "MAX_VALUE"), (3, u "SIZE"), (1, u "BYTES"), (1, u "serialVersionUID"), (0, u "J")] 131

def k15c0 : Code := { maxStack := 4, maxLocals := 7, code := jdk_33_method_12_code, exceptionTable := #[], attributes := #[] }
def k15m0 : Method := { name := "getChars", desc := "(II[B)I", sig := { parameters := [.int, .int, (.array .byte)], returnType := some .int }, accessFlags := 8, code := some k15c0 }
def k15c1 : Code := { maxStack := 2, maxLocals := 4, code := jdk_33_method_13_code, exceptionTable := #[], attributes := #[] }
def k15m1 : Method := { name := "stringSize", desc := "(I)I", sig := { parameters := [.int], returnType := some .int }, accessFlags := 8, code := some k15c1 }
/-- java/lang/Integer -/
def k15 : Class := { plain "java/lang/Integer" (some 14) with
  accessFlags := 49
  interfaces := #[5, 7, 8]
  cf := some (fileOf pool15 1 #[.nestMembers #[189]] #[{ accessFlags := 8, nameIndex := 77, descriptorIndex := 78, attributes := #[] }, { accessFlags := 8, nameIndex := 74, descriptorIndex := 54, attributes := #[] }] 49 203 #[304, 306, 308] #[{ accessFlags := 25, nameIndex := 310, descriptorIndex := 194, attributes := #[] }, { accessFlags := 25, nameIndex := 312, descriptorIndex := 194, attributes := #[] }, { accessFlags := 25, nameIndex := 302, descriptorIndex := 303, attributes := #[] }, { accessFlags := 24, nameIndex := 19, descriptorIndex := 20, attributes := #[] }, { accessFlags := 24, nameIndex := 89, descriptorIndex := 86, attributes := #[] }, { accessFlags := 24, nameIndex := 85, descriptorIndex := 86, attributes := #[] }, { accessFlags := 18, nameIndex := 207, descriptorIndex := 194, attributes := #[] }, { accessFlags := 25, nameIndex := 316, descriptorIndex := 194, attributes := #[] }, { accessFlags := 25, nameIndex := 318, descriptorIndex := 194, attributes := #[] }, { accessFlags := 26, nameIndex := 320, descriptorIndex := 321, attributes := #[] }])
  fields := #[{ name := "MIN_VALUE", type := .int, accessFlags := 25, slot := 0, constantValue := 0 }, { name := "MAX_VALUE", type := .int, accessFlags := 25, slot := 1, constantValue := 0 }, { name := "TYPE", type := (.object "java/lang/Class"), accessFlags := 25, slot := 2, constantValue := 0 }, { name := "digits", type := (.array .char), accessFlags := 24, slot := 3, constantValue := 0 }, { name := "DigitTens", type := (.array .byte), accessFlags := 24, slot := 4, constantValue := 0 }, { name := "DigitOnes", type := (.array .byte), accessFlags := 24, slot := 5, constantValue := 0 }, { name := "value", type := .int, accessFlags := 18, slot := 0, constantValue := 0 }, { name := "SIZE", type := .int, accessFlags := 25, slot := 6, constantValue := 0 }, { name := "BYTES", type := .int, accessFlags := 25, slot := 7, constantValue := 0 }, { name := "serialVersionUID", type := .long, accessFlags := 26, slot := 8, constantValue := 0 }]
  methods := #[k15m0, k15m1]
  instanceTypes := #[.int]
  staticTypes := #[.int, .int, (.object "java/lang/Class"), (.array .char), (.array .byte), (.array .byte), .int, .int, .long]
  resolved := Array.replicate 453 none
  statics := some 2 }

def pool16 : Array CpInfo := pool [(2, .class_ 4), (1, u "java/lang/Object"), (0, u "<init>"), (0, u "()V"), (7, .class_ 16), (1, u "java/util/Arrays"), (57, .class_ 76), (1, u "java/util/Arrays$NaturalOrder"), (36, .class_ 115), (1, u "java/util/Arrays$LegacyMergeSort"), (1, u "Z"), (21, u "copyOfRange"), (10, .methodref 151 152), (0, .class_ 153), (0, .nameAndType 154 155), (0, u "java/lang/System"), (0, u "arraycopy"), (0, u "(Ljava/lang/Object;ILjava/lang/Object;II)V"), (148, .methodref 305 306), (0, .class_ 307), (0, .nameAndType 308 309), (0, u "java/lang/Math"), (0, u "min"), (0, u "(II)I"), (29, .methodref 14 340), (0, .nameAndType 341 342), (0, u "copyOfRangeByte"), (0, u "([BII)[B"), (0, .methodref 14 344), (0, .nameAndType 345 346), (0, u "checkLength"), (0, u "(II)V"), (28, .class_ 376), (0, u "java/util/Arrays$ArrayList"), (68, u "$assertionsDisabled"), (269, u "MIN_ARRAY_SORT_GRAN"), (0, u "I"), (2, u "INSERTIONSORT_THRESHOLD"), (255, .class_ 976), (0, u "java/util/Arrays$ArrayItr")] 52

def k16m0 : Method := { name := "<init>", desc := "()V", sig := { parameters := [], returnType := none }, accessFlags := 2, code := none }
def k16c1 : Code := { maxStack := 4, maxLocals := 2, code := jdk_65_method_131_code, exceptionTable := #[], attributes := #[] }
def k16m1 : Method := { name := "checkLength", desc := "(II)V", sig := { parameters := [.int, .int], returnType := none }, accessFlags := 10, code := some k16c1 }
def k16c2 : Code := { maxStack := 3, maxLocals := 3, code := jdk_65_method_132_code, exceptionTable := #[], attributes := #[] }
def k16m2 : Method := { name := "copyOfRange", desc := "([BII)[B", sig := { parameters := [(.array .byte), .int, .int], returnType := some (.array .byte) }, accessFlags := 9, code := some k16c2 }
def k16c3 : Code := { maxStack := 6, maxLocals := 5, code := jdk_65_method_133_code, exceptionTable := #[], attributes := #[] }
def k16m3 : Method := { name := "copyOfRangeByte", desc := "([BII)[B", sig := { parameters := [(.array .byte), .int, .int], returnType := some (.array .byte) }, accessFlags := 10, code := some k16c3 }
/-- java/util/Arrays -/
def k16 : Class := { plain "java/util/Arrays" (some 0) with
  accessFlags := 49
  interfaces := #[]
  cf := some (fileOf pool16 14 #[.nestMembers #[975, 375, 113, 74]] #[{ accessFlags := 2, nameIndex := 5, descriptorIndex := 6, attributes := #[] }, { accessFlags := 10, nameIndex := 345, descriptorIndex := 346, attributes := #[] }, { accessFlags := 9, nameIndex := 139, descriptorIndex := 342, attributes := #[] }, { accessFlags := 10, nameIndex := 341, descriptorIndex := 342, attributes := #[] }] 49 2 #[] #[{ accessFlags := 26, nameIndex := 715, descriptorIndex := 716, attributes := #[] }, { accessFlags := 26, nameIndex := 719, descriptorIndex := 716, attributes := #[] }, { accessFlags := 4120, nameIndex := 445, descriptorIndex := 117, attributes := #[] }])
  fields := #[{ name := "MIN_ARRAY_SORT_GRAN", type := .int, accessFlags := 26, slot := 0, constantValue := 0 }, { name := "INSERTIONSORT_THRESHOLD", type := .int, accessFlags := 26, slot := 1, constantValue := 0 }, { name := "$assertionsDisabled", type := .boolean, accessFlags := 4120, slot := 2, constantValue := 0 }]
  methods := #[k16m0, k16m1, k16m2, k16m3]
  instanceTypes := #[]
  staticTypes := #[.int, .int, .boolean]
  resolved := Array.replicate 1029 none
  statics := none }

def pool17 : Array CpInfo := pool [(1, .class_ 2), (0, u "java/lang/Math"), (1, .class_ 6), (1, u "java/lang/Object"), (0, u "<init>"), (0, u "()V"), (89, .class_ 100), (1, u "java/lang/Math$RandomNumberGeneratorHolder"), (71, u "negativeZeroFloatBits"), (0, u "J"), (2, u "negativeZeroDoubleBits"), (24, u "min"), (43, u "$assertionsDisabled"), (0, u "Z"), (88, u "(II)I"), (2, u "twoToTheDoubleScaleDown"), (0, u "D"), (4, u "twoToTheDoubleScaleUp"), (9, u "E"), (3, u "PI"), (2, u "TAU"), (2, u "DEGREES_TO_RADIANS"), (0, u "RADIANS_TO_DEGREES")] 94

def k17m0 : Method := { name := "<init>", desc := "()V", sig := { parameters := [], returnType := none }, accessFlags := 2, code := none }
def k17c1 : Code := { maxStack := 2, maxLocals := 2, code := jdk_29_method_69_code, exceptionTable := #[], attributes := #[] }
def k17m1 : Method := { name := "min", desc := "(II)I", sig := { parameters := [.int, .int], returnType := some .int }, accessFlags := 9, code := some k17c1 }
/-- java/lang/Math -/
def k17 : Class := { plain "java/lang/Math" (some 0) with
  accessFlags := 49
  interfaces := #[]
  cf := some (fileOf pool17 1 #[.nestMembers #[98]] #[{ accessFlags := 2, nameIndex := 7, descriptorIndex := 8, attributes := #[] }, { accessFlags := 9, nameIndex := 201, descriptorIndex := 335, attributes := #[] }] 49 4 #[] #[{ accessFlags := 25, nameIndex := 354, descriptorIndex := 339, attributes := #[] }, { accessFlags := 25, nameIndex := 358, descriptorIndex := 339, attributes := #[] }, { accessFlags := 25, nameIndex := 361, descriptorIndex := 339, attributes := #[] }, { accessFlags := 26, nameIndex := 364, descriptorIndex := 339, attributes := #[] }, { accessFlags := 26, nameIndex := 365, descriptorIndex := 339, attributes := #[] }, { accessFlags := 26, nameIndex := 172, descriptorIndex := 173, attributes := #[] }, { accessFlags := 26, nameIndex := 176, descriptorIndex := 173, attributes := #[] }, { accessFlags := 8, nameIndex := 344, descriptorIndex := 339, attributes := #[] }, { accessFlags := 8, nameIndex := 338, descriptorIndex := 339, attributes := #[] }, { accessFlags := 4120, nameIndex := 245, descriptorIndex := 246, attributes := #[] }])
  fields := #[{ name := "E", type := .double, accessFlags := 25, slot := 0, constantValue := 0 }, { name := "PI", type := .double, accessFlags := 25, slot := 1, constantValue := 0 }, { name := "TAU", type := .double, accessFlags := 25, slot := 2, constantValue := 0 }, { name := "DEGREES_TO_RADIANS", type := .double, accessFlags := 26, slot := 3, constantValue := 0 }, { name := "RADIANS_TO_DEGREES", type := .double, accessFlags := 26, slot := 4, constantValue := 0 }, { name := "negativeZeroFloatBits", type := .long, accessFlags := 26, slot := 5, constantValue := 0 }, { name := "negativeZeroDoubleBits", type := .long, accessFlags := 26, slot := 6, constantValue := 0 }, { name := "twoToTheDoubleScaleUp", type := .double, accessFlags := 8, slot := 7, constantValue := 0 }, { name := "twoToTheDoubleScaleDown", type := .double, accessFlags := 8, slot := 8, constantValue := 0 }, { name := "$assertionsDisabled", type := .boolean, accessFlags := 4120, slot := 9, constantValue := 0 }]
  methods := #[k17m0, k17m1]
  instanceTypes := #[]
  staticTypes := #[.double, .double, .double, .double, .double, .long, .long, .double, .double, .boolean]
  resolved := Array.replicate 460 none
  statics := none }

def pool18 : Array CpInfo := pool [(1, .class_ 2), (0, u "java/lang/String"), (1, .class_ 6), (1, u "java/lang/Object"), (0, u "<init>"), (0, u "()V"), (0, .methodref 1 10), (0, .nameAndType 11 12), (0, u "checkIndex"), (0, u "(II)V"), (1, .class_ 16), (1, u "java/lang/StringLatin1"), (36, u "([BI)C"), (67, u "$assertionsDisabled"), (0, u "Z"), (98, .class_ 223), (1, u "java/lang/StringLatin1$LinesSpliterator"), (28, u "charAt"), (137, .class_ 391), (0, u "java/lang/StringLatin1$CharsSpliterator")] 3

def k18m0 : Method := { name := "<init>", desc := "()V", sig := { parameters := [], returnType := none }, accessFlags := 0, code := none }
def k18c1 : Code := { maxStack := 2, maxLocals := 2, code := jdk_43_method_2_code, exceptionTable := #[], attributes := #[] }
def k18m1 : Method := { name := "charAt", desc := "([BI)C", sig := { parameters := [(.array .byte), .int], returnType := some .char }, accessFlags := 9, code := some k18c1 }
/-- java/lang/StringLatin1 -/
def k18 : Class := { plain "java/lang/StringLatin1" (some 0) with
  accessFlags := 48
  interfaces := #[]
  cf := some (fileOf pool18 14 #[.nestMembers #[390, 221]] #[{ accessFlags := 0, nameIndex := 7, descriptorIndex := 8, attributes := #[] }, { accessFlags := 9, nameIndex := 252, descriptorIndex := 53, attributes := #[] }] 48 4 #[] #[{ accessFlags := 4120, nameIndex := 121, descriptorIndex := 122, attributes := #[] }])
  fields := #[{ name := "$assertionsDisabled", type := .boolean, accessFlags := 4120, slot := 0, constantValue := 0 }]
  methods := #[k18m0, k18m1]
  instanceTypes := #[]
  staticTypes := #[.boolean]
  resolved := Array.replicate 395 none
  statics := none }

def pool19 : Array CpInfo := pool [(2, .class_ 4), (1, u "java/lang/Object"), (0, u "<init>"), (0, u "()V"), (17, .class_ 26), (1, u "jdk/internal/util/Preconditions"), (6, u "checkIndex"), (21, .class_ 56), (0, u "jdk/internal/util/Preconditions$4"), (57, .class_ 115), (0, u "jdk/internal/util/Preconditions$1"), (7, u "SIOOBE_FORMATTER"), (0, u "Ljava/util/function/BiFunction;"), (0, .class_ 126), (0, u "jdk/internal/util/Preconditions$2"), (3, u "AIOOBE_FORMATTER"), (0, .class_ 132), (0, u "jdk/internal/util/Preconditions$3"), (3, u "IOOBE_FORMATTER"), (41, u "(IILjava/util/function/BiFunction;)I")] 15

def k19m0 : Method := { name := "<init>", desc := "()V", sig := { parameters := [], returnType := none }, accessFlags := 1, code := none }
def k19c1 : Code := { maxStack := 3, maxLocals := 3, code := jdk_41_method_11_code, exceptionTable := #[], attributes := #[] }
def k19m1 : Method := { name := "checkIndex", desc := "(IILjava/util/function/BiFunction;)I", sig := { parameters := [.int, .int, (.object "java/util/function/BiFunction")], returnType := some .int }, accessFlags := 9, code := some k19c1 }
/-- jdk/internal/util/Preconditions -/
def k19 : Class := { plain "jdk/internal/util/Preconditions" (some 0) with
  accessFlags := 33
  interfaces := #[]
  cf := some (fileOf pool19 24 #[.nestMembers #[55, 131, 125, 114]] #[{ accessFlags := 1, nameIndex := 5, descriptorIndex := 6, attributes := #[] }, { accessFlags := 9, nameIndex := 33, descriptorIndex := 178, attributes := #[] }] 33 2 #[] #[{ accessFlags := 25, nameIndex := 123, descriptorIndex := 124, attributes := #[] }, { accessFlags := 25, nameIndex := 130, descriptorIndex := 124, attributes := #[] }, { accessFlags := 25, nameIndex := 136, descriptorIndex := 124, attributes := #[] }])
  fields := #[{ name := "SIOOBE_FORMATTER", type := (.object "java/util/function/BiFunction"), accessFlags := 25, slot := 0, constantValue := 0 }, { name := "AIOOBE_FORMATTER", type := (.object "java/util/function/BiFunction"), accessFlags := 25, slot := 1, constantValue := 0 }, { name := "IOOBE_FORMATTER", type := (.object "java/util/function/BiFunction"), accessFlags := 25, slot := 2, constantValue := 0 }]
  methods := #[k19m0, k19m1]
  instanceTypes := #[]
  staticTypes := #[(.object "java/util/function/BiFunction"), (.object "java/util/function/BiFunction"), (.object "java/util/function/BiFunction")]
  resolved := Array.replicate 194 none
  statics := some 3 }

def pool20 : Array CpInfo := pool [(9, u "<init>"), (6, .class_ 18), (1, u "java/lang/Object"), (0, u "()V"), (1, .class_ 23), (1, u "jdk/internal/util/ArraysSupport"), (0, u "LOG2_ARRAY_LONG_INDEX_SCALE"), (0, u "I"), (2, u "U"), (0, u "Ljdk/internal/misc/Unsafe;"), (8, u "BIG_ENDIAN"), (0, u "Z"), (8, u "LOG2_BYTE_BIT_SIZE"), (4, u "LOG2_ARRAY_INT_INDEX_SCALE"), (54, u "JLA"), (0, u "Ljdk/internal/access/JavaLangAccess;"), (11, u "LOG2_ARRAY_BOOLEAN_INDEX_SCALE"), (9, u "LOG2_ARRAY_BYTE_INDEX_SCALE"), (5, u "LOG2_ARRAY_CHAR_INDEX_SCALE"), (5, u "LOG2_ARRAY_SHORT_INDEX_SCALE"), (18, u "LOG2_ARRAY_FLOAT_INDEX_SCALE"), (24, u "LOG2_ARRAY_DOUBLE_INDEX_SCALE"), (89, u "T_BOOLEAN"), (2, u "T_CHAR"), (1, u "T_FLOAT"), (1, u "T_DOUBLE"), (1, u "T_BYTE"), (1, u "T_SHORT"), (1, u "T_INT"), (1, u "T_LONG"), (1, u "SOFT_MAX_ARRAY_LENGTH")] 83

def k20m0 : Method := { name := "<init>", desc := "()V", sig := { parameters := [], returnType := none }, accessFlags := 2, code := none }
/-- jdk/internal/util/ArraysSupport -/
def k20 : Class := { plain "jdk/internal/util/ArraysSupport" (some 0) with
  accessFlags := 33
  interfaces := #[]
  cf := some (fileOf pool20 21 #[] #[{ accessFlags := 2, nameIndex := 9, descriptorIndex := 19, attributes := #[] }] 33 16 #[] #[{ accessFlags := 24, nameIndex := 28, descriptorIndex := 29, attributes := #[] }, { accessFlags := 26, nameIndex := 38, descriptorIndex := 39, attributes := #[] }, { accessFlags := 25, nameIndex := 121, descriptorIndex := 25, attributes := #[] }, { accessFlags := 25, nameIndex := 131, descriptorIndex := 25, attributes := #[] }, { accessFlags := 25, nameIndex := 137, descriptorIndex := 25, attributes := #[] }, { accessFlags := 25, nameIndex := 143, descriptorIndex := 25, attributes := #[] }, { accessFlags := 25, nameIndex := 53, descriptorIndex := 25, attributes := #[] }, { accessFlags := 25, nameIndex := 24, descriptorIndex := 25, attributes := #[] }, { accessFlags := 25, nameIndex := 162, descriptorIndex := 25, attributes := #[] }, { accessFlags := 25, nameIndex := 187, descriptorIndex := 25, attributes := #[] }, { accessFlags := 26, nameIndex := 48, descriptorIndex := 25, attributes := #[] }, { accessFlags := 25, nameIndex := 277, descriptorIndex := 25, attributes := #[] }, { accessFlags := 25, nameIndex := 280, descriptorIndex := 25, attributes := #[] }, { accessFlags := 25, nameIndex := 282, descriptorIndex := 25, attributes := #[] }, { accessFlags := 25, nameIndex := 284, descriptorIndex := 25, attributes := #[] }, { accessFlags := 25, nameIndex := 286, descriptorIndex := 25, attributes := #[] }, { accessFlags := 25, nameIndex := 288, descriptorIndex := 25, attributes := #[] }, { accessFlags := 25, nameIndex := 290, descriptorIndex := 25, attributes := #[] }, { accessFlags := 25, nameIndex := 292, descriptorIndex := 25, attributes := #[] }, { accessFlags := 26, nameIndex := 108, descriptorIndex := 109, attributes := #[] }, { accessFlags := 25, nameIndex := 294, descriptorIndex := 25, attributes := #[] }])
  fields := #[{ name := "U", type := (.object "jdk/internal/misc/Unsafe"), accessFlags := 24, slot := 0, constantValue := 0 }, { name := "BIG_ENDIAN", type := .boolean, accessFlags := 26, slot := 1, constantValue := 0 }, { name := "LOG2_ARRAY_BOOLEAN_INDEX_SCALE", type := .int, accessFlags := 25, slot := 2, constantValue := 0 }, { name := "LOG2_ARRAY_BYTE_INDEX_SCALE", type := .int, accessFlags := 25, slot := 3, constantValue := 0 }, { name := "LOG2_ARRAY_CHAR_INDEX_SCALE", type := .int, accessFlags := 25, slot := 4, constantValue := 0 }, { name := "LOG2_ARRAY_SHORT_INDEX_SCALE", type := .int, accessFlags := 25, slot := 5, constantValue := 0 }, { name := "LOG2_ARRAY_INT_INDEX_SCALE", type := .int, accessFlags := 25, slot := 6, constantValue := 0 }, { name := "LOG2_ARRAY_LONG_INDEX_SCALE", type := .int, accessFlags := 25, slot := 7, constantValue := 0 }, { name := "LOG2_ARRAY_FLOAT_INDEX_SCALE", type := .int, accessFlags := 25, slot := 8, constantValue := 0 }, { name := "LOG2_ARRAY_DOUBLE_INDEX_SCALE", type := .int, accessFlags := 25, slot := 9, constantValue := 0 }, { name := "LOG2_BYTE_BIT_SIZE", type := .int, accessFlags := 26, slot := 10, constantValue := 0 }, { name := "T_BOOLEAN", type := .int, accessFlags := 25, slot := 11, constantValue := 0 }, { name := "T_CHAR", type := .int, accessFlags := 25, slot := 12, constantValue := 0 }, { name := "T_FLOAT", type := .int, accessFlags := 25, slot := 13, constantValue := 0 }, { name := "T_DOUBLE", type := .int, accessFlags := 25, slot := 14, constantValue := 0 }, { name := "T_BYTE", type := .int, accessFlags := 25, slot := 15, constantValue := 0 }, { name := "T_SHORT", type := .int, accessFlags := 25, slot := 16, constantValue := 0 }, { name := "T_INT", type := .int, accessFlags := 25, slot := 17, constantValue := 0 }, { name := "T_LONG", type := .int, accessFlags := 25, slot := 18, constantValue := 0 }, { name := "JLA", type := (.object "jdk/internal/access/JavaLangAccess"), accessFlags := 26, slot := 19, constantValue := 0 }, { name := "SOFT_MAX_ARRAY_LENGTH", type := .int, accessFlags := 25, slot := 20, constantValue := 0 }]
  methods := #[k20m0]
  instanceTypes := #[]
  staticTypes := #[(.object "jdk/internal/misc/Unsafe"), .boolean, .int, .int, .int, .int, .int, .int, .int, .int, .int, .int, .int, .int, .int, .int, .int, .int, .int, (.object "jdk/internal/access/JavaLangAccess"), .int]
  resolved := Array.replicate 378 none
  statics := none }

def pool21 : Array CpInfo := pool [(1, u "java/lang/Cloneable"), (0, .class_ 1), (0, u "java/lang/Object"), (0, .class_ 3)] 3

/-- java/lang/Cloneable -/
def k21 : Class := { plain "java/lang/Cloneable" (some 0) with
  accessFlags := 1537
  interfaces := #[]
  cf := some (fileOf pool21 2 #[] #[] 1537 4 #[] #[])
  fields := #[]
  methods := #[]
  instanceTypes := #[]
  staticTypes := #[]
  resolved := Array.replicate 8 none
  statics := none }

/-- the primitive byte -/
def k22 : Class := { plain "byte" none with kind := .primitive 'B', accessFlags := 0x411 }
/-- [B -/
def k23 : Class := { plain "[B" (some 0) with kind := .array 22 .byte, interfaces := #[21, 2], accessFlags := 1041 }

/-- the primitive int -/
def k24 : Class := { plain "int" none with kind := .primitive 'I', accessFlags := 0x411 }
/-- [I -/
def k25 : Class := { plain "[I" (some 0) with kind := .array 24 .int, interfaces := #[21, 2], accessFlags := 1041 }

def heap : Heap := #[{ cls := 3, slots := #[.ref 4, .null, .long 0], vm := .statics 3 },
  { cls := 9, slots := #[.long 0, .int 1, .null, .int 0, .null, .int 0, .int 0], vm := .statics 9 },
  { cls := 15, slots := #[.int 0, .int 0, .null, .null, .ref 6, .ref 5, .int 0, .int 0, .long 0], vm := .statics 15 },
  { cls := 19, slots := #[.null, .null, .null], vm := .statics 19 },
  { cls := 3, slots := #[.int (-1), .null, .int (-1), .null, .int 0], vm := .none },
  { cls := 23, slots := #[.int 48, .int 49, .int 50, .int 51, .int 52, .int 53, .int 54, .int 55, .int 56, .int 57, .int 48, .int 49, .int 50, .int 51, .int 52, .int 53, .int 54, .int 55, .int 56, .int 57, .int 48, .int 49, .int 50, .int 51, .int 52, .int 53, .int 54, .int 55, .int 56, .int 57, .int 48, .int 49, .int 50, .int 51, .int 52, .int 53, .int 54, .int 55, .int 56, .int 57, .int 48, .int 49, .int 50, .int 51, .int 52, .int 53, .int 54, .int 55, .int 56, .int 57, .int 48, .int 49, .int 50, .int 51, .int 52, .int 53, .int 54, .int 55, .int 56, .int 57, .int 48, .int 49, .int 50, .int 51, .int 52, .int 53, .int 54, .int 55, .int 56, .int 57, .int 48, .int 49, .int 50, .int 51, .int 52, .int 53, .int 54, .int 55, .int 56, .int 57, .int 48, .int 49, .int 50, .int 51, .int 52, .int 53, .int 54, .int 55, .int 56, .int 57, .int 48, .int 49, .int 50, .int 51, .int 52, .int 53, .int 54, .int 55, .int 56, .int 57], vm := .none },
  { cls := 23, slots := #[.int 48, .int 48, .int 48, .int 48, .int 48, .int 48, .int 48, .int 48, .int 48, .int 48, .int 49, .int 49, .int 49, .int 49, .int 49, .int 49, .int 49, .int 49, .int 49, .int 49, .int 50, .int 50, .int 50, .int 50, .int 50, .int 50, .int 50, .int 50, .int 50, .int 50, .int 51, .int 51, .int 51, .int 51, .int 51, .int 51, .int 51, .int 51, .int 51, .int 51, .int 52, .int 52, .int 52, .int 52, .int 52, .int 52, .int 52, .int 52, .int 52, .int 52, .int 53, .int 53, .int 53, .int 53, .int 53, .int 53, .int 53, .int 53, .int 53, .int 53, .int 54, .int 54, .int 54, .int 54, .int 54, .int 54, .int 54, .int 54, .int 54, .int 54, .int 55, .int 55, .int 55, .int 55, .int 55, .int 55, .int 55, .int 55, .int 55, .int 55, .int 56, .int 56, .int 56, .int 56, .int 56, .int 56, .int 56, .int 56, .int 56, .int 56, .int 57, .int 57, .int 57, .int 57, .int 57, .int 57, .int 57, .int 57, .int 57, .int 57], vm := .none }]
def classes : Array Class := #[k0, k1, k2, k3, k4, k5, k6, k7, k8, k9, k10, k11, k12, k13, k14, k15, k16, k17, k18, k19, k20, k21, k22, k23, k24, k25]
def interned : List (Array UInt16 × Addr) := []
def slotsUsed : Nat := 227
def theMethod : MethodId := ⟨1, 4⟩
def args0 : Array Value := #[.int 12, .int 5, .int 0]
def aboutOver (below : List Frame) : State where
  vm := { classes := classes, interned := interned.toArray }
  heap := heap
  slotsUsed := slotsUsed
  threads := #[{ frames := .invoking theMethod args0 :: below }]
def below0 : List Frame := [.native { method := ⟨0, 0⟩, args := #[] }]
def about1 : State := aboutOver below0
def p0 : Program := .bare "" "" ""
def e0 : Env := launch0.env 0 0 0
theorem w_frames : about1.frames = Frame.invoking theMethod args0 :: below0 := rfl
set_option maxRecDepth 65536 in
theorem w_args : argsFit about1.vm theMethod args0 = true := by decide +kernel
set_option maxRecDepth 65536 in
theorem w_heap : heapFits about1 = true := by decide +kernel
set_option maxRecDepth 65536 in
theorem w_runnable : about1.curStatus? = some .runnable := by decide +kernel
set_option maxRecDepth 65536 in
theorem w_alone : about1.alone = true := by decide +kernel
set_option maxRecDepth 65536 in
theorem w_named : about1.methodNamed? x = some theMethod := by decide +kernel
set_option maxRecDepth 65536 in
theorem w_hears : about1.hears theMethod below0 = true := by decide +kernel
set_option maxRecDepth 65536 in
theorem w_ripe : about1.ripe theMethod args0 below0 = true := by decide +kernel
theorem w_running : about1.status = .running := rfl
set_option maxRecDepth 65536 in
theorem w_room : about1.hasRoom e0.platform room_1 = true :=
  launch0.hasRoom_least _ room_1 (by decide +kernel) (by decide +kernel) (by decide +kernel) (by decide +kernel) (by decide +kernel) (by decide +kernel)
theorem allAtoms_all (ts : List Jvm.Cond) (a : Array Jvm.Value) (st : Jvm.State) : (allAtoms ts).before a st = ts.all (fun c => c.before a st) := by
  induction ts with
  | nil => rfl
  | cons c t ih =>
    show (Jvm.Cond.and c (allAtoms t)).before a st = _
    rw [Jvm.Cond.before_and, ih, List.all_cons]
def words1 : List Jvm.Cond := Jvm.Cond.code x code maxLocals ret :: tables_1
/-- a 'code' word, met by the world's own term for the bytes: nothing is compared byte by byte -/
theorem code_word {y : MethodName} {bytes : ByteArray} {mx : Nat} {rt : Option FieldType} {a : Array Value} {s : State} {m : MethodId} {meth : Method} {c : Code} (h1 : s.methodNamed? y = some m) (h2 : s.vm.method? m = some meth) (h3 : meth.code = some c) (h4 : c.code = bytes)
    (h5 : (c.maxLocals == mx && c.exceptionTable.isEmpty && decide (c.maxStack ≤ mostOperands) && decide (meth.sig.returnType = rt) && !meth.locks && decide (parseMethodDescriptor y.desc = some meth.sig)) = true) : (Jvm.Cond.code y bytes mx rt).before a s = true := by
  simp only [Bool.and_eq_true, beq_iff_eq, Bool.not_eq_true', decide_eq_true_eq] at h5
  obtain ⟨⟨⟨⟨⟨g1, g2⟩, g3⟩, g4⟩, g5⟩, g6⟩ := h5
  simp [Cond.before, Cond.holds, Cond.value, h1, h2, h3, h4, g1, g2, g3, g4, g5, g6]
def isCode : Jvm.Cond → Bool
  | .code _ _ _ _ => true
  | _ => false
theorem all_split {L : List Jvm.Cond} {P : Jvm.Cond → Bool} (h1 : L.all (fun c => isCode c || P c) = true) (h2 : ∀ c ∈ L.filter isCode, P c = true) : L.all P = true := by
  refine List.all_eq_true.mpr fun c hc => ?_
  have h := List.all_eq_true.mp h1 c hc
  rcases Bool.eq_false_or_eq_true (isCode c) with hi | hi
  · exact h2 c (List.mem_filter.mpr ⟨hc, hi⟩)
  · simpa [hi] using h
set_option maxRecDepth 65536 in
theorem w_c0 : (Jvm.Cond.code x code maxLocals ret).before args0 about1 = true := code_word (m := ⟨1, 4⟩) (meth := k1m4) (c := k1c4) (by decide +kernel) rfl rfl rfl (by decide +kernel)
set_option maxRecDepth 65536 in
theorem w_c1 : (Jvm.Cond.code ({ cls := "com/example/salish/salish/SchemaFault$Place", name := "ofValue", desc := "(I)Lcom/example/salish/salish/SchemaFault$Place;" } : Jvm.MethodName) prog_7_method_2_code (1 : Nat) (Option.some (Jvm.ClassFile.FieldType.object "com/example/salish/salish/SchemaFault$Place"))).before args0 about1 = true := code_word (m := ⟨3, 1⟩) (meth := k3m1) (c := k3c1) (by decide +kernel) rfl rfl rfl (by decide +kernel)
set_option maxRecDepth 65536 in
theorem w_c2 : (Jvm.Cond.code ({ cls := "com/example/salish/salish/SchemaFault$Place", name := "<init>", desc := "(ILjava/lang/String;ILjava/lang/String;I)V" } : Jvm.MethodName) prog_7_method_1_code (6 : Nat) (Option.none : Option Jvm.ClassFile.FieldType)).before args0 about1 = true := code_word (m := ⟨3, 0⟩) (meth := k3m0) (c := k3c0) (by decide +kernel) rfl rfl rfl (by decide +kernel)
set_option maxRecDepth 65536 in
theorem w_c3 : (Jvm.Cond.code ({ cls := "java/lang/Object", name := "<init>", desc := "()V" } : Jvm.MethodName) object_method_1_code (1 : Nat) (Option.none : Option Jvm.ClassFile.FieldType)).before args0 about1 = true := code_word (m := ⟨0, 0⟩) (meth := k0m0) (c := k0c0) (by decide +kernel) rfl rfl rfl (by decide +kernel)
set_option maxRecDepth 65536 in
theorem w_c4 : (Jvm.Cond.code ({ cls := "com/example/salish/salish/SchemaFault$Place", name := "value", desc := "()I" } : Jvm.MethodName) prog_7_method_6_code (1 : Nat) (Option.some Jvm.ClassFile.FieldType.int)).before args0 about1 = true := code_word (m := ⟨3, 2⟩) (meth := k3m2) (c := k3c2) (by decide +kernel) rfl rfl rfl (by decide +kernel)
set_option maxRecDepth 65536 in
theorem w_c5 : (Jvm.Cond.code ({ cls := "com/example/salish/salish/SchemaFault$Place", name := "field", desc := "()I" } : Jvm.MethodName) prog_7_method_8_code (1 : Nat) (Option.some Jvm.ClassFile.FieldType.int)).before args0 about1 = true := code_word (m := ⟨3, 3⟩) (meth := k3m3) (c := k3c3) (by decide +kernel) rfl rfl rfl (by decide +kernel)
set_option maxRecDepth 65536 in
theorem w_c6 : (Jvm.Cond.code ({ cls := "com/example/salish/salish/SchemaFault$Place", name := "equals", desc := "(Ljava/lang/Object;)Z" } : Jvm.MethodName) prog_7_method_11_code (3 : Nat) (Option.some Jvm.ClassFile.FieldType.boolean)).before args0 about1 = true := code_word (m := ⟨3, 5⟩) (meth := k3m5) (c := k3c5) (by decide +kernel) rfl rfl rfl (by decide +kernel)
set_option maxRecDepth 65536 in
theorem w_c7 : (Jvm.Cond.code ({ cls := "java/util/Objects", name := "equals", desc := "(Ljava/lang/Object;Ljava/lang/Object;)Z" } : Jvm.MethodName) jdk_31_method_2_code (2 : Nat) (Option.some Jvm.ClassFile.FieldType.boolean)).before args0 about1 = true := code_word (m := ⟨4, 1⟩) (meth := k4m1) (c := k4c1) (by decide +kernel) rfl rfl rfl (by decide +kernel)
set_option maxRecDepth 65536 in
theorem w_c8 : (Jvm.Cond.code ({ cls := "com/example/salish/salish/SchemaFault$Place", name := "toString", desc := "()Ljava/lang/String;" } : Jvm.MethodName) prog_7_method_10_code (2 : Nat) (Option.some (Jvm.ClassFile.FieldType.object "java/lang/String"))).before args0 about1 = true := code_word (m := ⟨3, 4⟩) (meth := k3m4) (c := k3c4) (by decide +kernel) rfl rfl rfl (by decide +kernel)
set_option maxRecDepth 65536 in
theorem w_c9 : (Jvm.Cond.code ({ cls := "java/lang/String", name := "isEmpty", desc := "()Z" } : Jvm.MethodName) jdk_42_method_55_code (1 : Nat) (Option.some Jvm.ClassFile.FieldType.boolean)).before args0 about1 = true := code_word (m := ⟨9, 3⟩) (meth := k9m3) (c := k9c3) (by decide +kernel) rfl rfl rfl (by decide +kernel)
set_option maxRecDepth 65536 in
theorem w_c10 : (Jvm.Cond.code ({ cls := "java/lang/StringBuilder", name := "<init>", desc := "()V" } : Jvm.MethodName) jdk_67_method_1_code (1 : Nat) (Option.none : Option Jvm.ClassFile.FieldType)).before args0 about1 = true := code_word (m := ⟨12, 0⟩) (meth := k12m0) (c := k12c0) (by decide +kernel) rfl rfl rfl (by decide +kernel)
set_option maxRecDepth 65536 in
theorem w_c11 : (Jvm.Cond.code ({ cls := "java/lang/AbstractStringBuilder", name := "<init>", desc := "(I)V" } : Jvm.MethodName) jdk_68_method_2_code (2 : Nat) (Option.none : Option Jvm.ClassFile.FieldType)).before args0 about1 = true := code_word (m := ⟨11, 1⟩) (meth := k11m1) (c := k11c1) (by decide +kernel) rfl rfl rfl (by decide +kernel)
set_option maxRecDepth 65536 in
theorem w_c12 : (Jvm.Cond.code ({ cls := "java/lang/StringBuilder", name := "append", desc := "(Ljava/lang/String;)Ljava/lang/StringBuilder;" } : Jvm.MethodName) jdk_67_method_7_code (2 : Nat) (Option.some (Jvm.ClassFile.FieldType.object "java/lang/StringBuilder"))).before args0 about1 = true := code_word (m := ⟨12, 1⟩) (meth := k12m1) (c := k12c1) (by decide +kernel) rfl rfl rfl (by decide +kernel)
set_option maxRecDepth 65536 in
theorem w_c13 : (Jvm.Cond.code ({ cls := "java/lang/AbstractStringBuilder", name := "append", desc := "(Ljava/lang/String;)Ljava/lang/AbstractStringBuilder;" } : Jvm.MethodName) jdk_68_method_22_code (3 : Nat) (Option.some (Jvm.ClassFile.FieldType.object "java/lang/AbstractStringBuilder"))).before args0 about1 = true := code_word (m := ⟨11, 4⟩) (meth := k11m4) (c := k11c4) (by decide +kernel) rfl rfl rfl (by decide +kernel)
set_option maxRecDepth 65536 in
theorem w_c14 : (Jvm.Cond.code ({ cls := "java/lang/String", name := "length", desc := "()I" } : Jvm.MethodName) jdk_42_method_54_code (1 : Nat) (Option.some Jvm.ClassFile.FieldType.int)).before args0 about1 = true := code_word (m := ⟨9, 2⟩) (meth := k9m2) (c := k9c2) (by decide +kernel) rfl rfl rfl (by decide +kernel)
set_option maxRecDepth 65536 in
theorem w_c15 : (Jvm.Cond.code ({ cls := "java/lang/String", name := "coder", desc := "()B" } : Jvm.MethodName) jdk_42_method_152_code (1 : Nat) (Option.some Jvm.ClassFile.FieldType.byte)).before args0 about1 = true := code_word (m := ⟨9, 7⟩) (meth := k9m7) (c := k9c7) (by decide +kernel) rfl rfl rfl (by decide +kernel)
set_option maxRecDepth 65536 in
theorem w_c16 : (Jvm.Cond.code ({ cls := "java/lang/AbstractStringBuilder", name := "ensureCapacityInternal", desc := "(I)V" } : Jvm.MethodName) jdk_68_method_9_code (3 : Nat) (Option.none : Option Jvm.ClassFile.FieldType)).before args0 about1 = true := code_word (m := ⟨11, 3⟩) (meth := k11m3) (c := k11c3) (by decide +kernel) rfl rfl rfl (by decide +kernel)
set_option maxRecDepth 65536 in
theorem w_c17 : (Jvm.Cond.code ({ cls := "java/lang/AbstractStringBuilder", name := "putStringAt", desc := "(ILjava/lang/String;)V" } : Jvm.MethodName) jdk_68_method_73_code (3 : Nat) (Option.none : Option Jvm.ClassFile.FieldType)).before args0 about1 = true := code_word (m := ⟨11, 9⟩) (meth := k11m9) (c := k11c9) (by decide +kernel) rfl rfl rfl (by decide +kernel)
set_option maxRecDepth 65536 in
theorem w_c18 : (Jvm.Cond.code ({ cls := "java/lang/AbstractStringBuilder", name := "inflateIfNeededFor", desc := "(Ljava/lang/String;)V" } : Jvm.MethodName) jdk_68_method_71_code (2 : Nat) (Option.none : Option Jvm.ClassFile.FieldType)).before args0 about1 = true := code_word (m := ⟨11, 8⟩) (meth := k11m8) (c := k11c8) (by decide +kernel) rfl rfl rfl (by decide +kernel)
set_option maxRecDepth 65536 in
theorem w_c19 : (Jvm.Cond.code ({ cls := "java/lang/String", name := "getBytes", desc := "([BIB)V" } : Jvm.MethodName) jdk_42_method_147_code (4 : Nat) (Option.none : Option Jvm.ClassFile.FieldType)).before args0 about1 = true := code_word (m := ⟨9, 5⟩) (meth := k9m5) (c := k9c5) (by decide +kernel) rfl rfl rfl (by decide +kernel)
set_option maxRecDepth 65536 in
theorem w_c20 : (Jvm.Cond.code ({ cls := "java/lang/StringBuilder", name := "append", desc := "(I)Ljava/lang/StringBuilder;" } : Jvm.MethodName) jdk_67_method_15_code (2 : Nat) (Option.some (Jvm.ClassFile.FieldType.object "java/lang/StringBuilder"))).before args0 about1 = true := code_word (m := ⟨12, 2⟩) (meth := k12m2) (c := k12c2) (by decide +kernel) rfl rfl rfl (by decide +kernel)
set_option maxRecDepth 65536 in
theorem w_c21 : (Jvm.Cond.code ({ cls := "java/lang/AbstractStringBuilder", name := "append", desc := "(I)Ljava/lang/AbstractStringBuilder;" } : Jvm.MethodName) jdk_68_method_32_code (4 : Nat) (Option.some (Jvm.ClassFile.FieldType.object "java/lang/AbstractStringBuilder"))).before args0 about1 = true := code_word (m := ⟨11, 5⟩) (meth := k11m5) (c := k11c5) (by decide +kernel) rfl rfl rfl (by decide +kernel)
set_option maxRecDepth 65536 in
theorem w_c22 : (Jvm.Cond.code ({ cls := "java/lang/Integer", name := "stringSize", desc := "(I)I" } : Jvm.MethodName) jdk_33_method_13_code (4 : Nat) (Option.some Jvm.ClassFile.FieldType.int)).before args0 about1 = true := code_word (m := ⟨15, 1⟩) (meth := k15m1) (c := k15c1) (by decide +kernel) rfl rfl rfl (by decide +kernel)
set_option maxRecDepth 65536 in
theorem w_c23 : (Jvm.Cond.code ({ cls := "java/lang/AbstractStringBuilder", name := "isLatin1", desc := "()Z" } : Jvm.MethodName) jdk_68_method_68_code (1 : Nat) (Option.some Jvm.ClassFile.FieldType.boolean)).before args0 about1 = true := code_word (m := ⟨11, 7⟩) (meth := k11m7) (c := k11c7) (by decide +kernel) rfl rfl rfl (by decide +kernel)
set_option maxRecDepth 65536 in
theorem w_c24 : (Jvm.Cond.code ({ cls := "java/lang/Integer", name := "getChars", desc := "(II[B)I" } : Jvm.MethodName) jdk_33_method_12_code (7 : Nat) (Option.some Jvm.ClassFile.FieldType.int)).before args0 about1 = true := code_word (m := ⟨15, 0⟩) (meth := k15m0) (c := k15c0) (by decide +kernel) rfl rfl rfl (by decide +kernel)
set_option maxRecDepth 65536 in
theorem w_c25 : (Jvm.Cond.code ({ cls := "java/lang/StringBuilder", name := "toString", desc := "()Ljava/lang/String;" } : Jvm.MethodName) jdk_67_method_42_code (1 : Nat) (Option.some (Jvm.ClassFile.FieldType.object "java/lang/String"))).before args0 about1 = true := code_word (m := ⟨12, 3⟩) (meth := k12m3) (c := k12c3) (by decide +kernel) rfl rfl rfl (by decide +kernel)
set_option maxRecDepth 65536 in
theorem w_c26 : (Jvm.Cond.code ({ cls := "java/lang/String", name := "<init>", desc := "(Ljava/lang/StringBuilder;)V" } : Jvm.MethodName) jdk_42_method_53_code (2 : Nat) (Option.none : Option Jvm.ClassFile.FieldType)).before args0 about1 = true := code_word (m := ⟨9, 1⟩) (meth := k9m1) (c := k9c1) (by decide +kernel) rfl rfl rfl (by decide +kernel)
set_option maxRecDepth 65536 in
theorem w_c27 : (Jvm.Cond.code ({ cls := "java/lang/String", name := "<init>", desc := "(Ljava/lang/AbstractStringBuilder;Ljava/lang/Void;)V" } : Jvm.MethodName) jdk_42_method_150_code (5 : Nat) (Option.none : Option Jvm.ClassFile.FieldType)).before args0 about1 = true := code_word (m := ⟨9, 6⟩) (meth := k9m6) (c := k9c6) (by decide +kernel) rfl rfl rfl (by decide +kernel)
set_option maxRecDepth 65536 in
theorem w_c28 : (Jvm.Cond.code ({ cls := "java/lang/AbstractStringBuilder", name := "getValue", desc := "()[B" } : Jvm.MethodName) jdk_68_method_64_code (1 : Nat) (Option.some (Jvm.ClassFile.FieldType.array Jvm.ClassFile.FieldType.byte))).before args0 about1 = true := code_word (m := ⟨11, 6⟩) (meth := k11m6) (c := k11c6) (by decide +kernel) rfl rfl rfl (by decide +kernel)
set_option maxRecDepth 65536 in
theorem w_c29 : (Jvm.Cond.code ({ cls := "java/lang/StringBuilder", name := "length", desc := "()I" } : Jvm.MethodName) jdk_67_method_93_code (1 : Nat) (Option.some Jvm.ClassFile.FieldType.int)).before args0 about1 = true := code_word (m := ⟨12, 4⟩) (meth := k12m4) (c := k12c4) (by decide +kernel) rfl rfl rfl (by decide +kernel)
set_option maxRecDepth 65536 in
theorem w_c30 : (Jvm.Cond.code ({ cls := "java/lang/AbstractStringBuilder", name := "length", desc := "()I" } : Jvm.MethodName) jdk_68_method_6_code (1 : Nat) (Option.some Jvm.ClassFile.FieldType.int)).before args0 about1 = true := code_word (m := ⟨11, 2⟩) (meth := k11m2) (c := k11c2) (by decide +kernel) rfl rfl rfl (by decide +kernel)
set_option maxRecDepth 65536 in
theorem w_c31 : (Jvm.Cond.code ({ cls := "java/util/Arrays", name := "copyOfRange", desc := "([BII)[B" } : Jvm.MethodName) jdk_65_method_132_code (3 : Nat) (Option.some (Jvm.ClassFile.FieldType.array Jvm.ClassFile.FieldType.byte))).before args0 about1 = true := code_word (m := ⟨16, 2⟩) (meth := k16m2) (c := k16c2) (by decide +kernel) rfl rfl rfl (by decide +kernel)
set_option maxRecDepth 65536 in
theorem w_c32 : (Jvm.Cond.code ({ cls := "java/util/Arrays", name := "copyOfRangeByte", desc := "([BII)[B" } : Jvm.MethodName) jdk_65_method_133_code (5 : Nat) (Option.some (Jvm.ClassFile.FieldType.array Jvm.ClassFile.FieldType.byte))).before args0 about1 = true := code_word (m := ⟨16, 3⟩) (meth := k16m3) (c := k16c3) (by decide +kernel) rfl rfl rfl (by decide +kernel)
set_option maxRecDepth 65536 in
theorem w_c33 : (Jvm.Cond.code ({ cls := "java/util/Arrays", name := "checkLength", desc := "(II)V" } : Jvm.MethodName) jdk_65_method_131_code (2 : Nat) (Option.none : Option Jvm.ClassFile.FieldType)).before args0 about1 = true := code_word (m := ⟨16, 1⟩) (meth := k16m1) (c := k16c1) (by decide +kernel) rfl rfl rfl (by decide +kernel)
set_option maxRecDepth 65536 in
theorem w_c34 : (Jvm.Cond.code ({ cls := "java/lang/Math", name := "min", desc := "(II)I" } : Jvm.MethodName) jdk_29_method_69_code (2 : Nat) (Option.some Jvm.ClassFile.FieldType.int)).before args0 about1 = true := code_word (m := ⟨17, 1⟩) (meth := k17m1) (c := k17c1) (by decide +kernel) rfl rfl rfl (by decide +kernel)
set_option maxRecDepth 65536 in
theorem w_c35 : (Jvm.Cond.code ({ cls := "com/example/salish/salish/PlaceOfValuePinLaw", name := "digits", desc := "(I)I" } : Jvm.MethodName) method_2_code (1 : Nat) (Option.some Jvm.ClassFile.FieldType.int)).before args0 about1 = true := code_word (m := ⟨1, 1⟩) (meth := k1m1) (c := k1c1) (by decide +kernel) rfl rfl rfl (by decide +kernel)
set_option maxRecDepth 65536 in
theorem w_c36 : (Jvm.Cond.code ({ cls := "java/lang/String", name := "charAt", desc := "(I)C" } : Jvm.MethodName) jdk_42_method_56_code (2 : Nat) (Option.some Jvm.ClassFile.FieldType.char)).before args0 about1 = true := code_word (m := ⟨9, 4⟩) (meth := k9m4) (c := k9c4) (by decide +kernel) rfl rfl rfl (by decide +kernel)
set_option maxRecDepth 65536 in
theorem w_c37 : (Jvm.Cond.code ({ cls := "java/lang/String", name := "isLatin1", desc := "()Z" } : Jvm.MethodName) jdk_42_method_154_code (1 : Nat) (Option.some Jvm.ClassFile.FieldType.boolean)).before args0 about1 = true := code_word (m := ⟨9, 8⟩) (meth := k9m8) (c := k9c8) (by decide +kernel) rfl rfl rfl (by decide +kernel)
set_option maxRecDepth 65536 in
theorem w_c38 : (Jvm.Cond.code ({ cls := "java/lang/StringLatin1", name := "charAt", desc := "([BI)C" } : Jvm.MethodName) jdk_43_method_2_code (2 : Nat) (Option.some Jvm.ClassFile.FieldType.char)).before args0 about1 = true := code_word (m := ⟨18, 1⟩) (meth := k18m1) (c := k18c1) (by decide +kernel) rfl rfl rfl (by decide +kernel)
set_option maxRecDepth 65536 in
theorem w_c39 : (Jvm.Cond.code ({ cls := "java/lang/String", name := "checkIndex", desc := "(II)V" } : Jvm.MethodName) jdk_42_method_155_code (2 : Nat) (Option.none : Option Jvm.ClassFile.FieldType)).before args0 about1 = true := code_word (m := ⟨9, 9⟩) (meth := k9m9) (c := k9c9) (by decide +kernel) rfl rfl rfl (by decide +kernel)
set_option maxRecDepth 65536 in
theorem w_c40 : (Jvm.Cond.code ({ cls := "jdk/internal/util/Preconditions", name := "checkIndex", desc := "(IILjava/util/function/BiFunction;)I" } : Jvm.MethodName) jdk_41_method_11_code (3 : Nat) (Option.some Jvm.ClassFile.FieldType.int)).before args0 about1 = true := code_word (m := ⟨19, 1⟩) (meth := k19m1) (c := k19c1) (by decide +kernel) rfl rfl rfl (by decide +kernel)
set_option maxRecDepth 65536 in
theorem w_c41 : (Jvm.Cond.code ({ cls := "com/example/salish/salish/PlaceOfValuePinLaw", name := "digitOk", desc := "(Ljava/lang/String;III)Z" } : Jvm.MethodName) method_4_code (5 : Nat) (Option.some Jvm.ClassFile.FieldType.boolean)).before args0 about1 = true := code_word (m := ⟨1, 3⟩) (meth := k1m3) (c := k1c3) (by decide +kernel) rfl rfl rfl (by decide +kernel)
set_option maxRecDepth 65536 in
theorem w_c42 : (Jvm.Cond.code ({ cls := "com/example/salish/salish/PlaceOfValuePinLaw", name := "pow10", desc := "(I)I" } : Jvm.MethodName) method_3_code (2 : Nat) (Option.some Jvm.ClassFile.FieldType.int)).before args0 about1 = true := code_word (m := ⟨1, 2⟩) (meth := k1m2) (c := k1c2) (by decide +kernel) rfl rfl rfl (by decide +kernel)
def codes1 : List Jvm.Cond := [Jvm.Cond.code x code maxLocals ret, Jvm.Cond.code ({ cls := "com/example/salish/salish/SchemaFault$Place", name := "ofValue", desc := "(I)Lcom/example/salish/salish/SchemaFault$Place;" } : Jvm.MethodName) prog_7_method_2_code (1 : Nat) (Option.some (Jvm.ClassFile.FieldType.object "com/example/salish/salish/SchemaFault$Place")), Jvm.Cond.code ({ cls := "com/example/salish/salish/SchemaFault$Place", name := "<init>", desc := "(ILjava/lang/String;ILjava/lang/String;I)V" } : Jvm.MethodName) prog_7_method_1_code (6 : Nat) (Option.none : Option Jvm.ClassFile.FieldType), Jvm.Cond.code ({ cls := "java/lang/Object", name := "<init>", desc := "()V" } : Jvm.MethodName) object_method_1_code (1 : Nat) (Option.none : Option Jvm.ClassFile.FieldType), Jvm.Cond.code ({ cls := "com/example/salish/salish/SchemaFault$Place", name := "value", desc := "()I" } : Jvm.MethodName) prog_7_method_6_code (1 : Nat) (Option.some Jvm.ClassFile.FieldType.int), Jvm.Cond.code ({ cls := "com/example/salish/salish/SchemaFault$Place", name := "field", desc := "()I" } : Jvm.MethodName) prog_7_method_8_code (1 : Nat) (Option.some Jvm.ClassFile.FieldType.int), Jvm.Cond.code ({ cls := "com/example/salish/salish/SchemaFault$Place", name := "equals", desc := "(Ljava/lang/Object;)Z" } : Jvm.MethodName) prog_7_method_11_code (3 : Nat) (Option.some Jvm.ClassFile.FieldType.boolean), Jvm.Cond.code ({ cls := "java/util/Objects", name := "equals", desc := "(Ljava/lang/Object;Ljava/lang/Object;)Z" } : Jvm.MethodName) jdk_31_method_2_code (2 : Nat) (Option.some Jvm.ClassFile.FieldType.boolean), Jvm.Cond.code ({ cls := "com/example/salish/salish/SchemaFault$Place", name := "toString", desc := "()Ljava/lang/String;" } : Jvm.MethodName) prog_7_method_10_code (2 : Nat) (Option.some (Jvm.ClassFile.FieldType.object "java/lang/String")), Jvm.Cond.code ({ cls := "java/lang/String", name := "isEmpty", desc := "()Z" } : Jvm.MethodName) jdk_42_method_55_code (1 : Nat) (Option.some Jvm.ClassFile.FieldType.boolean), Jvm.Cond.code ({ cls := "java/lang/StringBuilder", name := "<init>", desc := "()V" } : Jvm.MethodName) jdk_67_method_1_code (1 : Nat) (Option.none : Option Jvm.ClassFile.FieldType), Jvm.Cond.code ({ cls := "java/lang/AbstractStringBuilder", name := "<init>", desc := "(I)V" } : Jvm.MethodName) jdk_68_method_2_code (2 : Nat) (Option.none : Option Jvm.ClassFile.FieldType), Jvm.Cond.code ({ cls := "java/lang/StringBuilder", name := "append", desc := "(Ljava/lang/String;)Ljava/lang/StringBuilder;" } : Jvm.MethodName) jdk_67_method_7_code (2 : Nat) (Option.some (Jvm.ClassFile.FieldType.object "java/lang/StringBuilder")), Jvm.Cond.code ({ cls := "java/lang/AbstractStringBuilder", name := "append", desc := "(Ljava/lang/String;)Ljava/lang/AbstractStringBuilder;" } : Jvm.MethodName) jdk_68_method_22_code (3 : Nat) (Option.some (Jvm.ClassFile.FieldType.object "java/lang/AbstractStringBuilder")), Jvm.Cond.code ({ cls := "java/lang/String", name := "length", desc := "()I" } : Jvm.MethodName) jdk_42_method_54_code (1 : Nat) (Option.some Jvm.ClassFile.FieldType.int), Jvm.Cond.code ({ cls := "java/lang/String", name := "coder", desc := "()B" } : Jvm.MethodName) jdk_42_method_152_code (1 : Nat) (Option.some Jvm.ClassFile.FieldType.byte), Jvm.Cond.code ({ cls := "java/lang/AbstractStringBuilder", name := "ensureCapacityInternal", desc := "(I)V" } : Jvm.MethodName) jdk_68_method_9_code (3 : Nat) (Option.none : Option Jvm.ClassFile.FieldType), Jvm.Cond.code ({ cls := "java/lang/AbstractStringBuilder", name := "putStringAt", desc := "(ILjava/lang/String;)V" } : Jvm.MethodName) jdk_68_method_73_code (3 : Nat) (Option.none : Option Jvm.ClassFile.FieldType), Jvm.Cond.code ({ cls := "java/lang/AbstractStringBuilder", name := "inflateIfNeededFor", desc := "(Ljava/lang/String;)V" } : Jvm.MethodName) jdk_68_method_71_code (2 : Nat) (Option.none : Option Jvm.ClassFile.FieldType), Jvm.Cond.code ({ cls := "java/lang/String", name := "getBytes", desc := "([BIB)V" } : Jvm.MethodName) jdk_42_method_147_code (4 : Nat) (Option.none : Option Jvm.ClassFile.FieldType), Jvm.Cond.code ({ cls := "java/lang/StringBuilder", name := "append", desc := "(I)Ljava/lang/StringBuilder;" } : Jvm.MethodName) jdk_67_method_15_code (2 : Nat) (Option.some (Jvm.ClassFile.FieldType.object "java/lang/StringBuilder")), Jvm.Cond.code ({ cls := "java/lang/AbstractStringBuilder", name := "append", desc := "(I)Ljava/lang/AbstractStringBuilder;" } : Jvm.MethodName) jdk_68_method_32_code (4 : Nat) (Option.some (Jvm.ClassFile.FieldType.object "java/lang/AbstractStringBuilder")), Jvm.Cond.code ({ cls := "java/lang/Integer", name := "stringSize", desc := "(I)I" } : Jvm.MethodName) jdk_33_method_13_code (4 : Nat) (Option.some Jvm.ClassFile.FieldType.int), Jvm.Cond.code ({ cls := "java/lang/AbstractStringBuilder", name := "isLatin1", desc := "()Z" } : Jvm.MethodName) jdk_68_method_68_code (1 : Nat) (Option.some Jvm.ClassFile.FieldType.boolean), Jvm.Cond.code ({ cls := "java/lang/Integer", name := "getChars", desc := "(II[B)I" } : Jvm.MethodName) jdk_33_method_12_code (7 : Nat) (Option.some Jvm.ClassFile.FieldType.int), Jvm.Cond.code ({ cls := "java/lang/StringBuilder", name := "toString", desc := "()Ljava/lang/String;" } : Jvm.MethodName) jdk_67_method_42_code (1 : Nat) (Option.some (Jvm.ClassFile.FieldType.object "java/lang/String")), Jvm.Cond.code ({ cls := "java/lang/String", name := "<init>", desc := "(Ljava/lang/StringBuilder;)V" } : Jvm.MethodName) jdk_42_method_53_code (2 : Nat) (Option.none : Option Jvm.ClassFile.FieldType), Jvm.Cond.code ({ cls := "java/lang/String", name := "<init>", desc := "(Ljava/lang/AbstractStringBuilder;Ljava/lang/Void;)V" } : Jvm.MethodName) jdk_42_method_150_code (5 : Nat) (Option.none : Option Jvm.ClassFile.FieldType), Jvm.Cond.code ({ cls := "java/lang/AbstractStringBuilder", name := "getValue", desc := "()[B" } : Jvm.MethodName) jdk_68_method_64_code (1 : Nat) (Option.some (Jvm.ClassFile.FieldType.array Jvm.ClassFile.FieldType.byte)), Jvm.Cond.code ({ cls := "java/lang/StringBuilder", name := "length", desc := "()I" } : Jvm.MethodName) jdk_67_method_93_code (1 : Nat) (Option.some Jvm.ClassFile.FieldType.int), Jvm.Cond.code ({ cls := "java/lang/AbstractStringBuilder", name := "length", desc := "()I" } : Jvm.MethodName) jdk_68_method_6_code (1 : Nat) (Option.some Jvm.ClassFile.FieldType.int), Jvm.Cond.code ({ cls := "java/util/Arrays", name := "copyOfRange", desc := "([BII)[B" } : Jvm.MethodName) jdk_65_method_132_code (3 : Nat) (Option.some (Jvm.ClassFile.FieldType.array Jvm.ClassFile.FieldType.byte)), Jvm.Cond.code ({ cls := "java/util/Arrays", name := "copyOfRangeByte", desc := "([BII)[B" } : Jvm.MethodName) jdk_65_method_133_code (5 : Nat) (Option.some (Jvm.ClassFile.FieldType.array Jvm.ClassFile.FieldType.byte)), Jvm.Cond.code ({ cls := "java/util/Arrays", name := "checkLength", desc := "(II)V" } : Jvm.MethodName) jdk_65_method_131_code (2 : Nat) (Option.none : Option Jvm.ClassFile.FieldType), Jvm.Cond.code ({ cls := "java/lang/Math", name := "min", desc := "(II)I" } : Jvm.MethodName) jdk_29_method_69_code (2 : Nat) (Option.some Jvm.ClassFile.FieldType.int), Jvm.Cond.code ({ cls := "com/example/salish/salish/PlaceOfValuePinLaw", name := "digits", desc := "(I)I" } : Jvm.MethodName) method_2_code (1 : Nat) (Option.some Jvm.ClassFile.FieldType.int), Jvm.Cond.code ({ cls := "java/lang/String", name := "charAt", desc := "(I)C" } : Jvm.MethodName) jdk_42_method_56_code (2 : Nat) (Option.some Jvm.ClassFile.FieldType.char), Jvm.Cond.code ({ cls := "java/lang/String", name := "isLatin1", desc := "()Z" } : Jvm.MethodName) jdk_42_method_154_code (1 : Nat) (Option.some Jvm.ClassFile.FieldType.boolean), Jvm.Cond.code ({ cls := "java/lang/StringLatin1", name := "charAt", desc := "([BI)C" } : Jvm.MethodName) jdk_43_method_2_code (2 : Nat) (Option.some Jvm.ClassFile.FieldType.char), Jvm.Cond.code ({ cls := "java/lang/String", name := "checkIndex", desc := "(II)V" } : Jvm.MethodName) jdk_42_method_155_code (2 : Nat) (Option.none : Option Jvm.ClassFile.FieldType), Jvm.Cond.code ({ cls := "jdk/internal/util/Preconditions", name := "checkIndex", desc := "(IILjava/util/function/BiFunction;)I" } : Jvm.MethodName) jdk_41_method_11_code (3 : Nat) (Option.some Jvm.ClassFile.FieldType.int), Jvm.Cond.code ({ cls := "com/example/salish/salish/PlaceOfValuePinLaw", name := "digitOk", desc := "(Ljava/lang/String;III)Z" } : Jvm.MethodName) method_4_code (5 : Nat) (Option.some Jvm.ClassFile.FieldType.boolean), Jvm.Cond.code ({ cls := "com/example/salish/salish/PlaceOfValuePinLaw", name := "pow10", desc := "(I)I" } : Jvm.MethodName) method_3_code (2 : Nat) (Option.some Jvm.ClassFile.FieldType.int)]
set_option maxRecDepth 65536 in
theorem codes_eq : words1.filter isCode = codes1 := rfl
theorem w_codes : ∀ c ∈ words1.filter isCode, c.before args0 about1 = true := by
  rw [codes_eq]
  intro c hc
  simp only [codes1, List.mem_cons, List.not_mem_nil, or_false] at hc
  rcases hc with rfl | rfl | rfl | rfl | rfl | rfl | rfl | rfl | rfl | rfl | rfl | rfl | rfl | rfl | rfl | rfl | rfl | rfl | rfl | rfl | rfl | rfl | rfl | rfl | rfl | rfl | rfl | rfl | rfl | rfl | rfl | rfl | rfl | rfl | rfl | rfl | rfl | rfl | rfl | rfl | rfl | rfl | rfl
  · exact w_c0
  · exact w_c1
  · exact w_c2
  · exact w_c3
  · exact w_c4
  · exact w_c5
  · exact w_c6
  · exact w_c7
  · exact w_c8
  · exact w_c9
  · exact w_c10
  · exact w_c11
  · exact w_c12
  · exact w_c13
  · exact w_c14
  · exact w_c15
  · exact w_c16
  · exact w_c17
  · exact w_c18
  · exact w_c19
  · exact w_c20
  · exact w_c21
  · exact w_c22
  · exact w_c23
  · exact w_c24
  · exact w_c25
  · exact w_c26
  · exact w_c27
  · exact w_c28
  · exact w_c29
  · exact w_c30
  · exact w_c31
  · exact w_c32
  · exact w_c33
  · exact w_c34
  · exact w_c35
  · exact w_c36
  · exact w_c37
  · exact w_c38
  · exact w_c39
  · exact w_c40
  · exact w_c41
  · exact w_c42
set_option maxRecDepth 65536 in
theorem w_t1 : (words1.take 24).all (fun c => isCode c || c.before args0 about1) = true := by decide +kernel
set_option maxRecDepth 65536 in
theorem w_t2 : ((words1.drop 24).take 24).all (fun c => isCode c || c.before args0 about1) = true := by decide +kernel
set_option maxRecDepth 65536 in
theorem w_t3 : (((words1.drop 24).drop 24).take 24).all (fun c => isCode c || c.before args0 about1) = true := by decide +kernel
set_option maxRecDepth 65536 in
theorem w_t4 : ((((words1.drop 24).drop 24).drop 24).take 24).all (fun c => isCode c || c.before args0 about1) = true := by decide +kernel
set_option maxRecDepth 65536 in
theorem w_t5 : (((((words1.drop 24).drop 24).drop 24).drop 24).take 24).all (fun c => isCode c || c.before args0 about1) = true := by decide +kernel
set_option maxRecDepth 65536 in
theorem w_t6 : ((((((words1.drop 24).drop 24).drop 24).drop 24).drop 24).take 24).all (fun c => isCode c || c.before args0 about1) = true := by decide +kernel
set_option maxRecDepth 65536 in
theorem w_t7 : (((((((words1.drop 24).drop 24).drop 24).drop 24).drop 24).drop 24).take 24).all (fun c => isCode c || c.before args0 about1) = true := by decide +kernel
set_option maxRecDepth 65536 in
theorem w_t8 : ((((((((words1.drop 24).drop 24).drop 24).drop 24).drop 24).drop 24).drop 24).take 24).all (fun c => isCode c || c.before args0 about1) = true := by decide +kernel
set_option maxRecDepth 65536 in
theorem w_t9 : (((((((((words1.drop 24).drop 24).drop 24).drop 24).drop 24).drop 24).drop 24).drop 24).take 24).all (fun c => isCode c || c.before args0 about1) = true := by decide +kernel
set_option maxRecDepth 65536 in
theorem w_t10 : (((((((((words1.drop 24).drop 24).drop 24).drop 24).drop 24).drop 24).drop 24).drop 24).drop 24).all (fun c => isCode c || c.before args0 about1) = true := by decide +kernel
theorem w_tables : (allAtoms (Jvm.Cond.code x code maxLocals ret :: tables_1)).before args0 about1 = true := by
  rw [allAtoms_all]
  show words1.all (fun c => c.before args0 about1) = true
  refine all_split ?_ w_codes
  rw [← List.take_append_drop 24 words1, List.all_append, w_t1, ← List.take_append_drop 24 (words1.drop 24), List.all_append, w_t2, ← List.take_append_drop 24 ((words1.drop 24).drop 24), List.all_append, w_t3, ← List.take_append_drop 24 (((words1.drop 24).drop 24).drop 24), List.all_append, w_t4, ← List.take_append_drop 24 ((((words1.drop 24).drop 24).drop 24).drop 24), List.all_append, w_t5, ← List.take_append_drop 24 (((((words1.drop 24).drop 24).drop 24).drop 24).drop 24), List.all_append, w_t6, ← List.take_append_drop 24 ((((((words1.drop 24).drop 24).drop 24).drop 24).drop 24).drop 24), List.all_append, w_t7, ← List.take_append_drop 24 (((((((words1.drop 24).drop 24).drop 24).drop 24).drop 24).drop 24).drop 24), List.all_append, w_t8, ← List.take_append_drop 24 ((((((((words1.drop 24).drop 24).drop 24).drop 24).drop 24).drop 24).drop 24).drop 24), List.all_append, w_t9, w_t10]
  rfl
set_option maxRecDepth 65536 in
theorem w_rest : rest_1_c.before args0 about1 = true := by decide +kernel
set_option maxRecDepth 65536 in
theorem w_case : (Jvm.Cond.and given_1 narrow_1).before args0 about1 = true := by decide +kernel
set_option maxRecDepth 65536 in
theorem w_consts : constsHeld consts_1 about1 := Jvm.Lit.constsHeldB_iff.mp (by decide +kernel)
theorem w_applies : (headSpec (Jvm.Cond.code x code maxLocals ret :: tables_1) room_1).applies x e0.platform about1 = true :=
  (Spec.applies_iff w_frames).mpr ⟨w_running, w_runnable, w_alone, w_named, w_hears, w_ripe, w_room, w_tables⟩
theorem atStart : AtStart classFile x code maxLocals ret World_1 tables_1 room_1 Calls_1 rest_1 Pre_1 launch0 p0 e0 about1 theMethod args0 below0 :=
  ⟨lists_1, trivial, launch0.admits_env _ _ _, launch0.least_env, fairChoices_fair.cas, fairChoices_fair.clock, w_frames, w_args, w_heap, w_applies, ⟨w_consts, trivial⟩, w_rest, w_case⟩
end start1
theorem witness_1 : WitnessClaimed_1 := ⟨start1.p0, start1.e0, start1.about1, start1.theMethod, start1.args0, start1.below0, start1.atStart⟩
end Jvm.Pilot.@@N@@
