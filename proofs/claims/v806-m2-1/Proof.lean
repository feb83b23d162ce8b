import JvmDerived
import JvmDerived.Pilot.@@N@@Statement
import JvmDerived.Pilot.@@N@@Code
set_option linter.unusedVariables false
set_option linter.unusedSimpArgs false
namespace Jvm.Pilot.@@N@@
open Jvm Jvm.ClassFile Sem Op Lib Jvm.Free Jvm.Stand Jvm.LawKit Jvm.RoadKit Bundle Jvm.Pilot.@@N@@.Jvm.D
section Own
variable {p : Program} {l : Launch} {e : Env} {R : Room} {s : State} {m : MethodId} {args : Array Value} {below : List Frame} {meth : Method} {c : Code} {T : State} {locs : List Loc} {cells slots : Nat} {P : Option Value → Heap → List Loc → Prop} {kk nn : Nat}
/-- from U a run comes to an end at which P holds, within kk cells and nn slots -/
def Go (p : Program) (e : Env) (below : List Frame) (s : State) (P : Option Value → Heap → List Loc → Prop) (kk nn : Nat) (U : State) : Prop :=
  ∃ s₂ o, Steps p.tables e below U s₂ ∧ s₂.status = .running ∧ Ended s₂ below o ∧ ∃ v L, o = .returned v ∧ P v s₂.heap L ∧ FrameEnd s o s₂ L kk nn
theorem Go.pull {U V : State} (h : ∀ t, Steps p.tables e below V t → Steps p.tables e below U t) (g : Go p e below s P kk nn V) : Go p e below s P kk nn U := by
  obtain ⟨s2, o, h1, h2⟩ := g
  exact ⟨s2, o, h _ h1, h2⟩
theorem Go.fin (X : Stand p l e R s m args below meth c T locs cells slots) {f : JFrame} {v : Option Value} (hlk : meth.locks = false) (hv : meth.sig.returnType = none → v = none)
    (hs : ∀ fs, (∀ (f : JFrame) (acts : List Action), f.method = m → f.locked = none → f.entered = [] → (doReturn e (T.setTop f) acts v).1 = T.setFrames fs) → Steps p.tables e below (T.setTop f) (T.setFrames fs))
    (hP : P v T.heap locs) (hk : cells ≤ kk) (hn : slots ≤ nn) : Go p e below s P kk nn (T.setTop f) := by
  obtain ⟨fs, hr, hrun, hended, hW, hsame⟩ := X.leave (v := v) hv hlk
  exact ⟨_, _, hs fs hr, hrun, hended, _, _, rfl, hP, ⟨_, rfl⟩, hW, hsame.mono hk hn⟩
theorem Go.retN (X : Stand p l e R s m args below meth c T locs cells slots) (hx : p.tables.exec = Jvm.exec) (hlk : meth.locks = false) {pc : Nat} {Ls : Array Slot} {z : Int32} {t : FieldType} {rest : List Value} (hret : meth.sig.returnType = some t) (ht : t = .boolean ∨ t = .byte ∨ t = .char ∨ t = .short)
    (hd : decode c.code pc = .ok (.ireturn, 1)) (hP : P (some (.int (nar t z))) T.heap locs) (hk : cells ≤ kk) (hn : slots ≤ nn) : Go p e below s P kk nn (T.setTop (mkF m pc Ls (.int z :: rest))) :=
  Go.fin X hlk (fun h => by rw [hret] at h; cases h) (fun fs hr => RoadKit.retN X hx hret ht hd hr) hP hk hn
theorem Go.retI (X : Stand p l e R s m args below meth c T locs cells slots) (hx : p.tables.exec = Jvm.exec) (hlk : meth.locks = false) {pc : Nat} {Ls : Array Slot} {z : Int32} {rest : List Value} (hret : meth.sig.returnType = some .int)
    (hd : decode c.code pc = .ok (.ireturn, 1)) (hP : P (some (.int z)) T.heap locs) (hk : cells ≤ kk) (hn : slots ≤ nn) : Go p e below s P kk nn (T.setTop (mkF m pc Ls (.int z :: rest))) :=
  Go.fin X hlk (fun h => by rw [hret] at h; cases h) (fun fs hr => retOut X hx hret rfl (Or.inl ⟨rfl, Or.inl rfl, z, rfl⟩) hd hr) hP hk hn
theorem Go.retJ (X : Stand p l e R s m args below meth c T locs cells slots) (hx : p.tables.exec = Jvm.exec) (hlk : meth.locks = false) {pc : Nat} {Ls : Array Slot} {z : Int64} {rest : List Value} (hret : meth.sig.returnType = some .long)
    (hd : decode c.code pc = .ok (.lreturn, 1)) (hP : P (some (.long z)) T.heap locs) (hk : cells ≤ kk) (hn : slots ≤ nn) : Go p e below s P kk nn (T.setTop (mkF m pc Ls (.long z :: rest))) :=
  Go.fin X hlk (fun h => by rw [hret] at h; cases h) (fun fs hr => retOut X hx hret rfl (Or.inr (Or.inl ⟨rfl, rfl, z, rfl⟩)) hd hr) hP hk hn
theorem Go.retR (X : Stand p l e R s m args below meth c T locs cells slots) (hx : p.tables.exec = Jvm.exec) (hlk : meth.locks = false) {pc : Nat} {Ls : Array Slot} {w : Value} {t : FieldType} {rest : List Value} (hret : meth.sig.returnType = some t) (hna : narrow t w = w) (ht : t.isReference = true) (hw : w.isRef = true)
    (hd : decode c.code pc = .ok (.areturn, 1)) (hP : P (some w) T.heap locs) (hk : cells ≤ kk) (hn : slots ≤ nn) : Go p e below s P kk nn (T.setTop (mkF m pc Ls (w :: rest))) :=
  Go.fin X hlk (fun h => by rw [hret] at h; cases h) (fun fs hr => retOut X hx hret hna (Or.inr (Or.inr (Or.inr (Or.inr ⟨rfl, ht, hw⟩)))) hd hr) hP hk hn
theorem Go.ret0 (X : Stand p l e R s m args below meth c T locs cells slots) (hx : p.tables.exec = Jvm.exec) (hlk : meth.locks = false) {pc : Nat} {Ls : Array Slot} (hret : meth.sig.returnType = none)
    (hd : decode c.code pc = .ok (.return_, 1)) (hP : P none T.heap locs) (hk : cells ≤ kk) (hn : slots ≤ nn) : Go p e below s P kk nn (T.setTop (mkF m pc Ls [])) :=
  Go.fin X hlk (fun _ => rfl) (fun fs hr => X.returnOut hx hret hd hr) hP hk hn
theorem own_lsw {tb : Tables} [Ours tb] {e : Env} {below : List Frame} {T target : State} {m : MethodId} {c : Code} {g : JFrame} (h : At T m c below) (hx : tb.exec = Jvm.exec) (hg : g.method = m) {dflt : Int} {prs : Array (Int × Int)} {len : Nat} {o : Int} {pc0 pc' : Nat} (hpc : g.pc = pc0)
    (hd : decode c.code g.pc = .ok (.lookupswitch dflt prs, len)) {i : Int32} {rest : List Value} (hs : g.stack = .int i :: rest) (hord : (prs.toList.zip (prs.toList.drop 1)).all (fun (a, next) => a.1 < next.1) = true) (hoff : lookupswitch.offset prs.toList dflt i.toInt = o)
    (ho : 0 ≤ (pc0 : Int) + o) (hp : ((pc0 : Int) + o).toNat = pc') (hr : Steps tb e below (T.setTop { g with pc := pc', stack := rest }) target) : Steps tb e below (T.setTop g) target := by
  subst hg hpc hp hoff
  jvm_step h [h.top, hx, hd, hs, ho, lookupswitch.wp_chain]
  exact ⟨by simpa using hord, hr⟩
theorem own_eq_i {t : Term} {n : Int32} {first : State} {o : Option Outcome} {idx : List Nat} (h : (Cond.eq t (.int n)).value args first o s idx = some true) : t.eval args first o idx s = some (.int n) := by
  obtain ⟨x, y, e1, e2, k1, k2⟩ := cmp_v (Or.inl h)
  cases (Term.int_eval n).symm.trans e2
  obtain ⟨z, rfl⟩ : ∃ z, x = .int z := k2
  rw [e1, gotT (Cond.eq_ints e1 e2) h]
theorem own_eq_l {t : Term} {n : Int64} {first : State} {o : Option Outcome} {idx : List Nat} (h : (Cond.eq t (.long n)).value args first o s idx = some true) : t.eval args first o idx s = some (.long n) := by
  obtain ⟨x, y, e1, e2, k1, k2⟩ := cmp_v (Or.inl h)
  have e3 : (Term.long n).eval args first o idx s = some (.long n) := rfl
  cases e3.symm.trans e2
  obtain ⟨z, rfl⟩ : ∃ z, x = .long z := k2
  rw [e1, gotT (eq_L e1 e2) h]
theorem own_eq_r {t u : Term} {a : Addr} {first : State} {o : Option Outcome} {idx : List Nat} (hu : u.eval args first o idx s = some (.ref a)) (h : (Cond.eq t u).value args first o s idx = some true) : t.eval args first o idx s = some (.ref a) := by
  obtain ⟨x, y, e1, e2, k1, k2⟩ := cmp_v (Or.inl h)
  cases hu.symm.trans e2
  have k3 : (Value.ref a).isRef = true ∧ x.isRef = true := k2
  rw [e1, gotT (eq_R e1 e2 k3.2 rfl) h]
theorem own_mvM {Z : State} {a0 args : Array Value} {own host : String} {index : Nat} {y : MethodName} (hZ : Z.Warmed39 s.vm) (w : (Cond.methodLinkNest own index y host).before a0 Z = true) : (Cond.methodLinkNest own index y host).before args s = true := (Cond.methodLinkNest_wide hZ w :)
theorem own_sta_keep {Z : State} {h h' : Heap} {C n d : String} {w : Value} {ws : List Addr} (F : Sta Z h C n d w) (K : Keep h h' ws) (q : ∀ x ∈ ws, ∃ c : Cell, h[x]? = some c ∧ ∀ q, c.vm ≠ .statics q) : Sta Z h' C n d w := by
  obtain ⟨cf, i, k, f, st, cell, h1, h2, h3, h4, h5, h6, h7⟩ := F
  refine ⟨cf, i, k, f, st, cell, h1, h2, h3, h4, K.2.1 st cell h5 (fun hm => ?_), h6, h7⟩
  obtain ⟨c, hc, hq⟩ := q st hm
  cases h5.symm.trans hc
  cases hv : cell.vm with
  | statics r => exact hq r hv
  | _ => rw [hv] at h6; cases h6
end Own
section OwnRef
variable {p : Program} {l : Launch} {e : Env} {R : Room} {s : State} {m : MethodId} {args : Array Value} {below : List Frame} {meth : Method} {c : Code} {T : State} {locs : List Loc} {cells slots : Nat} {P : Option Value → Heap → List Loc → Prop} {kk nn : Nat}
/-- a constructor through an entry that has been resolved already -/
theorem own_specialRef (X : Stand p l e R s m args below meth c T locs cells slots) (hexec : p.tables.exec = Jvm.exec) {Z : State} {a0 : Array Value} (hZ : Z.Warmed39 s.vm) {own : String} {index : Nat} {y : MethodName} (hy1 : y.name = "<init>")
    (hown : s.vm.findClass own = some m.cls) (wl : (Cond.methodRef own index y).before a0 Z = true) (wi : (Cond.instanceMethod y).before a0 Z = true) {bytes : ByteArray} {maxL : Nat} (wc : (Cond.code y bytes maxL none).before a0 Z = true)
    (hy : y.cls ≠ "java/lang/invoke/MethodHandle" ∧ y.cls ≠ "java/lang/invoke/VarHandle")
    {W : Nat} {Pre : Pt → Array Value → Prop} {Post : Pt → Array Value → Option Value → Pt → Prop} (hK : Back l R p e below s args y 3 W Pre Post)
    {g : JFrame} (hg : g.method = m) (hsize : g.locals.size = c.maxLocals) {a : Addr} {argsL rest : List Value}
    (hlen : ∀ sig, parseMethodDescriptor y.desc = some sig → argsL.length = sig.parameters.length) (hstack : g.stack = argsL.reverse ++ .ref a :: rest) (hW : 2 * g.monitorRoom + (rest.map fun v => v.category).sum ≤ W)
    (hdg : decode c.code g.pc = .ok (.invokespecial index, 3)) (hpre : ∀ vm₁, s.WarmedH vm₁ → Pre ⟨T.setVm vm₁, locs, cells, slots⟩ (.ref a :: argsL).toArray) :
    ∃ (v : Option Value) (vm₁ : Vm) (B : Pt), s.WarmedH vm₁ ∧ Stand p l e R s m args below meth c B.U B.locs B.cells B.slots ∧ Post ⟨T.setVm vm₁, locs, cells, slots⟩ (.ref a :: argsL).toArray v B ∧
      Steps p.tables e below (T.setTop g) (B.U.setTop { g with pc := g.pc + 3, stack := v.toList ++ rest }) := by
  have hZT : Z.Warmed39 T.vm := wtrans hZ X.warmed
  have hi : (Cond.instanceMethod y).before a0 T = true := mv hZT wi
  have hcd : (Cond.code y bytes maxL none).before a0 T = true := mv hZT wc
  obtain ⟨obj, methO, hnO, hmO, hstO, habO⟩ := Cond.instanceMethod_spec hi
  obtain ⟨methO', cO, hmO', -, -, -, -, -, -, hsigO⟩ := Cond.code_spec hnO hcd
  cases hmO.symm.trans hmO'
  obtain ⟨kO, hkO, hnameO⟩ := className_of_methodNamed hnO
  obtain ⟨hnameMO, hdescO⟩ := name_of_methodNamed hnO hmO
  obtain ⟨objZ, methZ, hnZ, -⟩ := Cond.instanceMethod_spec wi
  have hr : (Cond.methodRef own index y).before a0 (Z.setVm T.vm) = true := Cond.methodRef_warmed39 hZT hnZ hy wl
  have hcur : (Z.setVm T.vm).vm.findClass own = some m.cls := by
    show T.vm.findClass own = _
    rw [X.warmed.alike.findClass]; exact hown
  obtain ⟨m', c', hf, hready, hfind, hres⟩ := Cond.methodRef_named e hcur hr
  have hnT : (Z.setVm T.vm).methodNamed? y = some obj := hnO
  have hmm : m' = obj := Option.some.inj (hf.symm.trans (State.methodFound?_of_named hnT hy))
  subst hmm
  have hc' : c' = m'.cls := Option.some.inj (hfind.symm.trans (findClass_of_methodNamed hnT))
  subst hc'
  have hfound : lookupSpecial T.vm m'.cls "<init>" methO.desc = .method m' := by
    rw [hdescO, ← hy1]; exact lookupSpecial_of_named hnO hmO hstO
  have X₁ := X.noted X.warmed
  obtain ⟨v, B, X', hpost, hsteps⟩ := hK m meth c ⟨T.setVm T.vm, locs, cells, slots⟩ { g with stack := rest } (.invokespecial index) m' (.ref a :: argsL).toArray X₁ hg hsize hdg hW (by exact hnO) (hpre T.vm X.warmed)
  refine ⟨v, T.vm, B, X.warmed, X', hpost, ?_⟩
  subst hg
  refine Steps.trans ?_ hsteps
  jvm_step X.here [hexec, hdg, invokespecial.wp_init (e := e) (s := T) (k := kO) (meth := methO) (m := m') (a := a) (args := argsL) (rest := rest) (f := g) X.here.top hres hready hkO hmO (by rw [hnameMO]; exact hy1) hstO habO hfound (hlen _ hsigO) hstack]
  intro acts
  rw [doInvoke_state]
  exact Steps.refl _
/-- as Go, the frame's end being the wide one -/
def GoW (p : Program) (e : Env) (below : List Frame) (s : State) (P : Option Value → Heap → List Loc → Prop) (kk nn : Nat) (U : State) : Prop :=
  ∃ s₂ o, Steps p.tables e below U s₂ ∧ s₂.status = .running ∧ Ended s₂ below o ∧ ∃ v L, o = .returned v ∧ P v s₂.heap L ∧ ReturnedEndW s o s₂ L kk nn
theorem Go.wide {vm₁ : Vm} {U : State} {k : Nat} (hS : s.Since vm₁ k) (g : Go p e below (s.setVm vm₁) (fun v h L => P v h L ∧ k ≤ h.size) kk nn U) : GoW p e below s P kk nn U := by
  obtain ⟨s2, o, h1, h2, h3, v, L, rfl, hP, h4, hWm, hsame⟩ := g
  obtain ⟨a, b, c'⟩ := hS.ended (U := s2) hWm hP.2 hsame
  exact ⟨s2, _, h1, h2, h3, v, L, rfl, hP.1, ⟨v, rfl⟩, a, b, c'⟩
theorem GoW.pull {U V : State} (h : ∀ t, Steps p.tables e below V t → Steps p.tables e below U t) (g : GoW p e below s P kk nn V) : GoW p e below s P kk nn U := by
  obtain ⟨s2, o, h1, h2⟩ := g
  exact ⟨s2, o, h _ h1, h2⟩
end OwnRef
theorem pd_0 : parseMethodDescriptor "()V" = some ⟨[], none⟩ := by decide +kernel
theorem pd_1 : parseMethodDescriptor "(Ljava/lang/String;I[IZ)V" = some ⟨[(.object "java/lang/String"), .int, (.array .int), .boolean], none⟩ := by decide +kernel
theorem pd_2 : parseMethodDescriptor "(I)Z" = some ⟨[.int], some .boolean⟩ := by decide +kernel
def own_has0 (pq' : Int32) : Int32 := 0
def own_has1 (w0 pq' : Int32) : Int32 := if w0 = pq' then 1 else 0
def own_has2 (w0 w1 pq' : Int32) : Int32 := if w0 = pq' then 1 else if w1 = pq' then 1 else 0
def own_has3 (w0 w1 w2 pq' : Int32) : Int32 := if w0 = pq' then 1 else if w1 = pq' then 1 else if w2 = pq' then 1 else 0
theorem own_and3 (x : Int32) {v : Int32} (h : (x &&& (3 : Int32)) = v) : v = 0 ∨ v = 1 ∨ v = 2 ∨ v = 3 := by
  subst h
  have h1 : (x &&& (3 : Int32)).toInt = x.toInt % (2 ^ 2 : Nat) := c_mask x 3 2 (by decide) (by decide)
  have h2 : x.toInt % (2 ^ 2 : Nat) = 0 ∨ x.toInt % (2 ^ 2 : Nat) = 1 ∨ x.toInt % (2 ^ 2 : Nat) = 2 ∨ x.toInt % (2 ^ 2 : Nat) = 3 := by omega
  rcases h2 with h2 | h2 | h2 | h2
  · exact (Or.inl (Int32.toInt_inj.mp (by rw [h1, h2] <;> rfl)))
  · exact (Or.inr (Or.inl (Int32.toInt_inj.mp (by rw [h1, h2] <;> rfl))))
  · exact (Or.inr (Or.inr (Or.inl (Int32.toInt_inj.mp (by rw [h1, h2] <;> rfl)))))
  · exact (Or.inr (Or.inr (Or.inr (Int32.toInt_inj.mp (by rw [h1, h2] <;> rfl)))))
theorem own_strW : ∀ d ∈ Bundle.stringAtoms, d ∈ tables_1 := by
  intro d hd
  simp only [Bundle.stringAtoms, List.mem_cons, List.not_mem_nil, or_false] at hd
  rcases hd with rfl | rfl | rfl | rfl | rfl | rfl | rfl
  · exact List.mem_of_getElem? (i := 5) rfl
  · exact List.mem_of_getElem? (i := 6) rfl
  · exact List.mem_of_getElem? (i := 7) rfl
  · exact List.mem_of_getElem? (i := 8) rfl
  · exact List.mem_of_getElem? (i := 9) rfl
  · exact List.mem_of_getElem? (i := 10) rfl
  · exact List.mem_of_getElem? (i := 11) rfl
theorem dN_0 : decode prog_65_method_1_code 0 = .ok (.aload_n 0, 1) := by decide +kernel
theorem dN_1 : decode prog_65_method_1_code 1 = .ok (.invokespecial 3, 3) := by decide +kernel
theorem dN_4 : decode prog_65_method_1_code 4 = .ok (.aload_n 0, 1) := by decide +kernel
theorem dN_5 : decode prog_65_method_1_code 5 = .ok (.bipush 65, 2) := by decide +kernel
theorem dN_7 : decode prog_65_method_1_code 7 = .ok (.anewarray 9, 3) := by decide +kernel
theorem dN_10 : decode prog_65_method_1_code 10 = .ok (.putfield 11, 3) := by decide +kernel
theorem dN_13 : decode prog_65_method_1_code 13 = .ok (.return_, 1) := by decide +kernel
theorem efN (m : MethodId) (x0 : Addr) : entryFrame m #[(.ref x0)] 1 = mkF m 0 #[rv x0] [] := by first | (simp [entryFrame, mkF, argsToLocals, Value.category]; done) | rfl
theorem pn_com_example_latch_latch_engine_KeyMap_Node : plainName "com/example/latch/latch/engine/KeyMap$Node" = true := by first | (simp [plainName, overriddenIn]; done) | decide +kernel
def QN (Z : State) (a : Addr) (ua : Value) (ub : Value) (h0 : Heap) (n0 : Nat) (v : Option Value) (h : Heap) (L : List Loc) : Prop := v = none ∧ Fr n0 L ∧ Keep h0 h [a] ∧ Fld Z h a "com/example/latch/latch/engine/KeyMap$Leaf" "m_values" "[Ljava/lang/Object;" ub
set_option maxRecDepth 65536 in
set_option maxHeartbeats 40000000 in
theorem rmN (l : Launch) (Z : State) (a0 : Array Value) (hw : ∀ d ∈ tables_1, d.before a0 Z = true) (ws : List Jvm.Cond) (a : Addr) (ua : Value) (ub : Value) (h0 : Heap) (n0 : Nat) (Z0 : n0 ≤ h0.size) (g_a : n0 ≤ a) (Ea : Exa Z h0 a "com/example/latch/latch/engine/KeyMap$Leaf") (Fk : Fld Z h0 a "com/example/latch/latch/engine/KeyMap$Node" "m_keys" "[Lcom/example/latch/latch/engine/Key;" ua) (Fv : Fld Z h0 a "com/example/latch/latch/engine/KeyMap$Leaf" "m_values" "[Ljava/lang/Object;" ub) :
    MetFree l (⟨"com/example/latch/latch/engine/KeyMap$Node", "<init>", "()V"⟩ : MethodName) (head1 (Jvm.Cond.code (⟨"com/example/latch/latch/engine/KeyMap$Node", "<init>", "()V"⟩ : MethodName) prog_65_method_1_code 1 none :: ws) ({ frames := 1, cells := 1, slots := 65, locals := 12 } : Room)) (fun as' U => as' = #[(.ref a)] ∧ Z.Warmed39 U.vm ∧ U.heap = h0) (fun _ _ _ _ _ => True) (fun _ U o U' => ∃ v L, o = .returned v ∧ QN Z a ua ub h0 n0 v U'.heap L ∧ FrameEnd U o U' L ({ frames := 1, cells := 1, slots := 65, locals := 12 } : Room).cells ({ frames := 1, cells := 1, slots := 65, locals := 12 } : Room).slots) := by
  refine MetFree.of_bodySF (plainFor_of_name pn_com_example_latch_latch_engine_KeyMap_Node) hisR ?_
  intro p e s m args below meth c s₁ Bd hml0 hP hK
  obtain ⟨rfl, hZ, hh⟩ := hP
  have hx := Bd.exec
  have hby := Bd.bytes
  have hml : c.maxLocals = 1 := hml0
  have hown : s.vm.findClass "com/example/latch/latch/engine/KeyMap$Node" = some m.cls := findClass_of_methodNamed Bd.named
  have hnm := (name_of_methodNamed Bd.named Bd.method).1
  have X0 : Stand p l e ({ frames := 1, cells := 1, slots := 65, locals := 12 } : Room) s m #[(.ref a)] below meth c s₁ [] 0 0 := Stand.of_body Bd
  have e0 : s₁.heap = h0 := by rw [← hh, Bd.state]; rfl
  have N0 := Fr.nil n0
  show Go p e below s (fun v h L => QN Z a ua ub h0 n0 v h L) 1 65 _
  refine Go.pull (V := s₁.setTop (mkF m 0 #[rv a] [])) (fun t k => castTop (efN m a) k) ?_
  refine Go.pull (V := s₁.setTop (mkF m 1 #[rv a] [(.ref a)])) (fun t k => XS.aloadN X0.here hx rfl (hb hby dN_0) rfl rfl k) ?_
  obtain ⟨T1, X1, e1, st1⟩ := initO X0 hx hZ hown (hw _ (List.mem_of_getElem? (i := 36) rfl)) (hw _ (List.mem_of_getElem? (i := 16) rfl)) (hw _ (List.mem_of_getElem? (i := 17) rfl)) e0 (g := (mkF m 1 #[rv a] [(.ref a)])) rfl (by rw [hml]; rfl) rfl (hb hby dN_1) (by decide) (W := 0) (by show 2 * 0 + _ ≤ _; exact Nat.le_of_eq rfl) (by decide)
  refine Go.pull (V := T1.setTop (mkF m 4 #[rv a] [])) st1 ?_
  refine Go.pull (V := T1.setTop (mkF m 7 #[rv a] [(.int 65), (.ref a)])) (fun t k => XS.aloadN X1.here hx rfl (hb hby dN_4) rfl rfl (XS.bipush X1.here hx rfl (hb hby dN_5) k)) ?_
  obtain ⟨T2, h2, k2, X2, e2, E2, A2, -, st2⟩ := newR X1 hx hZ hown (hw _ (List.mem_of_getElem? (i := 37) rfl)) (hw _ (List.mem_of_getElem? (i := 38) rfl)) e1 (g := (mkF m 7 #[rv a] [(.int 65), (.ref a)])) rfl (hb hby dN_7) rfl (by decide) (cap := 65) (by decide) (by decide) (by decide) (by decide)
  obtain ⟨b2, g2⟩ : ∃ z, z = h0.size := ⟨_, rfl⟩
  rw [← g2] at A2 st2
  have ne_a_b2 : a ≠ b2 := Nat.ne_of_lt (Nat.lt_of_lt_of_le Ea.lt (Nat.le_of_eq g2.symm))
  have sz_b2 : h0.size ≤ b2 := Nat.le_trans ((Keep.refl h0 [a])).1 (Nat.le_of_eq g2.symm)
  have g_b2 : n0 ≤ b2 := Nat.le_trans Z0 sz_b2
  have K2 : Keep h0 h2 [a] := (Keep.refl h0 [a]).ext E2
  refine Go.pull (V := T2.setTop (mkF m 10 #[rv a] [(.ref b2), (.ref a)])) st2 ?_
  obtain ⟨T3, h3, X3, e3, W3, st3⟩ := putF X2 hx hZ hown (host := "") (Or.inl (hw _ (List.mem_of_getElem? (i := 39) rfl))) Via.refl e2 (Fk.ext E2) (Ea.ext E2) (Or.inr ⟨(hw _ (List.mem_of_getElem? (i := 40) rfl)), rfl, hnm⟩) (hw _ (List.mem_of_getElem? (i := 26) rfl)) (ty := (.array (.object "com/example/latch/latch/engine/Key"))) (by decide) rfl rfl (g := (mkF m 10 #[rv a] [(.ref b2), (.ref a)])) rfl rfl (hb hby dN_10)
  have Fw3 : Fld Z h3 a "com/example/latch/latch/engine/KeyMap$Node" "m_keys" "[Lcom/example/latch/latch/engine/Key;" (.ref b2) := (Fk.ext E2).same W3
  have K3 : Keep h0 h3 [a] := K2.wr W3 (Or.inl (List.mem_of_getElem? (i := 0) rfl))
  have N3 := Fr.snoc X3 N0 g_a
  refine Go.pull (V := T3.setTop (mkF m 13 #[rv a] [])) st3 ?_
  exact Go.ret0 X3 hx Bd.notSynchronized Bd.returns (hb hby dN_13) (by rw [e3]; exact ⟨rfl, N3, K3, ((Fv.ext E2).other W3 (Or.inr (slot_ne (Or.inr (hw _ (List.mem_of_getElem? (i := 44) rfl))) (Or.inr (hw _ (List.mem_of_getElem? (i := 40) rfl))) (by decide) (t := (.array (.object "java/lang/Object"))) (t' := (.array (.object "com/example/latch/latch/engine/Key"))) (by decide) (by decide))))⟩) (by decide) (by decide)
theorem dL_0 : decode prog_64_method_1_code 0 = .ok (.aload_n 0, 1) := by decide +kernel
theorem dL_1 : decode prog_64_method_1_code 1 = .ok (.invokespecial 3, 3) := by decide +kernel
theorem dL_4 : decode prog_64_method_1_code 4 = .ok (.aload_n 0, 1) := by decide +kernel
theorem dL_5 : decode prog_64_method_1_code 5 = .ok (.bipush 65, 2) := by decide +kernel
theorem dL_7 : decode prog_64_method_1_code 7 = .ok (.anewarray 9, 3) := by decide +kernel
theorem dL_10 : decode prog_64_method_1_code 10 = .ok (.putfield 11, 3) := by decide +kernel
theorem dL_13 : decode prog_64_method_1_code 13 = .ok (.return_, 1) := by decide +kernel
theorem efL (m : MethodId) (x0 : Addr) : entryFrame m #[(.ref x0)] 1 = mkF m 0 #[rv x0] [] := by first | (simp [entryFrame, mkF, argsToLocals, Value.category]; done) | rfl
theorem pn_com_example_latch_latch_engine_KeyMap_Leaf : plainName "com/example/latch/latch/engine/KeyMap$Leaf" = true := by first | (simp [plainName, overriddenIn]; done) | decide +kernel
def QL (Z : State) (a : Addr) (ua : Value) (ub : Value) (h0 : Heap) (n0 : Nat) (v : Option Value) (h : Heap) (L : List Loc) : Prop := v = none ∧ Fr n0 L ∧ Keep h0 h [a]
set_option maxRecDepth 65536 in
set_option maxHeartbeats 40000000 in
theorem rmL (l : Launch) (Z : State) (a0 : Array Value) (hw : ∀ d ∈ tables_1, d.before a0 Z = true) (ws : List Jvm.Cond) (a : Addr) (ua : Value) (ub : Value) (h0 : Heap) (n0 : Nat) (Z0 : n0 ≤ h0.size) (g_a : n0 ≤ a) (Ea : Exa Z h0 a "com/example/latch/latch/engine/KeyMap$Leaf") (Fk : Fld Z h0 a "com/example/latch/latch/engine/KeyMap$Node" "m_keys" "[Lcom/example/latch/latch/engine/Key;" ua) (Fv : Fld Z h0 a "com/example/latch/latch/engine/KeyMap$Leaf" "m_values" "[Ljava/lang/Object;" ub) :
    MetFree l (⟨"com/example/latch/latch/engine/KeyMap$Leaf", "<init>", "()V"⟩ : MethodName) (head1 (Jvm.Cond.code (⟨"com/example/latch/latch/engine/KeyMap$Leaf", "<init>", "()V"⟩ : MethodName) prog_64_method_1_code 1 none :: ws) ({ frames := 2, cells := 2, slots := 130, locals := 24 } : Room)) (fun as' U => as' = #[(.ref a)] ∧ Z.Warmed39 U.vm ∧ U.heap = h0) (fun _ _ _ _ _ => True) (fun _ U o U' => ∃ v L, o = .returned v ∧ QL Z a ua ub h0 n0 v U'.heap L ∧ FrameEnd U o U' L ({ frames := 2, cells := 2, slots := 130, locals := 24 } : Room).cells ({ frames := 2, cells := 2, slots := 130, locals := 24 } : Room).slots) := by
  refine MetFree.of_bodySF (plainFor_of_name pn_com_example_latch_latch_engine_KeyMap_Leaf) hisR ?_
  intro p e s m args below meth c s₁ Bd hml0 hP hK
  obtain ⟨rfl, hZ, hh⟩ := hP
  have hx := Bd.exec
  have hby := Bd.bytes
  have hml : c.maxLocals = 1 := hml0
  have hown : s.vm.findClass "com/example/latch/latch/engine/KeyMap$Leaf" = some m.cls := findClass_of_methodNamed Bd.named
  have hnm := (name_of_methodNamed Bd.named Bd.method).1
  have X0 : Stand p l e ({ frames := 2, cells := 2, slots := 130, locals := 24 } : Room) s m #[(.ref a)] below meth c s₁ [] 0 0 := Stand.of_body Bd
  have e0 : s₁.heap = h0 := by rw [← hh, Bd.state]; rfl
  have N0 := Fr.nil n0
  show Go p e below s (fun v h L => QL Z a ua ub h0 n0 v h L) 2 130 _
  refine Go.pull (V := s₁.setTop (mkF m 0 #[rv a] [])) (fun t k => castTop (efL m a) k) ?_
  refine Go.pull (V := s₁.setTop (mkF m 1 #[rv a] [(.ref a)])) (fun t k => XS.aloadN X0.here hx rfl (hb hby dL_0) rfl rfl k) ?_
  obtain ⟨_, _, ⟨T1, L1, k1, n1⟩, -, X1, ⟨Lc1, hQ1, l1, y1, z1⟩, st1⟩ := X0.specialBackNest hx (y := (⟨"com/example/latch/latch/engine/KeyMap$Node", "<init>", "()V"⟩ : MethodName)) rfl hown (own_mvM hZ (hw _ (List.mem_of_getElem? (i := 31) rfl))) (mvT hZ (hw _ (List.mem_of_getElem? (i := 32) rfl))) (mvT hZ (hw _ (List.mem_of_getElem? (i := 35) rfl))) (by decide) (backOf (W := 0) (rmN l Z a0 hw [] a ua ub h0 n0 (Nat.le_trans Z0 ((Keep.refl h0 [a])).1) (g_a) Ea Fk Fv) hZ (hw _ (List.mem_of_getElem? (i := 35) rfl)) (hw _ (List.mem_of_getElem? (i := 34) rfl)) (by decide) (by decide)) (g := (mkF m 1 #[rv a] [(.ref a)])) rfl (by rw [hml]; rfl) (Steps.refl _) (a := a) (argsL := []) (rest := []) (lenOf pd_0 rfl) rfl (by show 2 * 0 + _ ≤ _; exact Nat.le_of_eq rfl) (hb hby dL_1) (fun _ _ => ⟨rfl, e0, (by decide : 0 + 1 ≤ _), (by decide : 0 + 65 ≤ _)⟩)
  dsimp only [Pt.U, Pt.locs, Pt.cells, Pt.slots] at X1 l1 y1 z1 st1 hQ1
  subst l1 y1 z1
  obtain ⟨rfl, N1q, Kc1, Fc1_0⟩ := hQ1
  have K1 : Keep h0 T1.heap [a] := (Keep.refl h0 [a]).trans Kc1 ((allS (Or.inl (List.mem_of_getElem? (i := 0) rfl)) all0))
  have N1 := Fr.app N0 N1q
  refine Go.pull (V := T1.setTop (mkF m 4 #[rv a] [])) (fun _ k => st1.trans k) ?_
  refine Go.pull (V := T1.setTop (mkF m 7 #[rv a] [(.int 65), (.ref a)])) (fun t k => XS.aloadN X1.here hx rfl (hb hby dL_4) rfl rfl (XS.bipush X1.here hx rfl (hb hby dL_5) k)) ?_
  obtain ⟨T2, h2, k2, X2, e2, E2, A2, -, st2⟩ := newR X1 hx hZ hown (hw _ (List.mem_of_getElem? (i := 41) rfl)) (hw _ (List.mem_of_getElem? (i := 42) rfl)) rfl (g := (mkF m 7 #[rv a] [(.int 65), (.ref a)])) rfl (hb hby dL_7) rfl (by decide) (cap := 65) (by decide) (by decide) (by decide) (by decide)
  obtain ⟨b2, g2⟩ : ∃ z, z = T1.heap.size := ⟨_, rfl⟩
  rw [← g2] at A2 st2
  have ne_a_b2 : a ≠ b2 := Nat.ne_of_lt (Nat.lt_of_lt_of_le (Ea.keep Kc1).lt (Nat.le_of_eq g2.symm))
  have sz_b2 : h0.size ≤ b2 := Nat.le_trans (K1).1 (Nat.le_of_eq g2.symm)
  have g_b2 : n0 ≤ b2 := Nat.le_trans Z0 sz_b2
  have K2 : Keep h0 h2 [a] := K1.ext E2
  refine Go.pull (V := T2.setTop (mkF m 10 #[rv a] [(.ref b2), (.ref a)])) st2 ?_
  obtain ⟨T3, h3, X3, e3, W3, st3⟩ := putF X2 hx hZ hown (host := "") (Or.inl (hw _ (List.mem_of_getElem? (i := 43) rfl))) Via.refl e2 (Fc1_0.ext E2) ((Ea.keep Kc1).ext E2) (Or.inr ⟨(hw _ (List.mem_of_getElem? (i := 44) rfl)), rfl, hnm⟩) (hw _ (List.mem_of_getElem? (i := 26) rfl)) (ty := (.array (.object "java/lang/Object"))) (by decide) rfl rfl (g := (mkF m 10 #[rv a] [(.ref b2), (.ref a)])) rfl rfl (hb hby dL_10)
  have Fw3 : Fld Z h3 a "com/example/latch/latch/engine/KeyMap$Leaf" "m_values" "[Ljava/lang/Object;" (.ref b2) := (Fc1_0.ext E2).same W3
  have K3 : Keep h0 h3 [a] := K2.wr W3 (Or.inl (List.mem_of_getElem? (i := 0) rfl))
  have N3 := Fr.snoc X3 N1 g_a
  refine Go.pull (V := T3.setTop (mkF m 13 #[rv a] [])) st3 ?_
  exact Go.ret0 X3 hx Bd.notSynchronized Bd.returns (hb hby dL_13) (by rw [e3]; exact ⟨rfl, N3, K3⟩) (by decide) (by decide)
theorem dK_0 : decode prog_60_method_1_code 0 = .ok (.aload_n 0, 1) := by decide +kernel
theorem dK_1 : decode prog_60_method_1_code 1 = .ok (.invokespecial 1, 3) := by decide +kernel
theorem dK_4 : decode prog_60_method_1_code 4 = .ok (.new 7, 3) := by decide +kernel
theorem dK_7 : decode prog_60_method_1_code 7 = .ok (.dup, 1) := by decide +kernel
theorem dK_8 : decode prog_60_method_1_code 8 = .ok (.invokespecial 9, 3) := by decide +kernel
theorem dK_11 : decode prog_60_method_1_code 11 = .ok (.astore_n 1, 1) := by decide +kernel
theorem dK_12 : decode prog_60_method_1_code 12 = .ok (.aload_n 0, 1) := by decide +kernel
theorem dK_13 : decode prog_60_method_1_code 13 = .ok (.aload_n 1, 1) := by decide +kernel
theorem dK_14 : decode prog_60_method_1_code 14 = .ok (.putfield 10, 3) := by decide +kernel
theorem dK_17 : decode prog_60_method_1_code 17 = .ok (.aload_n 0, 1) := by decide +kernel
theorem dK_18 : decode prog_60_method_1_code 18 = .ok (.aload_n 1, 1) := by decide +kernel
theorem dK_19 : decode prog_60_method_1_code 19 = .ok (.putfield 16, 3) := by decide +kernel
theorem dK_22 : decode prog_60_method_1_code 22 = .ok (.aload_n 0, 1) := by decide +kernel
theorem dK_23 : decode prog_60_method_1_code 23 = .ok (.aload_n 1, 1) := by decide +kernel
theorem dK_24 : decode prog_60_method_1_code 24 = .ok (.putfield 20, 3) := by decide +kernel
theorem dK_27 : decode prog_60_method_1_code 27 = .ok (.return_, 1) := by decide +kernel
theorem efK (m : MethodId) (x0 : Addr) : entryFrame m #[(.ref x0)] 2 = mkF m 0 #[rv x0, .unset] [] := by first | (simp [entryFrame, mkF, argsToLocals, Value.category]; done) | rfl
theorem pn_com_example_latch_latch_engine_KeyMap : plainName "com/example/latch/latch/engine/KeyMap" = true := by first | (simp [plainName, overriddenIn]; done) | decide +kernel
def QK (Z : State) (a : Addr) (ua : Value) (ub : Value) (uc : Value) (h0 : Heap) (n0 : Nat) (v : Option Value) (h : Heap) (L : List Loc) : Prop := v = none ∧ Fr n0 L ∧ Keep h0 h [a]
set_option maxRecDepth 65536 in
set_option maxHeartbeats 40000000 in
theorem rmK (l : Launch) (Z : State) (a0 : Array Value) (hw : ∀ d ∈ tables_1, d.before a0 Z = true) (ws : List Jvm.Cond) (a : Addr) (ua : Value) (ub : Value) (uc : Value) (h0 : Heap) (n0 : Nat) (Z0 : n0 ≤ h0.size) (g_a : n0 ≤ a) (Ea : Exa Z h0 a "com/example/latch/latch/engine/KeyMap") (Fa : Fld Z h0 a "com/example/latch/latch/engine/KeyMap" "m_root" "Lcom/example/latch/latch/engine/KeyMap$Node;" ua) (Fb : Fld Z h0 a "com/example/latch/latch/engine/KeyMap" "m_first" "Lcom/example/latch/latch/engine/KeyMap$Leaf;" ub) (Fc : Fld Z h0 a "com/example/latch/latch/engine/KeyMap" "m_last" "Lcom/example/latch/latch/engine/KeyMap$Leaf;" uc) :
    MetFree l (⟨"com/example/latch/latch/engine/KeyMap", "<init>", "()V"⟩ : MethodName) (head1 (Jvm.Cond.code (⟨"com/example/latch/latch/engine/KeyMap", "<init>", "()V"⟩ : MethodName) prog_60_method_1_code 2 none :: ws) ({ frames := 3, cells := 3, slots := 136, locals := 37 } : Room)) (fun as' U => as' = #[(.ref a)] ∧ Z.Warmed39 U.vm ∧ U.heap = h0) (fun _ _ _ _ _ => True) (fun _ U o U' => ∃ v L, o = .returned v ∧ QK Z a ua ub uc h0 n0 v U'.heap L ∧ FrameEnd U o U' L ({ frames := 3, cells := 3, slots := 136, locals := 37 } : Room).cells ({ frames := 3, cells := 3, slots := 136, locals := 37 } : Room).slots) := by
  refine MetFree.of_bodySF (plainFor_of_name pn_com_example_latch_latch_engine_KeyMap) hisR ?_
  intro p e s m args below meth c s₁ Bd hml0 hP hK
  obtain ⟨rfl, hZ, hh⟩ := hP
  have hx := Bd.exec
  have hby := Bd.bytes
  have hml : c.maxLocals = 2 := hml0
  have hown : s.vm.findClass "com/example/latch/latch/engine/KeyMap" = some m.cls := findClass_of_methodNamed Bd.named
  have hnm := (name_of_methodNamed Bd.named Bd.method).1
  have X0 : Stand p l e ({ frames := 3, cells := 3, slots := 136, locals := 37 } : Room) s m #[(.ref a)] below meth c s₁ [] 0 0 := Stand.of_body Bd
  have e0 : s₁.heap = h0 := by rw [← hh, Bd.state]; rfl
  have N0 := Fr.nil n0
  show Go p e below s (fun v h L => QK Z a ua ub uc h0 n0 v h L) 3 136 _
  refine Go.pull (V := s₁.setTop (mkF m 0 #[rv a, .unset] [])) (fun t k => castTop (efK m a) k) ?_
  refine Go.pull (V := s₁.setTop (mkF m 1 #[rv a, .unset] [(.ref a)])) (fun t k => XS.aloadN X0.here hx rfl (hb hby dK_0) rfl rfl k) ?_
  obtain ⟨T1, X1, e1, st1⟩ := initO X0 hx hZ hown (hw _ (List.mem_of_getElem? (i := 24) rfl)) (hw _ (List.mem_of_getElem? (i := 16) rfl)) (hw _ (List.mem_of_getElem? (i := 17) rfl)) e0 (g := (mkF m 1 #[rv a, .unset] [(.ref a)])) rfl (by rw [hml]; rfl) rfl (hb hby dK_1) (by decide) (W := 0) (by show 2 * 0 + _ ≤ _; exact Nat.le_of_eq rfl) (by decide)
  refine Go.pull (V := T1.setTop (mkF m 4 #[rv a, .unset] [])) st1 ?_
  obtain ⟨T2, h2, X2, e2, E2, A2, D2, -, st2⟩ := newO X1 hx hZ hown (hw _ (List.mem_of_getElem? (i := 25) rfl)) (hw _ (List.mem_of_getElem? (i := 26) rfl)) (hw _ (List.mem_of_getElem? (i := 27) rfl)) e1 (g := (mkF m 4 #[rv a, .unset] [])) rfl (hb hby dK_4) (by decide) (by decide)
  obtain ⟨b2, g2⟩ : ∃ z, z = h0.size := ⟨_, rfl⟩
  rw [← g2] at A2 D2 st2
  have ne_a_b2 : a ≠ b2 := Nat.ne_of_lt (Nat.lt_of_lt_of_le Ea.lt (Nat.le_of_eq g2.symm))
  have sz_b2 : h0.size ≤ b2 := Nat.le_trans ((Keep.refl h0 [a])).1 (Nat.le_of_eq g2.symm)
  have g_b2 : n0 ≤ b2 := Nat.le_trans Z0 sz_b2
  have K2 : Keep h0 h2 [a] := (Keep.refl h0 [a]).ext E2
  have F3 : Fld Z h2 b2 "com/example/latch/latch/engine/KeyMap$Node" "m_keys" "[Lcom/example/latch/latch/engine/Key;" .null := D2 (Or.inr (hw _ (List.mem_of_getElem? (i := 40) rfl))) (ty := (.array (.object "com/example/latch/latch/engine/Key"))) (by decide)
  have F4 : Fld Z h2 b2 "com/example/latch/latch/engine/KeyMap$Leaf" "m_values" "[Ljava/lang/Object;" .null := D2 (Or.inr (hw _ (List.mem_of_getElem? (i := 44) rfl))) (ty := (.array (.object "java/lang/Object"))) (by decide)
  refine Go.pull (V := T2.setTop (mkF m 7 #[rv a, .unset] [(.ref b2)])) st2 ?_
  refine Go.pull (V := T2.setTop (mkF m 8 #[rv a, .unset] [(.ref b2), (.ref b2)])) (fun t k => XS.dup X2.here hx rfl (hb hby dK_7) rfl rfl k) ?_
  obtain ⟨_, _, ⟨T5, L5, k5, n5⟩, -, X5, ⟨Lc5, hQ5, l5, y5, z5⟩, st5⟩ := own_specialRef X2 hx hZ (y := (⟨"com/example/latch/latch/engine/KeyMap$Leaf", "<init>", "()V"⟩ : MethodName)) rfl hown (hw _ (List.mem_of_getElem? (i := 28) rfl)) (hw _ (List.mem_of_getElem? (i := 29) rfl)) (hw _ (List.mem_of_getElem? (i := 30) rfl)) (by decide) (backOf (W := 1) (rmL l Z a0 hw [] b2 .null .null h2 n0 (Nat.le_trans Z0 (K2).1) (g_b2) A2 F3 F4) hZ (hw _ (List.mem_of_getElem? (i := 30) rfl)) (hw _ (List.mem_of_getElem? (i := 27) rfl)) (by decide) (by decide)) (g := (mkF m 8 #[rv a, .unset] [(.ref b2), (.ref b2)])) rfl (by rw [hml]; rfl) (a := b2) (argsL := []) (rest := [(.ref b2)]) (lenOf pd_0 rfl) rfl (by show 2 * 0 + _ ≤ _; exact Nat.le_of_eq rfl) (hb hby dK_8) (fun _ _ => ⟨rfl, e2, (by decide : 1 + 2 ≤ _), (by decide : 6 + 130 ≤ _)⟩)
  dsimp only [Pt.U, Pt.locs, Pt.cells, Pt.slots] at X5 l5 y5 z5 st5 hQ5
  subst l5 y5 z5
  obtain ⟨rfl, N5q, Kc5⟩ := hQ5
  have K5 : Keep h0 T5.heap [a] := K2.trans Kc5 ((allS (Or.inr sz_b2) all0))
  have N5 := Fr.app N0 N5q
  refine Go.pull (V := T5.setTop (mkF m 11 #[rv a, .unset] [(.ref b2)])) (fun _ k => st5.trans k) ?_
  refine Go.pull (V := T5.setTop (mkF m 14 #[rv a, rv b2] [(.ref b2), (.ref a)])) (fun t k => XS.astoreN X5.here hx rfl (hb hby dK_11) rfl rfl (l' := #[rv a, rv b2]) rfl (XS.aloadN X5.here hx rfl (hb hby dK_12) rfl rfl (XS.aloadN X5.here hx rfl (hb hby dK_13) rfl rfl k))) ?_
  obtain ⟨T6, h6, X6, e6, W6, st6⟩ := putF X5 hx hZ hown (host := "") (Or.inl (hw _ (List.mem_of_getElem? (i := 45) rfl))) Via.refl rfl ((Fa.ext E2).keep Kc5 (ninS (ne_a_b2) nin0)) ((Ea.ext E2).keep Kc5) (Or.inl (hw _ (List.mem_of_getElem? (i := 46) rfl))) (hw _ (List.mem_of_getElem? (i := 19) rfl)) (ty := (.object "com/example/latch/latch/engine/KeyMap$Node")) (by decide) rfl rfl (g := (mkF m 14 #[rv a, rv b2] [(.ref b2), (.ref a)])) rfl rfl (hb hby dK_14)
  have Fw6 : Fld Z h6 a "com/example/latch/latch/engine/KeyMap" "m_root" "Lcom/example/latch/latch/engine/KeyMap$Node;" (.ref b2) := ((Fa.ext E2).keep Kc5 (ninS (ne_a_b2) nin0)).same W6
  have K6 : Keep h0 h6 [a] := K5.wr W6 (Or.inl (List.mem_of_getElem? (i := 0) rfl))
  have N6 := Fr.snoc X6 N5 g_a
  refine Go.pull (V := T6.setTop (mkF m 17 #[rv a, rv b2] [])) st6 ?_
  refine Go.pull (V := T6.setTop (mkF m 19 #[rv a, rv b2] [(.ref b2), (.ref a)])) (fun t k => XS.aloadN X6.here hx rfl (hb hby dK_17) rfl rfl (XS.aloadN X6.here hx rfl (hb hby dK_18) rfl rfl k)) ?_
  obtain ⟨T7, h7, X7, e7, W7, st7⟩ := putF X6 hx hZ hown (host := "") (Or.inl (hw _ (List.mem_of_getElem? (i := 47) rfl))) Via.refl e6 (((Fb.ext E2).keep Kc5 (ninS (ne_a_b2) nin0)).other W6 (Or.inr (slot_ne (Or.inl (hw _ (List.mem_of_getElem? (i := 48) rfl))) (Or.inl (hw _ (List.mem_of_getElem? (i := 46) rfl))) (by decide) (t := (.object "com/example/latch/latch/engine/KeyMap$Leaf")) (t' := (.object "com/example/latch/latch/engine/KeyMap$Node")) (by decide) (by decide)))) (((Ea.ext E2).keep Kc5).wr W6) (Or.inl (hw _ (List.mem_of_getElem? (i := 48) rfl))) (hw _ (List.mem_of_getElem? (i := 19) rfl)) (ty := (.object "com/example/latch/latch/engine/KeyMap$Leaf")) (by decide) rfl rfl (g := (mkF m 19 #[rv a, rv b2] [(.ref b2), (.ref a)])) rfl rfl (hb hby dK_19)
  have Fw7 : Fld Z h7 a "com/example/latch/latch/engine/KeyMap" "m_first" "Lcom/example/latch/latch/engine/KeyMap$Leaf;" (.ref b2) := (((Fb.ext E2).keep Kc5 (ninS (ne_a_b2) nin0)).other W6 (Or.inr (slot_ne (Or.inl (hw _ (List.mem_of_getElem? (i := 48) rfl))) (Or.inl (hw _ (List.mem_of_getElem? (i := 46) rfl))) (by decide) (t := (.object "com/example/latch/latch/engine/KeyMap$Leaf")) (t' := (.object "com/example/latch/latch/engine/KeyMap$Node")) (by decide) (by decide)))).same W7
  have K7 : Keep h0 h7 [a] := K6.wr W7 (Or.inl (List.mem_of_getElem? (i := 0) rfl))
  have N7 := Fr.snoc X7 N6 g_a
  refine Go.pull (V := T7.setTop (mkF m 22 #[rv a, rv b2] [])) st7 ?_
  refine Go.pull (V := T7.setTop (mkF m 24 #[rv a, rv b2] [(.ref b2), (.ref a)])) (fun t k => XS.aloadN X7.here hx rfl (hb hby dK_22) rfl rfl (XS.aloadN X7.here hx rfl (hb hby dK_23) rfl rfl k)) ?_
  obtain ⟨T8, h8, X8, e8, W8, st8⟩ := putF X7 hx hZ hown (host := "") (Or.inl (hw _ (List.mem_of_getElem? (i := 49) rfl))) Via.refl e7 ((((Fc.ext E2).keep Kc5 (ninS (ne_a_b2) nin0)).other W6 (Or.inr (slot_ne (Or.inl (hw _ (List.mem_of_getElem? (i := 50) rfl))) (Or.inl (hw _ (List.mem_of_getElem? (i := 46) rfl))) (by decide) (t := (.object "com/example/latch/latch/engine/KeyMap$Leaf")) (t' := (.object "com/example/latch/latch/engine/KeyMap$Node")) (by decide) (by decide)))).other W7 (Or.inr (slot_ne (Or.inl (hw _ (List.mem_of_getElem? (i := 50) rfl))) (Or.inl (hw _ (List.mem_of_getElem? (i := 48) rfl))) (by decide) (t := (.object "com/example/latch/latch/engine/KeyMap$Leaf")) (t' := (.object "com/example/latch/latch/engine/KeyMap$Leaf")) (by decide) (by decide)))) ((((Ea.ext E2).keep Kc5).wr W6).wr W7) (Or.inl (hw _ (List.mem_of_getElem? (i := 50) rfl))) (hw _ (List.mem_of_getElem? (i := 19) rfl)) (ty := (.object "com/example/latch/latch/engine/KeyMap$Leaf")) (by decide) rfl rfl (g := (mkF m 24 #[rv a, rv b2] [(.ref b2), (.ref a)])) rfl rfl (hb hby dK_24)
  have Fw8 : Fld Z h8 a "com/example/latch/latch/engine/KeyMap" "m_last" "Lcom/example/latch/latch/engine/KeyMap$Leaf;" (.ref b2) := ((((Fc.ext E2).keep Kc5 (ninS (ne_a_b2) nin0)).other W6 (Or.inr (slot_ne (Or.inl (hw _ (List.mem_of_getElem? (i := 50) rfl))) (Or.inl (hw _ (List.mem_of_getElem? (i := 46) rfl))) (by decide) (t := (.object "com/example/latch/latch/engine/KeyMap$Leaf")) (t' := (.object "com/example/latch/latch/engine/KeyMap$Node")) (by decide) (by decide)))).other W7 (Or.inr (slot_ne (Or.inl (hw _ (List.mem_of_getElem? (i := 50) rfl))) (Or.inl (hw _ (List.mem_of_getElem? (i := 48) rfl))) (by decide) (t := (.object "com/example/latch/latch/engine/KeyMap$Leaf")) (t' := (.object "com/example/latch/latch/engine/KeyMap$Leaf")) (by decide) (by decide)))).same W8
  have K8 : Keep h0 h8 [a] := K7.wr W8 (Or.inl (List.mem_of_getElem? (i := 0) rfl))
  have N8 := Fr.snoc X8 N7 g_a
  refine Go.pull (V := T8.setTop (mkF m 27 #[rv a, rv b2] [])) st8 ?_
  exact Go.ret0 X8 hx Bd.notSynchronized Bd.returns (hb hby dK_27) (by rw [e8]; exact ⟨rfl, N8, K8⟩) (by decide) (by decide)
theorem dI_0 : decode prog_54_method_1_code 0 = .ok (.aload_n 0, 1) := by decide +kernel
theorem dI_1 : decode prog_54_method_1_code 1 = .ok (.invokespecial 1, 3) := by decide +kernel
theorem dI_4 : decode prog_54_method_1_code 4 = .ok (.aload_n 0, 1) := by decide +kernel
theorem dI_5 : decode prog_54_method_1_code 5 = .ok (.new 7, 3) := by decide +kernel
theorem dI_8 : decode prog_54_method_1_code 8 = .ok (.dup, 1) := by decide +kernel
theorem dI_9 : decode prog_54_method_1_code 9 = .ok (.invokespecial 9, 3) := by decide +kernel
theorem dI_12 : decode prog_54_method_1_code 12 = .ok (.putfield 10, 3) := by decide +kernel
theorem dI_15 : decode prog_54_method_1_code 15 = .ok (.aload_n 0, 1) := by decide +kernel
theorem dI_16 : decode prog_54_method_1_code 16 = .ok (.aload_n 1, 1) := by decide +kernel
theorem dI_17 : decode prog_54_method_1_code 17 = .ok (.putfield 16, 3) := by decide +kernel
theorem dI_20 : decode prog_54_method_1_code 20 = .ok (.aload_n 0, 1) := by decide +kernel
theorem dI_21 : decode prog_54_method_1_code 21 = .ok (.iload_n 2, 1) := by decide +kernel
theorem dI_22 : decode prog_54_method_1_code 22 = .ok (.putfield 20, 3) := by decide +kernel
theorem dI_25 : decode prog_54_method_1_code 25 = .ok (.aload_n 0, 1) := by decide +kernel
theorem dI_26 : decode prog_54_method_1_code 26 = .ok (.aload_n 3, 1) := by decide +kernel
theorem dI_27 : decode prog_54_method_1_code 27 = .ok (.putfield 24, 3) := by decide +kernel
theorem dI_30 : decode prog_54_method_1_code 30 = .ok (.aload_n 0, 1) := by decide +kernel
theorem dI_31 : decode prog_54_method_1_code 31 = .ok (.iload 4, 2) := by decide +kernel
theorem dI_33 : decode prog_54_method_1_code 33 = .ok (.putfield 28, 3) := by decide +kernel
theorem dI_36 : decode prog_54_method_1_code 36 = .ok (.return_, 1) := by decide +kernel
theorem efI (m : MethodId) (x0 : Addr) (x1 : Addr) (x2 : Int32) (x3 : Addr) (x4 : Int32) : entryFrame m #[(.ref x0), (.ref x1), (.int x2), (.ref x3), (.int x4)] 5 = mkF m 0 #[rv x0, rv x1, iv x2, rv x3, iv x4] [] := by first | (simp [entryFrame, mkF, argsToLocals, Value.category]; done) | rfl
theorem pn_com_example_latch_latch_engine_Index : plainName "com/example/latch/latch/engine/Index" = true := by first | (simp [plainName, overriddenIn]; done) | decide +kernel
def QI (Z : State) (a : Addr) (ps : Addr) (pp : Int32) (d : Addr) (pu : Int32) (u0 : Value) (u1 : Value) (u2 : Value) (u3 : Value) (u4 : Value) (h0 : Heap) (n0 : Nat) (v : Option Value) (h : Heap) (L : List Loc) : Prop := v = none ∧ Fr n0 L ∧ Keep h0 h [a] ∧ Fld Z h a "com/example/latch/latch/engine/Index" "m_columns" "[I" (.ref d)
set_option maxRecDepth 65536 in
set_option maxHeartbeats 40000000 in
theorem rmI (l : Launch) (Z : State) (a0 : Array Value) (hw : ∀ d ∈ tables_1, d.before a0 Z = true) (ws : List Jvm.Cond) (a : Addr) (ps : Addr) (pp : Int32) (d : Addr) (pu : Int32) (u0 : Value) (u1 : Value) (u2 : Value) (u3 : Value) (u4 : Value) (h0 : Heap) (n0 : Nat) (Z0 : n0 ≤ h0.size) (g_a : n0 ≤ a) (Ea : Exa Z h0 a "com/example/latch/latch/engine/Index") (F0' : Fld Z h0 a "com/example/latch/latch/engine/Index" "m_references" "Lcom/example/latch/latch/engine/KeyMap;" u0) (F1' : Fld Z h0 a "com/example/latch/latch/engine/Index" "m_name" "Ljava/lang/String;" u1) (F2' : Fld Z h0 a "com/example/latch/latch/engine/Index" "m_position" "I" u2) (F3' : Fld Z h0 a "com/example/latch/latch/engine/Index" "m_columns" "[I" u3) (F4' : Fld Z h0 a "com/example/latch/latch/engine/Index" "m_unique" "Z" u4) (hpu : nar .boolean pu = pu) :
    MetFree l (⟨"com/example/latch/latch/engine/Index", "<init>", "(Ljava/lang/String;I[IZ)V"⟩ : MethodName) (head1 (Jvm.Cond.code (⟨"com/example/latch/latch/engine/Index", "<init>", "(Ljava/lang/String;I[IZ)V"⟩ : MethodName) prog_54_method_1_code 5 none :: ws) ({ frames := 4, cells := 4, slots := 139, locals := 52 } : Room)) (fun as' U => as' = #[(.ref a), (.ref ps), (.int pp), (.ref d), (.int pu)] ∧ Z.Warmed39 U.vm ∧ U.heap = h0) (fun _ _ _ _ _ => True) (fun _ U o U' => ∃ v L, o = .returned v ∧ QI Z a ps pp d pu u0 u1 u2 u3 u4 h0 n0 v U'.heap L ∧ FrameEnd U o U' L ({ frames := 4, cells := 4, slots := 139, locals := 52 } : Room).cells ({ frames := 4, cells := 4, slots := 139, locals := 52 } : Room).slots) := by
  refine MetFree.of_bodySF (plainFor_of_name pn_com_example_latch_latch_engine_Index) hisR ?_
  intro p e s m args below meth c s₁ Bd hml0 hP hK
  obtain ⟨rfl, hZ, hh⟩ := hP
  have hx := Bd.exec
  have hby := Bd.bytes
  have hml : c.maxLocals = 5 := hml0
  have hown : s.vm.findClass "com/example/latch/latch/engine/Index" = some m.cls := findClass_of_methodNamed Bd.named
  have hnm := (name_of_methodNamed Bd.named Bd.method).1
  have X0 : Stand p l e ({ frames := 4, cells := 4, slots := 139, locals := 52 } : Room) s m #[(.ref a), (.ref ps), (.int pp), (.ref d), (.int pu)] below meth c s₁ [] 0 0 := Stand.of_body Bd
  have e0 : s₁.heap = h0 := by rw [← hh, Bd.state]; rfl
  have N0 := Fr.nil n0
  show Go p e below s (fun v h L => QI Z a ps pp d pu u0 u1 u2 u3 u4 h0 n0 v h L) 4 139 _
  refine Go.pull (V := s₁.setTop (mkF m 0 #[rv a, rv ps, iv pp, rv d, iv pu] [])) (fun t k => castTop (efI m a ps pp d pu) k) ?_
  refine Go.pull (V := s₁.setTop (mkF m 1 #[rv a, rv ps, iv pp, rv d, iv pu] [(.ref a)])) (fun t k => XS.aloadN X0.here hx rfl (hb hby dI_0) rfl rfl k) ?_
  obtain ⟨T1, X1, e1, st1⟩ := initO X0 hx hZ hown (hw _ (List.mem_of_getElem? (i := 15) rfl)) (hw _ (List.mem_of_getElem? (i := 16) rfl)) (hw _ (List.mem_of_getElem? (i := 17) rfl)) e0 (g := (mkF m 1 #[rv a, rv ps, iv pp, rv d, iv pu] [(.ref a)])) rfl (by rw [hml]; rfl) rfl (hb hby dI_1) (by decide) (W := 0) (by show 2 * 0 + _ ≤ _; exact Nat.le_of_eq rfl) (by decide)
  refine Go.pull (V := T1.setTop (mkF m 4 #[rv a, rv ps, iv pp, rv d, iv pu] [])) st1 ?_
  refine Go.pull (V := T1.setTop (mkF m 5 #[rv a, rv ps, iv pp, rv d, iv pu] [(.ref a)])) (fun t k => XS.aloadN X1.here hx rfl (hb hby dI_4) rfl rfl k) ?_
  obtain ⟨T2, h2, X2, e2, E2, A2, D2, -, st2⟩ := newO X1 hx hZ hown (hw _ (List.mem_of_getElem? (i := 18) rfl)) (hw _ (List.mem_of_getElem? (i := 19) rfl)) (hw _ (List.mem_of_getElem? (i := 20) rfl)) e1 (g := (mkF m 5 #[rv a, rv ps, iv pp, rv d, iv pu] [(.ref a)])) rfl (hb hby dI_5) (by decide) (by decide)
  obtain ⟨b2, g2⟩ : ∃ z, z = h0.size := ⟨_, rfl⟩
  rw [← g2] at A2 D2 st2
  have ne_a_b2 : a ≠ b2 := Nat.ne_of_lt (Nat.lt_of_lt_of_le Ea.lt (Nat.le_of_eq g2.symm))
  have sz_b2 : h0.size ≤ b2 := Nat.le_trans ((Keep.refl h0 [a])).1 (Nat.le_of_eq g2.symm)
  have g_b2 : n0 ≤ b2 := Nat.le_trans Z0 sz_b2
  have K2 : Keep h0 h2 [a] := (Keep.refl h0 [a]).ext E2
  have F3 : Fld Z h2 b2 "com/example/latch/latch/engine/KeyMap" "m_root" "Lcom/example/latch/latch/engine/KeyMap$Node;" .null := D2 (Or.inl (hw _ (List.mem_of_getElem? (i := 46) rfl))) (ty := (.object "com/example/latch/latch/engine/KeyMap$Node")) (by decide)
  have F4 : Fld Z h2 b2 "com/example/latch/latch/engine/KeyMap" "m_first" "Lcom/example/latch/latch/engine/KeyMap$Leaf;" .null := D2 (Or.inl (hw _ (List.mem_of_getElem? (i := 48) rfl))) (ty := (.object "com/example/latch/latch/engine/KeyMap$Leaf")) (by decide)
  have F5 : Fld Z h2 b2 "com/example/latch/latch/engine/KeyMap" "m_last" "Lcom/example/latch/latch/engine/KeyMap$Leaf;" .null := D2 (Or.inl (hw _ (List.mem_of_getElem? (i := 50) rfl))) (ty := (.object "com/example/latch/latch/engine/KeyMap$Leaf")) (by decide)
  refine Go.pull (V := T2.setTop (mkF m 8 #[rv a, rv ps, iv pp, rv d, iv pu] [(.ref b2), (.ref a)])) st2 ?_
  refine Go.pull (V := T2.setTop (mkF m 9 #[rv a, rv ps, iv pp, rv d, iv pu] [(.ref b2), (.ref b2), (.ref a)])) (fun t k => XS.dup X2.here hx rfl (hb hby dI_8) rfl rfl k) ?_
  obtain ⟨_, _, ⟨T6, L6, k6, n6⟩, -, X6, ⟨Lc6, hQ6, l6, y6, z6⟩, st6⟩ := X2.specialBack hx (y := (⟨"com/example/latch/latch/engine/KeyMap", "<init>", "()V"⟩ : MethodName)) rfl hown (mvT hZ (hw _ (List.mem_of_getElem? (i := 21) rfl))) (mvT hZ (hw _ (List.mem_of_getElem? (i := 22) rfl))) (mvT hZ (hw _ (List.mem_of_getElem? (i := 23) rfl))) (by decide) (backOf (W := 2) (rmK l Z a0 hw [] b2 .null .null .null h2 n0 (Nat.le_trans Z0 (K2).1) (g_b2) A2 F3 F4 F5) hZ (hw _ (List.mem_of_getElem? (i := 23) rfl)) (hw _ (List.mem_of_getElem? (i := 20) rfl)) (by decide) (by decide)) (g := (mkF m 9 #[rv a, rv ps, iv pp, rv d, iv pu] [(.ref b2), (.ref b2), (.ref a)])) rfl (by rw [hml]; rfl) (Steps.refl _) (a := b2) (argsL := []) (rest := [(.ref b2), (.ref a)]) (lenOf pd_0 rfl) rfl (by show 2 * 0 + _ ≤ _; exact Nat.le_of_eq rfl) (hb hby dI_9) (fun _ _ => ⟨rfl, e2, (by decide : 1 + 3 ≤ _), (by decide : 3 + 136 ≤ _)⟩)
  dsimp only [Pt.U, Pt.locs, Pt.cells, Pt.slots] at X6 l6 y6 z6 st6 hQ6
  subst l6 y6 z6
  obtain ⟨rfl, N6q, Kc6⟩ := hQ6
  have K6 : Keep h0 T6.heap [a] := K2.trans Kc6 ((allS (Or.inr sz_b2) all0))
  have N6 := Fr.app N0 N6q
  refine Go.pull (V := T6.setTop (mkF m 12 #[rv a, rv ps, iv pp, rv d, iv pu] [(.ref b2), (.ref a)])) (fun _ k => st6.trans k) ?_
  obtain ⟨T7, h7, X7, e7, W7, st7⟩ := putF X6 hx hZ hown (host := "") (Or.inl (hw _ (List.mem_of_getElem? (i := 51) rfl))) Via.refl rfl ((F0'.ext E2).keep Kc6 (ninS (ne_a_b2) nin0)) ((Ea.ext E2).keep Kc6) (Or.inr ⟨(hw _ (List.mem_of_getElem? (i := 52) rfl)), rfl, hnm⟩) (hw _ (List.mem_of_getElem? (i := 2) rfl)) (ty := (.object "com/example/latch/latch/engine/KeyMap")) (by decide) rfl rfl (g := (mkF m 12 #[rv a, rv ps, iv pp, rv d, iv pu] [(.ref b2), (.ref a)])) rfl rfl (hb hby dI_12)
  have Fw7 : Fld Z h7 a "com/example/latch/latch/engine/Index" "m_references" "Lcom/example/latch/latch/engine/KeyMap;" (.ref b2) := ((F0'.ext E2).keep Kc6 (ninS (ne_a_b2) nin0)).same W7
  have K7 : Keep h0 h7 [a] := K6.wr W7 (Or.inl (List.mem_of_getElem? (i := 0) rfl))
  have N7 := Fr.snoc X7 N6 g_a
  refine Go.pull (V := T7.setTop (mkF m 15 #[rv a, rv ps, iv pp, rv d, iv pu] [])) st7 ?_
  refine Go.pull (V := T7.setTop (mkF m 17 #[rv a, rv ps, iv pp, rv d, iv pu] [(.ref ps), (.ref a)])) (fun t k => XS.aloadN X7.here hx rfl (hb hby dI_15) rfl rfl (XS.aloadN X7.here hx rfl (hb hby dI_16) rfl rfl k)) ?_
  obtain ⟨T8, h8, X8, e8, W8, st8⟩ := putF X7 hx hZ hown (host := "") (Or.inl (hw _ (List.mem_of_getElem? (i := 53) rfl))) Via.refl e7 (((F1'.ext E2).keep Kc6 (ninS (ne_a_b2) nin0)).other W7 (Or.inr (slot_ne (Or.inr (hw _ (List.mem_of_getElem? (i := 54) rfl))) (Or.inr (hw _ (List.mem_of_getElem? (i := 52) rfl))) (by decide) (t := (.object "java/lang/String")) (t' := (.object "com/example/latch/latch/engine/KeyMap")) (by decide) (by decide)))) (((Ea.ext E2).keep Kc6).wr W7) (Or.inr ⟨(hw _ (List.mem_of_getElem? (i := 54) rfl)), rfl, hnm⟩) (hw _ (List.mem_of_getElem? (i := 2) rfl)) (ty := (.object "java/lang/String")) (by decide) rfl rfl (g := (mkF m 17 #[rv a, rv ps, iv pp, rv d, iv pu] [(.ref ps), (.ref a)])) rfl rfl (hb hby dI_17)
  have Fw8 : Fld Z h8 a "com/example/latch/latch/engine/Index" "m_name" "Ljava/lang/String;" (.ref ps) := (((F1'.ext E2).keep Kc6 (ninS (ne_a_b2) nin0)).other W7 (Or.inr (slot_ne (Or.inr (hw _ (List.mem_of_getElem? (i := 54) rfl))) (Or.inr (hw _ (List.mem_of_getElem? (i := 52) rfl))) (by decide) (t := (.object "java/lang/String")) (t' := (.object "com/example/latch/latch/engine/KeyMap")) (by decide) (by decide)))).same W8
  have K8 : Keep h0 h8 [a] := K7.wr W8 (Or.inl (List.mem_of_getElem? (i := 0) rfl))
  have N8 := Fr.snoc X8 N7 g_a
  refine Go.pull (V := T8.setTop (mkF m 20 #[rv a, rv ps, iv pp, rv d, iv pu] [])) st8 ?_
  refine Go.pull (V := T8.setTop (mkF m 22 #[rv a, rv ps, iv pp, rv d, iv pu] [(.int pp), (.ref a)])) (fun t k => XS.aloadN X8.here hx rfl (hb hby dI_20) rfl rfl (XS.iloadN X8.here hx rfl (hb hby dI_21) rfl  k)) ?_
  obtain ⟨T9, h9, X9, e9, W9, st9⟩ := putF X8 hx hZ hown (host := "") (Or.inl (hw _ (List.mem_of_getElem? (i := 55) rfl))) Via.refl e8 ((((F2'.ext E2).keep Kc6 (ninS (ne_a_b2) nin0)).other W7 (Or.inr (slot_ne (Or.inr (hw _ (List.mem_of_getElem? (i := 56) rfl))) (Or.inr (hw _ (List.mem_of_getElem? (i := 52) rfl))) (by decide) (t := .int) (t' := (.object "com/example/latch/latch/engine/KeyMap")) (by decide) (by decide)))).other W8 (Or.inr (slot_ne (Or.inr (hw _ (List.mem_of_getElem? (i := 56) rfl))) (Or.inr (hw _ (List.mem_of_getElem? (i := 54) rfl))) (by decide) (t := .int) (t' := (.object "java/lang/String")) (by decide) (by decide)))) ((((Ea.ext E2).keep Kc6).wr W7).wr W8) (Or.inr ⟨(hw _ (List.mem_of_getElem? (i := 56) rfl)), rfl, hnm⟩) (hw _ (List.mem_of_getElem? (i := 2) rfl)) (ty := .int) (by decide) rfl rfl (g := (mkF m 22 #[rv a, rv ps, iv pp, rv d, iv pu] [(.int pp), (.ref a)])) rfl rfl (hb hby dI_22)
  have Fw9 : Fld Z h9 a "com/example/latch/latch/engine/Index" "m_position" "I" (.int pp) := ((((F2'.ext E2).keep Kc6 (ninS (ne_a_b2) nin0)).other W7 (Or.inr (slot_ne (Or.inr (hw _ (List.mem_of_getElem? (i := 56) rfl))) (Or.inr (hw _ (List.mem_of_getElem? (i := 52) rfl))) (by decide) (t := .int) (t' := (.object "com/example/latch/latch/engine/KeyMap")) (by decide) (by decide)))).other W8 (Or.inr (slot_ne (Or.inr (hw _ (List.mem_of_getElem? (i := 56) rfl))) (Or.inr (hw _ (List.mem_of_getElem? (i := 54) rfl))) (by decide) (t := .int) (t' := (.object "java/lang/String")) (by decide) (by decide)))).same W9
  have K9 : Keep h0 h9 [a] := K8.wr W9 (Or.inl (List.mem_of_getElem? (i := 0) rfl))
  have N9 := Fr.snoc X9 N8 g_a
  refine Go.pull (V := T9.setTop (mkF m 25 #[rv a, rv ps, iv pp, rv d, iv pu] [])) st9 ?_
  refine Go.pull (V := T9.setTop (mkF m 27 #[rv a, rv ps, iv pp, rv d, iv pu] [(.ref d), (.ref a)])) (fun t k => XS.aloadN X9.here hx rfl (hb hby dI_25) rfl rfl (XS.aloadN X9.here hx rfl (hb hby dI_26) rfl rfl k)) ?_
  obtain ⟨T10, h10, X10, e10, W10, st10⟩ := putF X9 hx hZ hown (host := "") (Or.inl (hw _ (List.mem_of_getElem? (i := 57) rfl))) Via.refl e9 (((((F3'.ext E2).keep Kc6 (ninS (ne_a_b2) nin0)).other W7 (Or.inr (slot_ne (Or.inr (hw _ (List.mem_of_getElem? (i := 58) rfl))) (Or.inr (hw _ (List.mem_of_getElem? (i := 52) rfl))) (by decide) (t := (.array .int)) (t' := (.object "com/example/latch/latch/engine/KeyMap")) (by decide) (by decide)))).other W8 (Or.inr (slot_ne (Or.inr (hw _ (List.mem_of_getElem? (i := 58) rfl))) (Or.inr (hw _ (List.mem_of_getElem? (i := 54) rfl))) (by decide) (t := (.array .int)) (t' := (.object "java/lang/String")) (by decide) (by decide)))).other W9 (Or.inr (slot_ne (Or.inr (hw _ (List.mem_of_getElem? (i := 58) rfl))) (Or.inr (hw _ (List.mem_of_getElem? (i := 56) rfl))) (by decide) (t := (.array .int)) (t' := .int) (by decide) (by decide)))) (((((Ea.ext E2).keep Kc6).wr W7).wr W8).wr W9) (Or.inr ⟨(hw _ (List.mem_of_getElem? (i := 58) rfl)), rfl, hnm⟩) (hw _ (List.mem_of_getElem? (i := 2) rfl)) (ty := (.array .int)) (by decide) rfl rfl (g := (mkF m 27 #[rv a, rv ps, iv pp, rv d, iv pu] [(.ref d), (.ref a)])) rfl rfl (hb hby dI_27)
  have Fw10 : Fld Z h10 a "com/example/latch/latch/engine/Index" "m_columns" "[I" (.ref d) := (((((F3'.ext E2).keep Kc6 (ninS (ne_a_b2) nin0)).other W7 (Or.inr (slot_ne (Or.inr (hw _ (List.mem_of_getElem? (i := 58) rfl))) (Or.inr (hw _ (List.mem_of_getElem? (i := 52) rfl))) (by decide) (t := (.array .int)) (t' := (.object "com/example/latch/latch/engine/KeyMap")) (by decide) (by decide)))).other W8 (Or.inr (slot_ne (Or.inr (hw _ (List.mem_of_getElem? (i := 58) rfl))) (Or.inr (hw _ (List.mem_of_getElem? (i := 54) rfl))) (by decide) (t := (.array .int)) (t' := (.object "java/lang/String")) (by decide) (by decide)))).other W9 (Or.inr (slot_ne (Or.inr (hw _ (List.mem_of_getElem? (i := 58) rfl))) (Or.inr (hw _ (List.mem_of_getElem? (i := 56) rfl))) (by decide) (t := (.array .int)) (t' := .int) (by decide) (by decide)))).same W10
  have K10 : Keep h0 h10 [a] := K9.wr W10 (Or.inl (List.mem_of_getElem? (i := 0) rfl))
  have N10 := Fr.snoc X10 N9 g_a
  refine Go.pull (V := T10.setTop (mkF m 30 #[rv a, rv ps, iv pp, rv d, iv pu] [])) st10 ?_
  refine Go.pull (V := T10.setTop (mkF m 33 #[rv a, rv ps, iv pp, rv d, iv pu] [(.int pu), (.ref a)])) (fun t k => XS.aloadN X10.here hx rfl (hb hby dI_30) rfl rfl (XS.iload X10.here hx rfl (hb hby dI_31) rfl  k)) ?_
  obtain ⟨T11, h11, X11, e11, W11, st11⟩ := putFN X10 hx hZ hown (hw _ (List.mem_of_getElem? (i := 59) rfl)) Via.refl e10 ((((((F4'.ext E2).keep Kc6 (ninS (ne_a_b2) nin0)).other W7 (Or.inr (slot_ne (Or.inr (hw _ (List.mem_of_getElem? (i := 60) rfl))) (Or.inr (hw _ (List.mem_of_getElem? (i := 52) rfl))) (by decide) (t := .boolean) (t' := (.object "com/example/latch/latch/engine/KeyMap")) (by decide) (by decide)))).other W8 (Or.inr (slot_ne (Or.inr (hw _ (List.mem_of_getElem? (i := 60) rfl))) (Or.inr (hw _ (List.mem_of_getElem? (i := 54) rfl))) (by decide) (t := .boolean) (t' := (.object "java/lang/String")) (by decide) (by decide)))).other W9 (Or.inr (slot_ne (Or.inr (hw _ (List.mem_of_getElem? (i := 60) rfl))) (Or.inr (hw _ (List.mem_of_getElem? (i := 56) rfl))) (by decide) (t := .boolean) (t' := .int) (by decide) (by decide)))).other W10 (Or.inr (slot_ne (Or.inr (hw _ (List.mem_of_getElem? (i := 60) rfl))) (Or.inr (hw _ (List.mem_of_getElem? (i := 58) rfl))) (by decide) (t := .boolean) (t' := (.array .int)) (by decide) (by decide)))) ((((((Ea.ext E2).keep Kc6).wr W7).wr W8).wr W9).wr W10) (Or.inr ⟨(hw _ (List.mem_of_getElem? (i := 60) rfl)), rfl, hnm⟩) (hw _ (List.mem_of_getElem? (i := 2) rfl)) (ty := .boolean) (v := (.int pu)) (v' := (.int pu)) (by decide) (congrArg Value.int hpu) (hpu ▸ fits_nar_bool _) (g := (mkF m 33 #[rv a, rv ps, iv pp, rv d, iv pu] [(.int pu), (.ref a)])) rfl rfl (hb hby dI_33)
  have Fw11 : Fld Z h11 a "com/example/latch/latch/engine/Index" "m_unique" "Z" (.int pu) := ((((((F4'.ext E2).keep Kc6 (ninS (ne_a_b2) nin0)).other W7 (Or.inr (slot_ne (Or.inr (hw _ (List.mem_of_getElem? (i := 60) rfl))) (Or.inr (hw _ (List.mem_of_getElem? (i := 52) rfl))) (by decide) (t := .boolean) (t' := (.object "com/example/latch/latch/engine/KeyMap")) (by decide) (by decide)))).other W8 (Or.inr (slot_ne (Or.inr (hw _ (List.mem_of_getElem? (i := 60) rfl))) (Or.inr (hw _ (List.mem_of_getElem? (i := 54) rfl))) (by decide) (t := .boolean) (t' := (.object "java/lang/String")) (by decide) (by decide)))).other W9 (Or.inr (slot_ne (Or.inr (hw _ (List.mem_of_getElem? (i := 60) rfl))) (Or.inr (hw _ (List.mem_of_getElem? (i := 56) rfl))) (by decide) (t := .boolean) (t' := .int) (by decide) (by decide)))).other W10 (Or.inr (slot_ne (Or.inr (hw _ (List.mem_of_getElem? (i := 60) rfl))) (Or.inr (hw _ (List.mem_of_getElem? (i := 58) rfl))) (by decide) (t := .boolean) (t' := (.array .int)) (by decide) (by decide)))).same W11
  have K11 : Keep h0 h11 [a] := K10.wr W11 (Or.inl (List.mem_of_getElem? (i := 0) rfl))
  have N11 := Fr.snoc X11 N10 g_a
  refine Go.pull (V := T11.setTop (mkF m 36 #[rv a, rv ps, iv pp, rv d, iv pu] [])) st11 ?_
  exact Go.ret0 X11 hx Bd.notSynchronized Bd.returns (hb hby dI_36) (by rw [e11]; exact ⟨rfl, N11, K11, (Fw10.other W11 (Or.inr (slot_ne (Or.inr (hw _ (List.mem_of_getElem? (i := 58) rfl))) (Or.inr (hw _ (List.mem_of_getElem? (i := 60) rfl))) (by decide) (t := (.array .int)) (t' := .boolean) (by decide) (by decide))))⟩) (by decide) (by decide)
theorem dH0_0 : decode prog_54_method_7_code 0 = .ok (.aload_n 0, 1) := by decide +kernel
theorem dH0_1 : decode prog_54_method_7_code 1 = .ok (.getfield 24, 3) := by decide +kernel
theorem dH0_4 : decode prog_54_method_7_code 4 = .ok (.astore_n 2, 1) := by decide +kernel
theorem dH0_5 : decode prog_54_method_7_code 5 = .ok (.aload_n 2, 1) := by decide +kernel
theorem dH0_6 : decode prog_54_method_7_code 6 = .ok (.arraylength, 1) := by decide +kernel
theorem dH0_7 : decode prog_54_method_7_code 7 = .ok (.istore_n 3, 1) := by decide +kernel
theorem dH0_8 : decode prog_54_method_7_code 8 = .ok (.iconst 0, 1) := by decide +kernel
theorem dH0_9 : decode prog_54_method_7_code 9 = .ok (.istore 4, 2) := by decide +kernel
theorem dH0_11 : decode prog_54_method_7_code 11 = .ok (.iload 4, 2) := by decide +kernel
theorem dH0_13 : decode prog_54_method_7_code 13 = .ok (.iload_n 3, 1) := by decide +kernel
theorem dH0_14 : decode prog_54_method_7_code 14 = .ok (.if_icmp .ge 23, 3) := by decide +kernel
theorem dH0_37 : decode prog_54_method_7_code 37 = .ok (.iconst 0, 1) := by decide +kernel
theorem dH0_38 : decode prog_54_method_7_code 38 = .ok (.ireturn, 1) := by decide +kernel
theorem efH0 (m : MethodId) (x0 : Addr) (x1 : Int32) : entryFrame m #[(.ref x0), (.int x1)] 6 = mkF m 0 #[rv x0, iv x1, .unset, .unset, .unset, .unset] [] := by first | (simp [entryFrame, mkF, argsToLocals, Value.category]; done) | rfl
def QH0 (Z : State) (a : Addr) (pq' : Int32) (d : Addr) (kd : ClassId) (h0 : Heap) (n0 : Nat) (v : Option Value) (h : Heap) (L : List Loc) : Prop := v = some (.int (own_has0 pq')) ∧ Fr n0 L ∧ h = h0
set_option maxRecDepth 65536 in
set_option maxHeartbeats 40000000 in
theorem rmH0 (l : Launch) (Z : State) (a0 : Array Value) (hw : ∀ d ∈ tables_1, d.before a0 Z = true) (ws : List Jvm.Cond) (a : Addr) (pq' : Int32) (d : Addr) (kd : ClassId) (h0 : Heap) (n0 : Nat) (Fc : Fld Z h0 a "com/example/latch/latch/engine/Index" "m_columns" "[I" (.ref d)) (Vd : Arv Z h0 d kd .int (0 : Int32) [] (.int 0)) :
    MetFree l (⟨"com/example/latch/latch/engine/Index", "hasColumn", "(I)Z"⟩ : MethodName) (head1 (Jvm.Cond.code (⟨"com/example/latch/latch/engine/Index", "hasColumn", "(I)Z"⟩ : MethodName) prog_54_method_7_code 6 (some .boolean) :: ws) ({ frames := 0, cells := 0, slots := 0, locals := 0 } : Room)) (fun as' U => as' = #[(.ref a), (.int pq')] ∧ Z.Warmed39 U.vm ∧ U.heap = h0) (fun _ _ _ _ _ => True) (fun _ U o U' => ∃ v L, o = .returned v ∧ QH0 Z a pq' d kd h0 n0 v U'.heap L ∧ FrameEnd U o U' L ({ frames := 0, cells := 0, slots := 0, locals := 0 } : Room).cells ({ frames := 0, cells := 0, slots := 0, locals := 0 } : Room).slots) := by
  refine MetFree.of_bodySF (plainFor_of_name pn_com_example_latch_latch_engine_Index) hisR ?_
  intro p e s m args below meth c s₁ Bd hml0 hP hK
  obtain ⟨rfl, hZ, hh⟩ := hP
  have hx := Bd.exec
  have hby := Bd.bytes
  have hml : c.maxLocals = 6 := hml0
  have hown : s.vm.findClass "com/example/latch/latch/engine/Index" = some m.cls := findClass_of_methodNamed Bd.named
  have hnm := (name_of_methodNamed Bd.named Bd.method).1
  have X0 : Stand p l e ({ frames := 0, cells := 0, slots := 0, locals := 0 } : Room) s m #[(.ref a), (.int pq')] below meth c s₁ [] 0 0 := Stand.of_body Bd
  have e0 : s₁.heap = h0 := by rw [← hh, Bd.state]; rfl
  have N0 := Fr.nil n0
  show Go p e below s (fun v h L => QH0 Z a pq' d kd h0 n0 v h L) 0 0 _
  refine Go.pull (V := s₁.setTop (mkF m 0 #[rv a, iv pq', .unset, .unset, .unset, .unset] [])) (fun t k => castTop (efH0 m a pq') k) ?_
  refine Go.pull (V := s₁.setTop (mkF m 1 #[rv a, iv pq', .unset, .unset, .unset, .unset] [(.ref a)])) (fun t k => XS.aloadN X0.here hx rfl (hb hby dH0_0) rfl rfl k) ?_
  obtain ⟨T1, X1, e1, st1⟩ := getF X0 hx hZ hown (host := "") (Or.inl (hw _ (List.mem_of_getElem? (i := 57) rfl))) Via.refl e0 Fc (g := (mkF m 1 #[rv a, iv pq', .unset, .unset, .unset, .unset] [(.ref a)])) rfl rfl (hb hby dH0_1)
  refine Go.pull (V := T1.setTop (mkF m 4 #[rv a, iv pq', .unset, .unset, .unset, .unset] [(.ref d)])) st1 ?_
  refine Go.pull (V := T1.setTop (mkF m 6 #[rv a, iv pq', rv d, .unset, .unset, .unset] [(.ref d)])) (fun t k => XS.astoreN X1.here hx rfl (hb hby dH0_4) rfl rfl (l' := #[rv a, iv pq', rv d, .unset, .unset, .unset]) rfl (XS.aloadN X1.here hx rfl (hb hby dH0_5) rfl rfl k)) ?_
  obtain ⟨cl2, Ar2, q2, S2, M2, Hs2, G2⟩ := id Vd
  refine Go.pull (V := T1.setTop (mkF m 7 #[rv a, iv pq', rv d, .unset, .unset, .unset] [(.int 0)])) (fun t k => X1.arraylength hx (by rw [e1]; exact Ar2.1) (State.isArrayOf_alike hZ.alike Ar2.2.1) (g := (mkF m 6 #[rv a, iv pq', rv d, .unset, .unset, .unset] [(.ref d)])) rfl rfl (hb hby dH0_6) _ (by rw [len_of S2 M2]; exact k)) ?_
  refine Go.pull (V := T1.setTop (mkF m 13 #[rv a, iv pq', rv d, iv 0, iv 0, .unset] [(.int 0)])) (fun t k => XS.istoreN X1.here hx rfl (hb hby dH0_7) rfl (l' := #[rv a, iv pq', rv d, iv 0, .unset, .unset]) rfl (XS.iconst X1.here hx rfl (hb hby dH0_8) (XS.istore X1.here hx rfl (hb hby dH0_9) rfl (l' := #[rv a, iv pq', rv d, iv 0, iv 0, .unset]) rfl (XS.iload X1.here hx rfl (hb hby dH0_11) rfl  k)))) ?_
  refine Go.pull (V := T1.setTop (mkF m 38 #[rv a, iv pq', rv d, iv 0, iv 0, .unset] [(.int 0)])) (fun t k => XS.iloadN X1.here hx rfl (hb hby dH0_13) rfl  (XS.icmpYes X1.here hx rfl (pc0 := 14) (pc' := 37) rfl (hb hby dH0_14) rfl (XT.ii_ge_t (by decide)) (by decide) (by decide) (XS.iconst X1.here hx rfl (hb hby dH0_37) k))) ?_
  exact Go.retN X1 hx Bd.notSynchronized (t := .boolean) Bd.returns (by simp) (hb hby dH0_38) ⟨(by rw [own_has0] <;> rfl), N0, e1⟩ (by decide) (by decide)
theorem dH1_0 : decode prog_54_method_7_code 0 = .ok (.aload_n 0, 1) := by decide +kernel
theorem dH1_1 : decode prog_54_method_7_code 1 = .ok (.getfield 24, 3) := by decide +kernel
theorem dH1_4 : decode prog_54_method_7_code 4 = .ok (.astore_n 2, 1) := by decide +kernel
theorem dH1_5 : decode prog_54_method_7_code 5 = .ok (.aload_n 2, 1) := by decide +kernel
theorem dH1_6 : decode prog_54_method_7_code 6 = .ok (.arraylength, 1) := by decide +kernel
theorem dH1_7 : decode prog_54_method_7_code 7 = .ok (.istore_n 3, 1) := by decide +kernel
theorem dH1_8 : decode prog_54_method_7_code 8 = .ok (.iconst 0, 1) := by decide +kernel
theorem dH1_9 : decode prog_54_method_7_code 9 = .ok (.istore 4, 2) := by decide +kernel
theorem dH1_11 : decode prog_54_method_7_code 11 = .ok (.iload 4, 2) := by decide +kernel
theorem dH1_13 : decode prog_54_method_7_code 13 = .ok (.iload_n 3, 1) := by decide +kernel
theorem dH1_14 : decode prog_54_method_7_code 14 = .ok (.if_icmp .ge 23, 3) := by decide +kernel
theorem dH1_17 : decode prog_54_method_7_code 17 = .ok (.aload_n 2, 1) := by decide +kernel
theorem dH1_18 : decode prog_54_method_7_code 18 = .ok (.iload 4, 2) := by decide +kernel
theorem dH1_20 : decode prog_54_method_7_code 20 = .ok (.iaload, 1) := by decide +kernel
theorem dH1_21 : decode prog_54_method_7_code 21 = .ok (.istore 5, 2) := by decide +kernel
theorem dH1_23 : decode prog_54_method_7_code 23 = .ok (.iload 5, 2) := by decide +kernel
theorem dH1_25 : decode prog_54_method_7_code 25 = .ok (.iload_n 1, 1) := by decide +kernel
theorem dH1_26 : decode prog_54_method_7_code 26 = .ok (.if_icmp .ne 5, 3) := by decide +kernel
theorem dH1_29 : decode prog_54_method_7_code 29 = .ok (.iconst 1, 1) := by decide +kernel
theorem dH1_30 : decode prog_54_method_7_code 30 = .ok (.ireturn, 1) := by decide +kernel
theorem dH1_31 : decode prog_54_method_7_code 31 = .ok (.iinc 4 1, 3) := by decide +kernel
theorem dH1_34 : decode prog_54_method_7_code 34 = .ok (.goto (-23), 3) := by decide +kernel
theorem dH1_37 : decode prog_54_method_7_code 37 = .ok (.iconst 0, 1) := by decide +kernel
theorem dH1_38 : decode prog_54_method_7_code 38 = .ok (.ireturn, 1) := by decide +kernel
theorem efH1 (m : MethodId) (x0 : Addr) (x1 : Int32) : entryFrame m #[(.ref x0), (.int x1)] 6 = mkF m 0 #[rv x0, iv x1, .unset, .unset, .unset, .unset] [] := by first | (simp [entryFrame, mkF, argsToLocals, Value.category]; done) | rfl
def QH1 (Z : State) (a : Addr) (pq' : Int32) (d : Addr) (kd : ClassId) (w0 : Int32) (h0 : Heap) (n0 : Nat) (v : Option Value) (h : Heap) (L : List Loc) : Prop := v = some (.int (own_has1 w0 pq')) ∧ Fr n0 L ∧ h = h0
set_option maxRecDepth 65536 in
set_option maxHeartbeats 40000000 in
theorem rmH1 (l : Launch) (Z : State) (a0 : Array Value) (hw : ∀ d ∈ tables_1, d.before a0 Z = true) (ws : List Jvm.Cond) (a : Addr) (pq' : Int32) (d : Addr) (kd : ClassId) (w0 : Int32) (h0 : Heap) (n0 : Nat) (Fc : Fld Z h0 a "com/example/latch/latch/engine/Index" "m_columns" "[I" (.ref d)) (Vd : Arv Z h0 d kd .int (1 : Int32) [(.int w0)] (.int 0)) :
    MetFree l (⟨"com/example/latch/latch/engine/Index", "hasColumn", "(I)Z"⟩ : MethodName) (head1 (Jvm.Cond.code (⟨"com/example/latch/latch/engine/Index", "hasColumn", "(I)Z"⟩ : MethodName) prog_54_method_7_code 6 (some .boolean) :: ws) ({ frames := 0, cells := 0, slots := 0, locals := 0 } : Room)) (fun as' U => as' = #[(.ref a), (.int pq')] ∧ Z.Warmed39 U.vm ∧ U.heap = h0) (fun _ _ _ _ _ => True) (fun _ U o U' => ∃ v L, o = .returned v ∧ QH1 Z a pq' d kd w0 h0 n0 v U'.heap L ∧ FrameEnd U o U' L ({ frames := 0, cells := 0, slots := 0, locals := 0 } : Room).cells ({ frames := 0, cells := 0, slots := 0, locals := 0 } : Room).slots) := by
  refine MetFree.of_bodySF (plainFor_of_name pn_com_example_latch_latch_engine_Index) hisR ?_
  intro p e s m args below meth c s₁ Bd hml0 hP hK
  obtain ⟨rfl, hZ, hh⟩ := hP
  have hx := Bd.exec
  have hby := Bd.bytes
  have hml : c.maxLocals = 6 := hml0
  have hown : s.vm.findClass "com/example/latch/latch/engine/Index" = some m.cls := findClass_of_methodNamed Bd.named
  have hnm := (name_of_methodNamed Bd.named Bd.method).1
  have X0 : Stand p l e ({ frames := 0, cells := 0, slots := 0, locals := 0 } : Room) s m #[(.ref a), (.int pq')] below meth c s₁ [] 0 0 := Stand.of_body Bd
  have e0 : s₁.heap = h0 := by rw [← hh, Bd.state]; rfl
  have N0 := Fr.nil n0
  show Go p e below s (fun v h L => QH1 Z a pq' d kd w0 h0 n0 v h L) 0 0 _
  refine Go.pull (V := s₁.setTop (mkF m 0 #[rv a, iv pq', .unset, .unset, .unset, .unset] [])) (fun t k => castTop (efH1 m a pq') k) ?_
  refine Go.pull (V := s₁.setTop (mkF m 1 #[rv a, iv pq', .unset, .unset, .unset, .unset] [(.ref a)])) (fun t k => XS.aloadN X0.here hx rfl (hb hby dH1_0) rfl rfl k) ?_
  obtain ⟨T1, X1, e1, st1⟩ := getF X0 hx hZ hown (host := "") (Or.inl (hw _ (List.mem_of_getElem? (i := 57) rfl))) Via.refl e0 Fc (g := (mkF m 1 #[rv a, iv pq', .unset, .unset, .unset, .unset] [(.ref a)])) rfl rfl (hb hby dH1_1)
  refine Go.pull (V := T1.setTop (mkF m 4 #[rv a, iv pq', .unset, .unset, .unset, .unset] [(.ref d)])) st1 ?_
  refine Go.pull (V := T1.setTop (mkF m 6 #[rv a, iv pq', rv d, .unset, .unset, .unset] [(.ref d)])) (fun t k => XS.astoreN X1.here hx rfl (hb hby dH1_4) rfl rfl (l' := #[rv a, iv pq', rv d, .unset, .unset, .unset]) rfl (XS.aloadN X1.here hx rfl (hb hby dH1_5) rfl rfl k)) ?_
  obtain ⟨cl2, Ar2, q2, S2, M2, Hs2, G2⟩ := id Vd
  refine Go.pull (V := T1.setTop (mkF m 7 #[rv a, iv pq', rv d, .unset, .unset, .unset] [(.int 1)])) (fun t k => X1.arraylength hx (by rw [e1]; exact Ar2.1) (State.isArrayOf_alike hZ.alike Ar2.2.1) (g := (mkF m 6 #[rv a, iv pq', rv d, .unset, .unset, .unset] [(.ref d)])) rfl rfl (hb hby dH1_6) _ (by rw [len_of S2 M2]; exact k)) ?_
  refine Go.pull (V := T1.setTop (mkF m 13 #[rv a, iv pq', rv d, iv 1, iv 0, .unset] [(.int 0)])) (fun t k => XS.istoreN X1.here hx rfl (hb hby dH1_7) rfl (l' := #[rv a, iv pq', rv d, iv 1, .unset, .unset]) rfl (XS.iconst X1.here hx rfl (hb hby dH1_8) (XS.istore X1.here hx rfl (hb hby dH1_9) rfl (l' := #[rv a, iv pq', rv d, iv 1, iv 0, .unset]) rfl (XS.iload X1.here hx rfl (hb hby dH1_11) rfl  k)))) ?_
  refine Go.pull (V := T1.setTop (mkF m 20 #[rv a, iv pq', rv d, iv 1, iv 0, .unset] [(.int 0), (.ref d)])) (fun t k => XS.iloadN X1.here hx rfl (hb hby dH1_13) rfl  (XS.icmpNo X1.here hx rfl (hb hby dH1_14) rfl (XT.ii_ge_f (by decide)) (XS.aloadN X1.here hx rfl (hb hby dH1_17) rfl rfl (XS.iload X1.here hx rfl (hb hby dH1_18) rfl  k)))) ?_
  obtain ⟨cl3, Ar3, q3, S3, M3, Hs3, G3⟩ := id Vd
  have hin3 : ¬ ((0 : Int32) < 0 ∨ cl3.slots.size ≤ ((0 : Int32)).toNatClampNeg) := inb_of S3 ⟨by decide, by decide⟩
  have hat3 : cl3.slots[((0 : Int32)).toNatClampNeg]? = some (.int w0) := Has.at Hs3 hin3 rfl
  refine Go.pull (V := T1.setTop (mkF m 26 #[rv a, iv pq', rv d, iv 1, iv 0, iv w0] [(.int pq'), (.int w0)])) (fun t k => X1.iaload hx (j := (0 : Int32)) (v := (.int w0)) (by rw [e1]; exact Ar3.1) (State.isArrayOf_alike hZ.alike Ar3.2.1) Ar3.2.2 hin3 hat3 (g := (mkF m 20 #[rv a, iv pq', rv d, iv 1, iv 0, .unset] [(.int 0), (.ref d)])) rfl rfl (hb hby dH1_20) _ (XS.istore X1.here hx rfl (hb hby dH1_21) rfl (l' := #[rv a, iv pq', rv d, iv 1, iv 0, iv w0]) rfl (XS.iload X1.here hx rfl (hb hby dH1_23) rfl  (XS.iloadN X1.here hx rfl (hb hby dH1_25) rfl  k)))) ?_
  by_cases hc26_4 : w0 = pq'
  · skip
    refine Go.pull (V := T1.setTop (mkF m 30 #[rv a, iv pq', rv d, iv 1, iv 0, iv w0] [(.int 1)])) (fun t k => XS.icmpNo X1.here hx rfl (hb hby dH1_26) rfl (XT.ii_ne_f hc26_4) (XS.iconst X1.here hx rfl (hb hby dH1_29) k)) ?_
    exact Go.retN X1 hx Bd.notSynchronized (t := .boolean) Bd.returns (by simp) (hb hby dH1_30) ⟨(by rw [own_has1, if_pos hc26_4] <;> rfl), N0, e1⟩ (by decide) (by decide)
  · skip
    refine Go.pull (V := T1.setTop (mkF m 13 #[rv a, iv pq', rv d, iv 1, iv 1, iv w0] [(.int 1)])) (fun t k => XS.icmpYes X1.here hx rfl (pc0 := 26) (pc' := 31) rfl (hb hby dH1_26) rfl (XT.ii_ne_t hc26_4) (by decide) (by decide) (XS.iinc X1.here hx rfl (hb hby dH1_31) rfl (l' := #[rv a, iv pq', rv d, iv 1, iv 1, iv w0]) rfl (XS.goto X1.here hx rfl (pc0 := 34) (pc' := 11) rfl (hb hby dH1_34) (by decide) (by decide) (XS.iload X1.here hx rfl (hb hby dH1_11) rfl  k)))) ?_
    refine Go.pull (V := T1.setTop (mkF m 38 #[rv a, iv pq', rv d, iv 1, iv 1, iv w0] [(.int 0)])) (fun t k => XS.iloadN X1.here hx rfl (hb hby dH1_13) rfl  (XS.icmpYes X1.here hx rfl (pc0 := 14) (pc' := 37) rfl (hb hby dH1_14) rfl (XT.ii_ge_t (by decide)) (by decide) (by decide) (XS.iconst X1.here hx rfl (hb hby dH1_37) k))) ?_
    exact Go.retN X1 hx Bd.notSynchronized (t := .boolean) Bd.returns (by simp) (hb hby dH1_38) ⟨(by rw [own_has1, if_neg hc26_4] <;> rfl), N0, e1⟩ (by decide) (by decide)
theorem dH2_0 : decode prog_54_method_7_code 0 = .ok (.aload_n 0, 1) := by decide +kernel
theorem dH2_1 : decode prog_54_method_7_code 1 = .ok (.getfield 24, 3) := by decide +kernel
theorem dH2_4 : decode prog_54_method_7_code 4 = .ok (.astore_n 2, 1) := by decide +kernel
theorem dH2_5 : decode prog_54_method_7_code 5 = .ok (.aload_n 2, 1) := by decide +kernel
theorem dH2_6 : decode prog_54_method_7_code 6 = .ok (.arraylength, 1) := by decide +kernel
theorem dH2_7 : decode prog_54_method_7_code 7 = .ok (.istore_n 3, 1) := by decide +kernel
theorem dH2_8 : decode prog_54_method_7_code 8 = .ok (.iconst 0, 1) := by decide +kernel
theorem dH2_9 : decode prog_54_method_7_code 9 = .ok (.istore 4, 2) := by decide +kernel
theorem dH2_11 : decode prog_54_method_7_code 11 = .ok (.iload 4, 2) := by decide +kernel
theorem dH2_13 : decode prog_54_method_7_code 13 = .ok (.iload_n 3, 1) := by decide +kernel
theorem dH2_14 : decode prog_54_method_7_code 14 = .ok (.if_icmp .ge 23, 3) := by decide +kernel
theorem dH2_17 : decode prog_54_method_7_code 17 = .ok (.aload_n 2, 1) := by decide +kernel
theorem dH2_18 : decode prog_54_method_7_code 18 = .ok (.iload 4, 2) := by decide +kernel
theorem dH2_20 : decode prog_54_method_7_code 20 = .ok (.iaload, 1) := by decide +kernel
theorem dH2_21 : decode prog_54_method_7_code 21 = .ok (.istore 5, 2) := by decide +kernel
theorem dH2_23 : decode prog_54_method_7_code 23 = .ok (.iload 5, 2) := by decide +kernel
theorem dH2_25 : decode prog_54_method_7_code 25 = .ok (.iload_n 1, 1) := by decide +kernel
theorem dH2_26 : decode prog_54_method_7_code 26 = .ok (.if_icmp .ne 5, 3) := by decide +kernel
theorem dH2_29 : decode prog_54_method_7_code 29 = .ok (.iconst 1, 1) := by decide +kernel
theorem dH2_30 : decode prog_54_method_7_code 30 = .ok (.ireturn, 1) := by decide +kernel
theorem dH2_31 : decode prog_54_method_7_code 31 = .ok (.iinc 4 1, 3) := by decide +kernel
theorem dH2_34 : decode prog_54_method_7_code 34 = .ok (.goto (-23), 3) := by decide +kernel
theorem dH2_37 : decode prog_54_method_7_code 37 = .ok (.iconst 0, 1) := by decide +kernel
theorem dH2_38 : decode prog_54_method_7_code 38 = .ok (.ireturn, 1) := by decide +kernel
theorem efH2 (m : MethodId) (x0 : Addr) (x1 : Int32) : entryFrame m #[(.ref x0), (.int x1)] 6 = mkF m 0 #[rv x0, iv x1, .unset, .unset, .unset, .unset] [] := by first | (simp [entryFrame, mkF, argsToLocals, Value.category]; done) | rfl
def QH2 (Z : State) (a : Addr) (pq' : Int32) (d : Addr) (kd : ClassId) (w0 : Int32) (w1 : Int32) (h0 : Heap) (n0 : Nat) (v : Option Value) (h : Heap) (L : List Loc) : Prop := v = some (.int (own_has2 w0 w1 pq')) ∧ Fr n0 L ∧ h = h0
set_option maxRecDepth 65536 in
set_option maxHeartbeats 40000000 in
theorem rmH2 (l : Launch) (Z : State) (a0 : Array Value) (hw : ∀ d ∈ tables_1, d.before a0 Z = true) (ws : List Jvm.Cond) (a : Addr) (pq' : Int32) (d : Addr) (kd : ClassId) (w0 : Int32) (w1 : Int32) (h0 : Heap) (n0 : Nat) (Fc : Fld Z h0 a "com/example/latch/latch/engine/Index" "m_columns" "[I" (.ref d)) (Vd : Arv Z h0 d kd .int (2 : Int32) [(.int w0), (.int w1)] (.int 0)) :
    MetFree l (⟨"com/example/latch/latch/engine/Index", "hasColumn", "(I)Z"⟩ : MethodName) (head1 (Jvm.Cond.code (⟨"com/example/latch/latch/engine/Index", "hasColumn", "(I)Z"⟩ : MethodName) prog_54_method_7_code 6 (some .boolean) :: ws) ({ frames := 0, cells := 0, slots := 0, locals := 0 } : Room)) (fun as' U => as' = #[(.ref a), (.int pq')] ∧ Z.Warmed39 U.vm ∧ U.heap = h0) (fun _ _ _ _ _ => True) (fun _ U o U' => ∃ v L, o = .returned v ∧ QH2 Z a pq' d kd w0 w1 h0 n0 v U'.heap L ∧ FrameEnd U o U' L ({ frames := 0, cells := 0, slots := 0, locals := 0 } : Room).cells ({ frames := 0, cells := 0, slots := 0, locals := 0 } : Room).slots) := by
  refine MetFree.of_bodySF (plainFor_of_name pn_com_example_latch_latch_engine_Index) hisR ?_
  intro p e s m args below meth c s₁ Bd hml0 hP hK
  obtain ⟨rfl, hZ, hh⟩ := hP
  have hx := Bd.exec
  have hby := Bd.bytes
  have hml : c.maxLocals = 6 := hml0
  have hown : s.vm.findClass "com/example/latch/latch/engine/Index" = some m.cls := findClass_of_methodNamed Bd.named
  have hnm := (name_of_methodNamed Bd.named Bd.method).1
  have X0 : Stand p l e ({ frames := 0, cells := 0, slots := 0, locals := 0 } : Room) s m #[(.ref a), (.int pq')] below meth c s₁ [] 0 0 := Stand.of_body Bd
  have e0 : s₁.heap = h0 := by rw [← hh, Bd.state]; rfl
  have N0 := Fr.nil n0
  show Go p e below s (fun v h L => QH2 Z a pq' d kd w0 w1 h0 n0 v h L) 0 0 _
  refine Go.pull (V := s₁.setTop (mkF m 0 #[rv a, iv pq', .unset, .unset, .unset, .unset] [])) (fun t k => castTop (efH2 m a pq') k) ?_
  refine Go.pull (V := s₁.setTop (mkF m 1 #[rv a, iv pq', .unset, .unset, .unset, .unset] [(.ref a)])) (fun t k => XS.aloadN X0.here hx rfl (hb hby dH2_0) rfl rfl k) ?_
  obtain ⟨T1, X1, e1, st1⟩ := getF X0 hx hZ hown (host := "") (Or.inl (hw _ (List.mem_of_getElem? (i := 57) rfl))) Via.refl e0 Fc (g := (mkF m 1 #[rv a, iv pq', .unset, .unset, .unset, .unset] [(.ref a)])) rfl rfl (hb hby dH2_1)
  refine Go.pull (V := T1.setTop (mkF m 4 #[rv a, iv pq', .unset, .unset, .unset, .unset] [(.ref d)])) st1 ?_
  refine Go.pull (V := T1.setTop (mkF m 6 #[rv a, iv pq', rv d, .unset, .unset, .unset] [(.ref d)])) (fun t k => XS.astoreN X1.here hx rfl (hb hby dH2_4) rfl rfl (l' := #[rv a, iv pq', rv d, .unset, .unset, .unset]) rfl (XS.aloadN X1.here hx rfl (hb hby dH2_5) rfl rfl k)) ?_
  obtain ⟨cl2, Ar2, q2, S2, M2, Hs2, G2⟩ := id Vd
  refine Go.pull (V := T1.setTop (mkF m 7 #[rv a, iv pq', rv d, .unset, .unset, .unset] [(.int 2)])) (fun t k => X1.arraylength hx (by rw [e1]; exact Ar2.1) (State.isArrayOf_alike hZ.alike Ar2.2.1) (g := (mkF m 6 #[rv a, iv pq', rv d, .unset, .unset, .unset] [(.ref d)])) rfl rfl (hb hby dH2_6) _ (by rw [len_of S2 M2]; exact k)) ?_
  refine Go.pull (V := T1.setTop (mkF m 13 #[rv a, iv pq', rv d, iv 2, iv 0, .unset] [(.int 0)])) (fun t k => XS.istoreN X1.here hx rfl (hb hby dH2_7) rfl (l' := #[rv a, iv pq', rv d, iv 2, .unset, .unset]) rfl (XS.iconst X1.here hx rfl (hb hby dH2_8) (XS.istore X1.here hx rfl (hb hby dH2_9) rfl (l' := #[rv a, iv pq', rv d, iv 2, iv 0, .unset]) rfl (XS.iload X1.here hx rfl (hb hby dH2_11) rfl  k)))) ?_
  refine Go.pull (V := T1.setTop (mkF m 20 #[rv a, iv pq', rv d, iv 2, iv 0, .unset] [(.int 0), (.ref d)])) (fun t k => XS.iloadN X1.here hx rfl (hb hby dH2_13) rfl  (XS.icmpNo X1.here hx rfl (hb hby dH2_14) rfl (XT.ii_ge_f (by decide)) (XS.aloadN X1.here hx rfl (hb hby dH2_17) rfl rfl (XS.iload X1.here hx rfl (hb hby dH2_18) rfl  k)))) ?_
  obtain ⟨cl3, Ar3, q3, S3, M3, Hs3, G3⟩ := id Vd
  have hin3 : ¬ ((0 : Int32) < 0 ∨ cl3.slots.size ≤ ((0 : Int32)).toNatClampNeg) := inb_of S3 ⟨by decide, by decide⟩
  have hat3 : cl3.slots[((0 : Int32)).toNatClampNeg]? = some (.int w0) := Has.at Hs3 hin3 rfl
  refine Go.pull (V := T1.setTop (mkF m 26 #[rv a, iv pq', rv d, iv 2, iv 0, iv w0] [(.int pq'), (.int w0)])) (fun t k => X1.iaload hx (j := (0 : Int32)) (v := (.int w0)) (by rw [e1]; exact Ar3.1) (State.isArrayOf_alike hZ.alike Ar3.2.1) Ar3.2.2 hin3 hat3 (g := (mkF m 20 #[rv a, iv pq', rv d, iv 2, iv 0, .unset] [(.int 0), (.ref d)])) rfl rfl (hb hby dH2_20) _ (XS.istore X1.here hx rfl (hb hby dH2_21) rfl (l' := #[rv a, iv pq', rv d, iv 2, iv 0, iv w0]) rfl (XS.iload X1.here hx rfl (hb hby dH2_23) rfl  (XS.iloadN X1.here hx rfl (hb hby dH2_25) rfl  k)))) ?_
  by_cases hc26_4 : w0 = pq'
  · skip
    refine Go.pull (V := T1.setTop (mkF m 30 #[rv a, iv pq', rv d, iv 2, iv 0, iv w0] [(.int 1)])) (fun t k => XS.icmpNo X1.here hx rfl (hb hby dH2_26) rfl (XT.ii_ne_f hc26_4) (XS.iconst X1.here hx rfl (hb hby dH2_29) k)) ?_
    exact Go.retN X1 hx Bd.notSynchronized (t := .boolean) Bd.returns (by simp) (hb hby dH2_30) ⟨(by rw [own_has2, if_pos hc26_4] <;> rfl), N0, e1⟩ (by decide) (by decide)
  · skip
    refine Go.pull (V := T1.setTop (mkF m 13 #[rv a, iv pq', rv d, iv 2, iv 1, iv w0] [(.int 1)])) (fun t k => XS.icmpYes X1.here hx rfl (pc0 := 26) (pc' := 31) rfl (hb hby dH2_26) rfl (XT.ii_ne_t hc26_4) (by decide) (by decide) (XS.iinc X1.here hx rfl (hb hby dH2_31) rfl (l' := #[rv a, iv pq', rv d, iv 2, iv 1, iv w0]) rfl (XS.goto X1.here hx rfl (pc0 := 34) (pc' := 11) rfl (hb hby dH2_34) (by decide) (by decide) (XS.iload X1.here hx rfl (hb hby dH2_11) rfl  k)))) ?_
    refine Go.pull (V := T1.setTop (mkF m 20 #[rv a, iv pq', rv d, iv 2, iv 1, iv w0] [(.int 1), (.ref d)])) (fun t k => XS.iloadN X1.here hx rfl (hb hby dH2_13) rfl  (XS.icmpNo X1.here hx rfl (hb hby dH2_14) rfl (XT.ii_ge_f (by decide)) (XS.aloadN X1.here hx rfl (hb hby dH2_17) rfl rfl (XS.iload X1.here hx rfl (hb hby dH2_18) rfl  k)))) ?_
    obtain ⟨cl5, Ar5, q5, S5, M5, Hs5, G5⟩ := id Vd
    have hin5 : ¬ ((1 : Int32) < 0 ∨ cl5.slots.size ≤ ((1 : Int32)).toNatClampNeg) := inb_of S5 ⟨by decide, by decide⟩
    have hat5 : cl5.slots[((1 : Int32)).toNatClampNeg]? = some (.int w1) := Has.at Hs5 hin5 rfl
    refine Go.pull (V := T1.setTop (mkF m 26 #[rv a, iv pq', rv d, iv 2, iv 1, iv w1] [(.int pq'), (.int w1)])) (fun t k => X1.iaload hx (j := (1 : Int32)) (v := (.int w1)) (by rw [e1]; exact Ar5.1) (State.isArrayOf_alike hZ.alike Ar5.2.1) Ar5.2.2 hin5 hat5 (g := (mkF m 20 #[rv a, iv pq', rv d, iv 2, iv 1, iv w0] [(.int 1), (.ref d)])) rfl rfl (hb hby dH2_20) _ (XS.istore X1.here hx rfl (hb hby dH2_21) rfl (l' := #[rv a, iv pq', rv d, iv 2, iv 1, iv w1]) rfl (XS.iload X1.here hx rfl (hb hby dH2_23) rfl  (XS.iloadN X1.here hx rfl (hb hby dH2_25) rfl  k)))) ?_
    by_cases hc26_6 : w1 = pq'
    · skip
      refine Go.pull (V := T1.setTop (mkF m 30 #[rv a, iv pq', rv d, iv 2, iv 1, iv w1] [(.int 1)])) (fun t k => XS.icmpNo X1.here hx rfl (hb hby dH2_26) rfl (XT.ii_ne_f hc26_6) (XS.iconst X1.here hx rfl (hb hby dH2_29) k)) ?_
      exact Go.retN X1 hx Bd.notSynchronized (t := .boolean) Bd.returns (by simp) (hb hby dH2_30) ⟨(by rw [own_has2, if_neg hc26_4, if_pos hc26_6] <;> rfl), N0, e1⟩ (by decide) (by decide)
    · skip
      refine Go.pull (V := T1.setTop (mkF m 13 #[rv a, iv pq', rv d, iv 2, iv 2, iv w1] [(.int 2)])) (fun t k => XS.icmpYes X1.here hx rfl (pc0 := 26) (pc' := 31) rfl (hb hby dH2_26) rfl (XT.ii_ne_t hc26_6) (by decide) (by decide) (XS.iinc X1.here hx rfl (hb hby dH2_31) rfl (l' := #[rv a, iv pq', rv d, iv 2, iv 2, iv w1]) rfl (XS.goto X1.here hx rfl (pc0 := 34) (pc' := 11) rfl (hb hby dH2_34) (by decide) (by decide) (XS.iload X1.here hx rfl (hb hby dH2_11) rfl  k)))) ?_
      refine Go.pull (V := T1.setTop (mkF m 38 #[rv a, iv pq', rv d, iv 2, iv 2, iv w1] [(.int 0)])) (fun t k => XS.iloadN X1.here hx rfl (hb hby dH2_13) rfl  (XS.icmpYes X1.here hx rfl (pc0 := 14) (pc' := 37) rfl (hb hby dH2_14) rfl (XT.ii_ge_t (by decide)) (by decide) (by decide) (XS.iconst X1.here hx rfl (hb hby dH2_37) k))) ?_
      exact Go.retN X1 hx Bd.notSynchronized (t := .boolean) Bd.returns (by simp) (hb hby dH2_38) ⟨(by rw [own_has2, if_neg hc26_4, if_neg hc26_6] <;> rfl), N0, e1⟩ (by decide) (by decide)
theorem dH3_0 : decode prog_54_method_7_code 0 = .ok (.aload_n 0, 1) := by decide +kernel
theorem dH3_1 : decode prog_54_method_7_code 1 = .ok (.getfield 24, 3) := by decide +kernel
theorem dH3_4 : decode prog_54_method_7_code 4 = .ok (.astore_n 2, 1) := by decide +kernel
theorem dH3_5 : decode prog_54_method_7_code 5 = .ok (.aload_n 2, 1) := by decide +kernel
theorem dH3_6 : decode prog_54_method_7_code 6 = .ok (.arraylength, 1) := by decide +kernel
theorem dH3_7 : decode prog_54_method_7_code 7 = .ok (.istore_n 3, 1) := by decide +kernel
theorem dH3_8 : decode prog_54_method_7_code 8 = .ok (.iconst 0, 1) := by decide +kernel
theorem dH3_9 : decode prog_54_method_7_code 9 = .ok (.istore 4, 2) := by decide +kernel
theorem dH3_11 : decode prog_54_method_7_code 11 = .ok (.iload 4, 2) := by decide +kernel
theorem dH3_13 : decode prog_54_method_7_code 13 = .ok (.iload_n 3, 1) := by decide +kernel
theorem dH3_14 : decode prog_54_method_7_code 14 = .ok (.if_icmp .ge 23, 3) := by decide +kernel
theorem dH3_17 : decode prog_54_method_7_code 17 = .ok (.aload_n 2, 1) := by decide +kernel
theorem dH3_18 : decode prog_54_method_7_code 18 = .ok (.iload 4, 2) := by decide +kernel
theorem dH3_20 : decode prog_54_method_7_code 20 = .ok (.iaload, 1) := by decide +kernel
theorem dH3_21 : decode prog_54_method_7_code 21 = .ok (.istore 5, 2) := by decide +kernel
theorem dH3_23 : decode prog_54_method_7_code 23 = .ok (.iload 5, 2) := by decide +kernel
theorem dH3_25 : decode prog_54_method_7_code 25 = .ok (.iload_n 1, 1) := by decide +kernel
theorem dH3_26 : decode prog_54_method_7_code 26 = .ok (.if_icmp .ne 5, 3) := by decide +kernel
theorem dH3_29 : decode prog_54_method_7_code 29 = .ok (.iconst 1, 1) := by decide +kernel
theorem dH3_30 : decode prog_54_method_7_code 30 = .ok (.ireturn, 1) := by decide +kernel
theorem dH3_31 : decode prog_54_method_7_code 31 = .ok (.iinc 4 1, 3) := by decide +kernel
theorem dH3_34 : decode prog_54_method_7_code 34 = .ok (.goto (-23), 3) := by decide +kernel
theorem dH3_37 : decode prog_54_method_7_code 37 = .ok (.iconst 0, 1) := by decide +kernel
theorem dH3_38 : decode prog_54_method_7_code 38 = .ok (.ireturn, 1) := by decide +kernel
theorem efH3 (m : MethodId) (x0 : Addr) (x1 : Int32) : entryFrame m #[(.ref x0), (.int x1)] 6 = mkF m 0 #[rv x0, iv x1, .unset, .unset, .unset, .unset] [] := by first | (simp [entryFrame, mkF, argsToLocals, Value.category]; done) | rfl
def QH3 (Z : State) (a : Addr) (pq' : Int32) (d : Addr) (kd : ClassId) (w0 : Int32) (w1 : Int32) (w2 : Int32) (h0 : Heap) (n0 : Nat) (v : Option Value) (h : Heap) (L : List Loc) : Prop := v = some (.int (own_has3 w0 w1 w2 pq')) ∧ Fr n0 L ∧ h = h0
set_option maxRecDepth 65536 in
set_option maxHeartbeats 40000000 in
theorem rmH3 (l : Launch) (Z : State) (a0 : Array Value) (hw : ∀ d ∈ tables_1, d.before a0 Z = true) (ws : List Jvm.Cond) (a : Addr) (pq' : Int32) (d : Addr) (kd : ClassId) (w0 : Int32) (w1 : Int32) (w2 : Int32) (h0 : Heap) (n0 : Nat) (Fc : Fld Z h0 a "com/example/latch/latch/engine/Index" "m_columns" "[I" (.ref d)) (Vd : Arv Z h0 d kd .int (3 : Int32) [(.int w0), (.int w1), (.int w2)] (.int 0)) :
    MetFree l (⟨"com/example/latch/latch/engine/Index", "hasColumn", "(I)Z"⟩ : MethodName) (head1 (Jvm.Cond.code (⟨"com/example/latch/latch/engine/Index", "hasColumn", "(I)Z"⟩ : MethodName) prog_54_method_7_code 6 (some .boolean) :: ws) ({ frames := 0, cells := 0, slots := 0, locals := 0 } : Room)) (fun as' U => as' = #[(.ref a), (.int pq')] ∧ Z.Warmed39 U.vm ∧ U.heap = h0) (fun _ _ _ _ _ => True) (fun _ U o U' => ∃ v L, o = .returned v ∧ QH3 Z a pq' d kd w0 w1 w2 h0 n0 v U'.heap L ∧ FrameEnd U o U' L ({ frames := 0, cells := 0, slots := 0, locals := 0 } : Room).cells ({ frames := 0, cells := 0, slots := 0, locals := 0 } : Room).slots) := by
  refine MetFree.of_bodySF (plainFor_of_name pn_com_example_latch_latch_engine_Index) hisR ?_
  intro p e s m args below meth c s₁ Bd hml0 hP hK
  obtain ⟨rfl, hZ, hh⟩ := hP
  have hx := Bd.exec
  have hby := Bd.bytes
  have hml : c.maxLocals = 6 := hml0
  have hown : s.vm.findClass "com/example/latch/latch/engine/Index" = some m.cls := findClass_of_methodNamed Bd.named
  have hnm := (name_of_methodNamed Bd.named Bd.method).1
  have X0 : Stand p l e ({ frames := 0, cells := 0, slots := 0, locals := 0 } : Room) s m #[(.ref a), (.int pq')] below meth c s₁ [] 0 0 := Stand.of_body Bd
  have e0 : s₁.heap = h0 := by rw [← hh, Bd.state]; rfl
  have N0 := Fr.nil n0
  show Go p e below s (fun v h L => QH3 Z a pq' d kd w0 w1 w2 h0 n0 v h L) 0 0 _
  refine Go.pull (V := s₁.setTop (mkF m 0 #[rv a, iv pq', .unset, .unset, .unset, .unset] [])) (fun t k => castTop (efH3 m a pq') k) ?_
  refine Go.pull (V := s₁.setTop (mkF m 1 #[rv a, iv pq', .unset, .unset, .unset, .unset] [(.ref a)])) (fun t k => XS.aloadN X0.here hx rfl (hb hby dH3_0) rfl rfl k) ?_
  obtain ⟨T1, X1, e1, st1⟩ := getF X0 hx hZ hown (host := "") (Or.inl (hw _ (List.mem_of_getElem? (i := 57) rfl))) Via.refl e0 Fc (g := (mkF m 1 #[rv a, iv pq', .unset, .unset, .unset, .unset] [(.ref a)])) rfl rfl (hb hby dH3_1)
  refine Go.pull (V := T1.setTop (mkF m 4 #[rv a, iv pq', .unset, .unset, .unset, .unset] [(.ref d)])) st1 ?_
  refine Go.pull (V := T1.setTop (mkF m 6 #[rv a, iv pq', rv d, .unset, .unset, .unset] [(.ref d)])) (fun t k => XS.astoreN X1.here hx rfl (hb hby dH3_4) rfl rfl (l' := #[rv a, iv pq', rv d, .unset, .unset, .unset]) rfl (XS.aloadN X1.here hx rfl (hb hby dH3_5) rfl rfl k)) ?_
  obtain ⟨cl2, Ar2, q2, S2, M2, Hs2, G2⟩ := id Vd
  refine Go.pull (V := T1.setTop (mkF m 7 #[rv a, iv pq', rv d, .unset, .unset, .unset] [(.int 3)])) (fun t k => X1.arraylength hx (by rw [e1]; exact Ar2.1) (State.isArrayOf_alike hZ.alike Ar2.2.1) (g := (mkF m 6 #[rv a, iv pq', rv d, .unset, .unset, .unset] [(.ref d)])) rfl rfl (hb hby dH3_6) _ (by rw [len_of S2 M2]; exact k)) ?_
  refine Go.pull (V := T1.setTop (mkF m 13 #[rv a, iv pq', rv d, iv 3, iv 0, .unset] [(.int 0)])) (fun t k => XS.istoreN X1.here hx rfl (hb hby dH3_7) rfl (l' := #[rv a, iv pq', rv d, iv 3, .unset, .unset]) rfl (XS.iconst X1.here hx rfl (hb hby dH3_8) (XS.istore X1.here hx rfl (hb hby dH3_9) rfl (l' := #[rv a, iv pq', rv d, iv 3, iv 0, .unset]) rfl (XS.iload X1.here hx rfl (hb hby dH3_11) rfl  k)))) ?_
  refine Go.pull (V := T1.setTop (mkF m 20 #[rv a, iv pq', rv d, iv 3, iv 0, .unset] [(.int 0), (.ref d)])) (fun t k => XS.iloadN X1.here hx rfl (hb hby dH3_13) rfl  (XS.icmpNo X1.here hx rfl (hb hby dH3_14) rfl (XT.ii_ge_f (by decide)) (XS.aloadN X1.here hx rfl (hb hby dH3_17) rfl rfl (XS.iload X1.here hx rfl (hb hby dH3_18) rfl  k)))) ?_
  obtain ⟨cl3, Ar3, q3, S3, M3, Hs3, G3⟩ := id Vd
  have hin3 : ¬ ((0 : Int32) < 0 ∨ cl3.slots.size ≤ ((0 : Int32)).toNatClampNeg) := inb_of S3 ⟨by decide, by decide⟩
  have hat3 : cl3.slots[((0 : Int32)).toNatClampNeg]? = some (.int w0) := Has.at Hs3 hin3 rfl
  refine Go.pull (V := T1.setTop (mkF m 26 #[rv a, iv pq', rv d, iv 3, iv 0, iv w0] [(.int pq'), (.int w0)])) (fun t k => X1.iaload hx (j := (0 : Int32)) (v := (.int w0)) (by rw [e1]; exact Ar3.1) (State.isArrayOf_alike hZ.alike Ar3.2.1) Ar3.2.2 hin3 hat3 (g := (mkF m 20 #[rv a, iv pq', rv d, iv 3, iv 0, .unset] [(.int 0), (.ref d)])) rfl rfl (hb hby dH3_20) _ (XS.istore X1.here hx rfl (hb hby dH3_21) rfl (l' := #[rv a, iv pq', rv d, iv 3, iv 0, iv w0]) rfl (XS.iload X1.here hx rfl (hb hby dH3_23) rfl  (XS.iloadN X1.here hx rfl (hb hby dH3_25) rfl  k)))) ?_
  by_cases hc26_4 : w0 = pq'
  · skip
    refine Go.pull (V := T1.setTop (mkF m 30 #[rv a, iv pq', rv d, iv 3, iv 0, iv w0] [(.int 1)])) (fun t k => XS.icmpNo X1.here hx rfl (hb hby dH3_26) rfl (XT.ii_ne_f hc26_4) (XS.iconst X1.here hx rfl (hb hby dH3_29) k)) ?_
    exact Go.retN X1 hx Bd.notSynchronized (t := .boolean) Bd.returns (by simp) (hb hby dH3_30) ⟨(by rw [own_has3, if_pos hc26_4] <;> rfl), N0, e1⟩ (by decide) (by decide)
  · skip
    refine Go.pull (V := T1.setTop (mkF m 13 #[rv a, iv pq', rv d, iv 3, iv 1, iv w0] [(.int 1)])) (fun t k => XS.icmpYes X1.here hx rfl (pc0 := 26) (pc' := 31) rfl (hb hby dH3_26) rfl (XT.ii_ne_t hc26_4) (by decide) (by decide) (XS.iinc X1.here hx rfl (hb hby dH3_31) rfl (l' := #[rv a, iv pq', rv d, iv 3, iv 1, iv w0]) rfl (XS.goto X1.here hx rfl (pc0 := 34) (pc' := 11) rfl (hb hby dH3_34) (by decide) (by decide) (XS.iload X1.here hx rfl (hb hby dH3_11) rfl  k)))) ?_
    refine Go.pull (V := T1.setTop (mkF m 20 #[rv a, iv pq', rv d, iv 3, iv 1, iv w0] [(.int 1), (.ref d)])) (fun t k => XS.iloadN X1.here hx rfl (hb hby dH3_13) rfl  (XS.icmpNo X1.here hx rfl (hb hby dH3_14) rfl (XT.ii_ge_f (by decide)) (XS.aloadN X1.here hx rfl (hb hby dH3_17) rfl rfl (XS.iload X1.here hx rfl (hb hby dH3_18) rfl  k)))) ?_
    obtain ⟨cl5, Ar5, q5, S5, M5, Hs5, G5⟩ := id Vd
    have hin5 : ¬ ((1 : Int32) < 0 ∨ cl5.slots.size ≤ ((1 : Int32)).toNatClampNeg) := inb_of S5 ⟨by decide, by decide⟩
    have hat5 : cl5.slots[((1 : Int32)).toNatClampNeg]? = some (.int w1) := Has.at Hs5 hin5 rfl
    refine Go.pull (V := T1.setTop (mkF m 26 #[rv a, iv pq', rv d, iv 3, iv 1, iv w1] [(.int pq'), (.int w1)])) (fun t k => X1.iaload hx (j := (1 : Int32)) (v := (.int w1)) (by rw [e1]; exact Ar5.1) (State.isArrayOf_alike hZ.alike Ar5.2.1) Ar5.2.2 hin5 hat5 (g := (mkF m 20 #[rv a, iv pq', rv d, iv 3, iv 1, iv w0] [(.int 1), (.ref d)])) rfl rfl (hb hby dH3_20) _ (XS.istore X1.here hx rfl (hb hby dH3_21) rfl (l' := #[rv a, iv pq', rv d, iv 3, iv 1, iv w1]) rfl (XS.iload X1.here hx rfl (hb hby dH3_23) rfl  (XS.iloadN X1.here hx rfl (hb hby dH3_25) rfl  k)))) ?_
    by_cases hc26_6 : w1 = pq'
    · skip
      refine Go.pull (V := T1.setTop (mkF m 30 #[rv a, iv pq', rv d, iv 3, iv 1, iv w1] [(.int 1)])) (fun t k => XS.icmpNo X1.here hx rfl (hb hby dH3_26) rfl (XT.ii_ne_f hc26_6) (XS.iconst X1.here hx rfl (hb hby dH3_29) k)) ?_
      exact Go.retN X1 hx Bd.notSynchronized (t := .boolean) Bd.returns (by simp) (hb hby dH3_30) ⟨(by rw [own_has3, if_neg hc26_4, if_pos hc26_6] <;> rfl), N0, e1⟩ (by decide) (by decide)
    · skip
      refine Go.pull (V := T1.setTop (mkF m 13 #[rv a, iv pq', rv d, iv 3, iv 2, iv w1] [(.int 2)])) (fun t k => XS.icmpYes X1.here hx rfl (pc0 := 26) (pc' := 31) rfl (hb hby dH3_26) rfl (XT.ii_ne_t hc26_6) (by decide) (by decide) (XS.iinc X1.here hx rfl (hb hby dH3_31) rfl (l' := #[rv a, iv pq', rv d, iv 3, iv 2, iv w1]) rfl (XS.goto X1.here hx rfl (pc0 := 34) (pc' := 11) rfl (hb hby dH3_34) (by decide) (by decide) (XS.iload X1.here hx rfl (hb hby dH3_11) rfl  k)))) ?_
      refine Go.pull (V := T1.setTop (mkF m 20 #[rv a, iv pq', rv d, iv 3, iv 2, iv w1] [(.int 2), (.ref d)])) (fun t k => XS.iloadN X1.here hx rfl (hb hby dH3_13) rfl  (XS.icmpNo X1.here hx rfl (hb hby dH3_14) rfl (XT.ii_ge_f (by decide)) (XS.aloadN X1.here hx rfl (hb hby dH3_17) rfl rfl (XS.iload X1.here hx rfl (hb hby dH3_18) rfl  k)))) ?_
      obtain ⟨cl7, Ar7, q7, S7, M7, Hs7, G7⟩ := id Vd
      have hin7 : ¬ ((2 : Int32) < 0 ∨ cl7.slots.size ≤ ((2 : Int32)).toNatClampNeg) := inb_of S7 ⟨by decide, by decide⟩
      have hat7 : cl7.slots[((2 : Int32)).toNatClampNeg]? = some (.int w2) := Has.at Hs7 hin7 rfl
      refine Go.pull (V := T1.setTop (mkF m 26 #[rv a, iv pq', rv d, iv 3, iv 2, iv w2] [(.int pq'), (.int w2)])) (fun t k => X1.iaload hx (j := (2 : Int32)) (v := (.int w2)) (by rw [e1]; exact Ar7.1) (State.isArrayOf_alike hZ.alike Ar7.2.1) Ar7.2.2 hin7 hat7 (g := (mkF m 20 #[rv a, iv pq', rv d, iv 3, iv 2, iv w1] [(.int 2), (.ref d)])) rfl rfl (hb hby dH3_20) _ (XS.istore X1.here hx rfl (hb hby dH3_21) rfl (l' := #[rv a, iv pq', rv d, iv 3, iv 2, iv w2]) rfl (XS.iload X1.here hx rfl (hb hby dH3_23) rfl  (XS.iloadN X1.here hx rfl (hb hby dH3_25) rfl  k)))) ?_
      by_cases hc26_8 : w2 = pq'
      · skip
        refine Go.pull (V := T1.setTop (mkF m 30 #[rv a, iv pq', rv d, iv 3, iv 2, iv w2] [(.int 1)])) (fun t k => XS.icmpNo X1.here hx rfl (hb hby dH3_26) rfl (XT.ii_ne_f hc26_8) (XS.iconst X1.here hx rfl (hb hby dH3_29) k)) ?_
        exact Go.retN X1 hx Bd.notSynchronized (t := .boolean) Bd.returns (by simp) (hb hby dH3_30) ⟨(by rw [own_has3, if_neg hc26_4, if_neg hc26_6, if_pos hc26_8] <;> rfl), N0, e1⟩ (by decide) (by decide)
      · skip
        refine Go.pull (V := T1.setTop (mkF m 13 #[rv a, iv pq', rv d, iv 3, iv 3, iv w2] [(.int 3)])) (fun t k => XS.icmpYes X1.here hx rfl (pc0 := 26) (pc' := 31) rfl (hb hby dH3_26) rfl (XT.ii_ne_t hc26_8) (by decide) (by decide) (XS.iinc X1.here hx rfl (hb hby dH3_31) rfl (l' := #[rv a, iv pq', rv d, iv 3, iv 3, iv w2]) rfl (XS.goto X1.here hx rfl (pc0 := 34) (pc' := 11) rfl (hb hby dH3_34) (by decide) (by decide) (XS.iload X1.here hx rfl (hb hby dH3_11) rfl  k)))) ?_
        refine Go.pull (V := T1.setTop (mkF m 38 #[rv a, iv pq', rv d, iv 3, iv 3, iv w2] [(.int 0)])) (fun t k => XS.iloadN X1.here hx rfl (hb hby dH3_13) rfl  (XS.icmpYes X1.here hx rfl (pc0 := 14) (pc' := 37) rfl (hb hby dH3_14) rfl (XT.ii_ge_t (by decide)) (by decide) (by decide) (XS.iconst X1.here hx rfl (hb hby dH3_37) k))) ?_
        exact Go.retN X1 hx Bd.notSynchronized (t := .boolean) Bd.returns (by simp) (hb hby dH3_38) ⟨(by rw [own_has3, if_neg hc26_4, if_neg hc26_6, if_neg hc26_8] <;> rfl), N0, e1⟩ (by decide) (by decide)
theorem ef0 (m : MethodId) (x0 : Int32) (x1 : Int32) (x2 : Int32) (x3 : Int32) (x4 : Int32) : entryFrame m #[(.int x0), (.int x1), (.int x2), (.int x3), (.int x4)] maxLocals = mkF m 0 #[iv x0, iv x1, iv x2, iv x3, iv x4, .unset, .unset, .unset, .unset, .unset, .unset, .unset, .unset] [] := by first | (simp [entryFrame, mkF, argsToLocals, Value.category, maxLocals]; done) | rfl
theorem pn_com_example_latch_latch_engine_IndexHasColumnPinLaw : plainName "com/example/latch/latch/engine/IndexHasColumnPinLaw" = true := by first | (simp [plainName, overriddenIn]; done) | decide +kernel
def Q0 (Z : State) (pk : Int32) (pa : Int32) (pb : Int32) (pc' : Int32) (pq : Int32) (h0 : Heap) (n0 : Nat) (v : Option Value) (h : Heap) (L : List Loc) : Prop := v = some (.int 1) ∧ Fr n0 L
set_option maxRecDepth 65536 in
set_option maxHeartbeats 40000000 in
theorem rm0 (l : Launch) (Z : State) (a0 : Array Value) (hw : ∀ d ∈ tables_1, d.before a0 Z = true) (ws : List Jvm.Cond) (pk : Int32) (pa : Int32) (pb : Int32) (pc' : Int32) (pq : Int32) (h0 : Heap) (n0 : Nat) (Z0 : n0 ≤ h0.size) :
    MetFree l x (head1 (Jvm.Cond.code x code maxLocals ret :: ws) room_1) (fun as' U => as' = #[(.int pk), (.int pa), (.int pb), (.int pc'), (.int pq)] ∧ Z.Warmed39 U.vm ∧ U.heap = h0) (fun _ _ _ _ _ => True) (fun _ U o U' => ∃ v L, o = .returned v ∧ Q0 Z pk pa pb pc' pq h0 n0 v U'.heap L ∧ ReturnedEndW U o U' L 24 1408) := by
  refine MetFree.of_bodySF (plainFor_of_name pn_com_example_latch_latch_engine_IndexHasColumnPinLaw) hisR ?_
  intro p e s m args below meth c s₁ Bd hml0 hP hK
  obtain ⟨rfl, hZ, hh⟩ := hP
  have hx := Bd.exec
  have hby := Bd.bytes
  have hml : c.maxLocals = 13 := hml0
  have hown : s.vm.findClass "com/example/latch/latch/engine/IndexHasColumnPinLaw" = some m.cls := findClass_of_methodNamed Bd.named
  have hnm := (name_of_methodNamed Bd.named Bd.method).1
  have X0 : Stand p l e room_1 s m #[(.int pk), (.int pa), (.int pb), (.int pc'), (.int pq)] below meth c s₁ [] 0 0 := Stand.of_body Bd
  have e0 : s₁.heap = h0 := by rw [← hh, Bd.state]; rfl
  have N0 := Fr.nil n0
  show GoW p e below s (fun v h L => Q0 Z pk pa pb pc' pq h0 n0 v h L) 24 1408 _
  refine GoW.pull (V := s₁.setTop (mkF m 0 #[iv pk, iv pa, iv pb, iv pc', iv pq, .unset, .unset, .unset, .unset, .unset, .unset, .unset, .unset] [])) (fun t k => castTop (ef0 m pk pa pb pc' pq) k) ?_
  refine GoW.pull (V := s₁.setTop (mkF m 5 #[iv pk, iv pa, iv pb, iv pc', iv pq, iv (pk &&& (3 : Int32)), .unset, .unset, .unset, .unset, .unset, .unset, .unset] [])) (fun t k => XS.iloadN X0.here hx rfl (hb hby at_0) rfl  (XS.iconst X0.here hx rfl (hb hby at_1) (XS.iand X0.here hx rfl (hb hby at_2) rfl (XS.istore X0.here hx rfl (hb hby at_3) rfl (l' := #[iv pk, iv pa, iv pb, iv pc', iv pq, iv (pk &&& (3 : Int32)), .unset, .unset, .unset, .unset, .unset, .unset, .unset]) rfl k)))) ?_
  refine GoW.pull (V := s₁.setTop (mkF m 9 #[iv pk, iv pa, iv pb, iv pc', iv pq, iv (pk &&& (3 : Int32)), .unset, .unset, .unset, .unset, .unset, .unset, .unset] [(.int 3), (.int ((pk.toUInt32 >>> ((2 : Int32) &&& 31).toUInt32).toInt32))])) (fun t k => XS.iloadN X0.here hx rfl (hb hby at_5) rfl  (XS.iconst X0.here hx rfl (hb hby at_6) (XS.iushr X0.here hx rfl (hb hby at_7) rfl (XS.iconst X0.here hx rfl (hb hby at_8) k)))) ?_
  refine GoW.pull (V := s₁.setTop (mkF m 12 #[iv pk, iv pa, iv pb, iv pc', iv pq, iv (pk &&& (3 : Int32)), iv (((pk.toUInt32 >>> ((2 : Int32) &&& 31).toUInt32).toInt32) &&& (3 : Int32)), .unset, .unset, .unset, .unset, .unset, .unset] [])) (fun t k => XS.iand X0.here hx rfl (hb hby at_9) rfl (XS.istore X0.here hx rfl (hb hby at_10) rfl (l' := #[iv pk, iv pa, iv pb, iv pc', iv pq, iv (pk &&& (3 : Int32)), iv (((pk.toUInt32 >>> ((2 : Int32) &&& 31).toUInt32).toInt32) &&& (3 : Int32)), .unset, .unset, .unset, .unset, .unset, .unset]) rfl k)) ?_
  have J27_1 : ∀ (zu : Int32) (_ : nar .boolean zu = zu), GoW p e below s (fun v h L => Q0 Z pk pa pb pc' pq h0 n0 v h L) 24 1408 (s₁.setTop (mkF m 27 #[iv pk, iv pa, iv pb, iv pc', iv pq, iv (pk &&& (3 : Int32)), iv (((pk.toUInt32 >>> ((2 : Int32) &&& 31).toUInt32).toInt32) &&& (3 : Int32)), iv zu, .unset, .unset, .unset, .unset, .unset] [])) := by
    intro zu hzu
    refine GoW.pull (V := s₁.setTop (mkF m 32 #[iv pk, iv pa, iv pb, iv pc', iv pq, iv (pk &&& (3 : Int32)), iv (((pk.toUInt32 >>> ((2 : Int32) &&& 31).toUInt32).toInt32) &&& (3 : Int32)), iv zu, iv ((pk.toUInt32 >>> ((5 : Int32) &&& 31).toUInt32).toInt32), .unset, .unset, .unset, .unset] [])) (fun t k => XS.iloadN X0.here hx rfl (hb hby at_27) rfl  (XS.iconst X0.here hx rfl (hb hby at_28) (XS.iushr X0.here hx rfl (hb hby at_29) rfl (XS.istore X0.here hx rfl (hb hby at_30) rfl (l' := #[iv pk, iv pa, iv pb, iv pc', iv pq, iv (pk &&& (3 : Int32)), iv (((pk.toUInt32 >>> ((2 : Int32) &&& 31).toUInt32).toInt32) &&& (3 : Int32)), iv zu, iv ((pk.toUInt32 >>> ((5 : Int32) &&& 31).toUInt32).toInt32), .unset, .unset, .unset, .unset]) rfl k)))) ?_
    have J69_2 : ∀ (zc : Int32), GoW p e below s (fun v h L => Q0 Z pk pa pb pc' pq h0 n0 v h L) 24 1408 (s₁.setTop (mkF m 69 #[iv pk, iv pa, iv pb, iv pc', iv pq, iv (pk &&& (3 : Int32)), iv (((pk.toUInt32 >>> ((2 : Int32) &&& 31).toUInt32).toInt32) &&& (3 : Int32)), iv zu, iv ((pk.toUInt32 >>> ((5 : Int32) &&& 31).toUInt32).toInt32), iv zc, .unset, .unset, .unset] [])) := by
      intro zc
      generalize gv3 : (pk &&& (3 : Int32)) = v3
      obtain hv3 | hv3 | hv3 | hv3 := own_and3 _ gv3
      · subst hv3
        refine GoW.pull (V := s₁.setTop (mkF m 75 #[iv pk, iv pa, iv pb, iv pc', iv pq, iv 0, iv (((pk.toUInt32 >>> ((2 : Int32) &&& 31).toUInt32).toInt32) &&& (3 : Int32)), iv zu, iv ((pk.toUInt32 >>> ((5 : Int32) &&& 31).toUInt32).toInt32), iv zc, .unset, .unset, .unset] [(.int 0)])) (fun t k => XS.iload X0.here hx rfl (hb hby at_69) rfl  (XS.ifNo X0.here hx rfl (hb hby at_71) rfl (XT.i0_ne_f (by decide)) (XS.iconst X0.here hx rfl (hb hby at_74) k))) ?_
        obtain ⟨T4, h4, k4, X4, e4, E4, A4, st4⟩ := newP X0 hx hZ (hw _ (List.mem_of_getElem? (i := 0) rfl)) e0 (g := (mkF m 75 #[iv pk, iv pa, iv pb, iv pc', iv pq, iv 0, iv (((pk.toUInt32 >>> ((2 : Int32) &&& 31).toUInt32).toInt32) &&& (3 : Int32)), iv zu, iv ((pk.toUInt32 >>> ((5 : Int32) &&& 31).toUInt32).toInt32), iv zc, .unset, .unset, .unset] [(.int 0)])) rfl (hb hby at_75) rfl (by decide) (cap := 0) (by decide) (by decide) (by decide) (by decide)
        obtain ⟨b4, g4⟩ : ∃ z, z = h0.size := ⟨_, rfl⟩
        rw [← g4] at A4 st4
        have sz_b4 : h0.size ≤ b4 := Nat.le_trans ((Keep.refl h0 [])).1 (Nat.le_of_eq g4.symm)
        have g_b4 : n0 ≤ b4 := Nat.le_trans Z0 sz_b4
        have K4 : Keep h0 h4 [] := (Keep.refl h0 []).ext E4
        have V4 : Arv Z h4 b4 k4 .int (0 : Int32) [] (.int 0) := (Arv.new A4 (by decide)).pad (pad_rep [] (.int 0) 0)
        refine GoW.pull (V := T4.setTop (mkF m 77 #[iv pk, iv pa, iv pb, iv pc', iv pq, iv 0, iv (((pk.toUInt32 >>> ((2 : Int32) &&& 31).toUInt32).toInt32) &&& (3 : Int32)), iv zu, iv ((pk.toUInt32 >>> ((5 : Int32) &&& 31).toUInt32).toInt32), iv zc, .unset, .unset, .unset] [(.ref b4)])) st4 ?_
        refine GoW.pull (V := T4.setTop (mkF m 139 #[iv pk, iv pa, iv pb, iv pc', iv pq, iv 0, iv (((pk.toUInt32 >>> ((2 : Int32) &&& 31).toUInt32).toInt32) &&& (3 : Int32)), iv zu, iv ((pk.toUInt32 >>> ((5 : Int32) &&& 31).toUInt32).toInt32), iv zc, rv b4, .unset, .unset] [])) (fun t k => XS.astore X4.here hx rfl (hb hby at_77) rfl rfl (l' := #[iv pk, iv pa, iv pb, iv pc', iv pq, iv 0, iv (((pk.toUInt32 >>> ((2 : Int32) &&& 31).toUInt32).toInt32) &&& (3 : Int32)), iv zu, iv ((pk.toUInt32 >>> ((5 : Int32) &&& 31).toUInt32).toInt32), iv zc, rv b4, .unset, .unset]) rfl (XS.goto X4.here hx rfl (pc0 := 79) (pc' := 139) rfl (hb hby at_79) (by decide) (by decide) k)) ?_
        obtain ⟨T5, h5, X5, e5, E5, A5, D5, -, st5⟩ := newO X4 hx hZ hown (hw _ (List.mem_of_getElem? (i := 1) rfl)) (hw _ (List.mem_of_getElem? (i := 2) rfl)) (hw _ (List.mem_of_getElem? (i := 3) rfl)) e4 (g := (mkF m 139 #[iv pk, iv pa, iv pb, iv pc', iv pq, iv 0, iv (((pk.toUInt32 >>> ((2 : Int32) &&& 31).toUInt32).toInt32) &&& (3 : Int32)), iv zu, iv ((pk.toUInt32 >>> ((5 : Int32) &&& 31).toUInt32).toInt32), iv zc, rv b4, .unset, .unset] [])) rfl (hb hby at_139) (by decide) (by decide)
        obtain ⟨b5, g5⟩ : ∃ z, z = h4.size := ⟨_, rfl⟩
        rw [← g5] at A5 D5 st5
        have ne_b4_b5 : b4 ≠ b5 := Nat.ne_of_lt (Nat.lt_of_lt_of_le V4.lt (Nat.le_of_eq g5.symm))
        have sz_b5 : h0.size ≤ b5 := Nat.le_trans (K4).1 (Nat.le_of_eq g5.symm)
        have g_b5 : n0 ≤ b5 := Nat.le_trans Z0 sz_b5
        have K5 : Keep h0 h5 [] := K4.ext E5
        have F6 : Fld Z h5 b5 "com/example/latch/latch/engine/Index" "m_references" "Lcom/example/latch/latch/engine/KeyMap;" .null := D5 (Or.inr (hw _ (List.mem_of_getElem? (i := 52) rfl))) (ty := (.object "com/example/latch/latch/engine/KeyMap")) (by decide)
        have F7 : Fld Z h5 b5 "com/example/latch/latch/engine/Index" "m_name" "Ljava/lang/String;" .null := D5 (Or.inr (hw _ (List.mem_of_getElem? (i := 54) rfl))) (ty := (.object "java/lang/String")) (by decide)
        have F8 : Fld Z h5 b5 "com/example/latch/latch/engine/Index" "m_position" "I" (.int 0) := D5 (Or.inr (hw _ (List.mem_of_getElem? (i := 56) rfl))) (ty := .int) (by decide)
        have F9 : Fld Z h5 b5 "com/example/latch/latch/engine/Index" "m_columns" "[I" .null := D5 (Or.inr (hw _ (List.mem_of_getElem? (i := 58) rfl))) (ty := (.array .int)) (by decide)
        have F10 : Fld Z h5 b5 "com/example/latch/latch/engine/Index" "m_unique" "Z" (.int 0) := D5 (Or.inr (hw _ (List.mem_of_getElem? (i := 60) rfl))) (ty := .boolean) (by decide)
        refine GoW.pull (V := T5.setTop (mkF m 142 #[iv pk, iv pa, iv pb, iv pc', iv pq, iv 0, iv (((pk.toUInt32 >>> ((2 : Int32) &&& 31).toUInt32).toInt32) &&& (3 : Int32)), iv zu, iv ((pk.toUInt32 >>> ((5 : Int32) &&& 31).toUInt32).toInt32), iv zc, rv b4, .unset, .unset] [(.ref b5)])) st5 ?_
        refine GoW.pull (V := T5.setTop (mkF m 143 #[iv pk, iv pa, iv pb, iv pc', iv pq, iv 0, iv (((pk.toUInt32 >>> ((2 : Int32) &&& 31).toUInt32).toInt32) &&& (3 : Int32)), iv zu, iv ((pk.toUInt32 >>> ((5 : Int32) &&& 31).toUInt32).toInt32), iv zc, rv b4, .unset, .unset] [(.ref b5), (.ref b5)])) (fun t k => XS.dup X5.here hx rfl (hb hby at_142) rfl rfl k) ?_
        obtain ⟨str11, T11, h11, k11, X11, e11, E11, hS, hk11, hZ, hown, st11⟩ := ldcS (s := s) (vm0 := s.vm) X5 hx hZ hown (hw _ (List.mem_of_getElem? (i := 4) rfl)) (fun d hd => hw d (own_strW d hd)) e5 ((State.WarmedH.refl s).since 0) (Nat.zero_le _) (g := (mkF m 143 #[iv pk, iv pa, iv pb, iv pc', iv pq, iv 0, iv (((pk.toUInt32 >>> ((2 : Int32) &&& 31).toUInt32).toInt32) &&& (3 : Int32)), iv zu, iv ((pk.toUInt32 >>> ((5 : Int32) &&& 31).toUInt32).toInt32), iv zc, rv b4, .unset, .unset] [(.ref b5), (.ref b5)])) rfl (hb hby at_143) (n := 4) (by decide) (by decide) (by decide) (by decide)
        have K11 : Keep h0 h11 [] := K5.ext E11
        refine GoW.pull (V := T11.setTop (mkF m 145 #[iv pk, iv pa, iv pb, iv pc', iv pq, iv 0, iv (((pk.toUInt32 >>> ((2 : Int32) &&& 31).toUInt32).toInt32) &&& (3 : Int32)), iv zu, iv ((pk.toUInt32 >>> ((5 : Int32) &&& 31).toUInt32).toInt32), iv zc, rv b4, .unset, .unset] [(.ref str11), (.ref b5), (.ref b5)])) st11 ?_
        refine Go.wide hS ?_
        refine Go.pull (V := T11.setTop (mkF m 151 #[iv pk, iv pa, iv pb, iv pc', iv pq, iv 0, iv (((pk.toUInt32 >>> ((2 : Int32) &&& 31).toUInt32).toInt32) &&& (3 : Int32)), iv zu, iv ((pk.toUInt32 >>> ((5 : Int32) &&& 31).toUInt32).toInt32), iv zc, rv b4, .unset, .unset] [(.int zu), (.ref b4), (.int ((pk.toUInt32 >>> ((5 : Int32) &&& 31).toUInt32).toInt32)), (.ref str11), (.ref b5), (.ref b5)])) (fun t k => XS.iload X11.here hx rfl (hb hby at_145) rfl  (XS.aload X11.here hx rfl (hb hby at_147) rfl rfl (XS.iload X11.here hx rfl (hb hby at_149) rfl  k))) ?_
        obtain ⟨_, _, ⟨T12, L12, k12, n12⟩, -, X12, ⟨Lc12, hQ12, l12, y12, z12⟩, st12⟩ := X11.specialBack hx (y := (⟨"com/example/latch/latch/engine/Index", "<init>", "(Ljava/lang/String;I[IZ)V"⟩ : MethodName)) rfl hown (mvT hZ (hw _ (List.mem_of_getElem? (i := 12) rfl))) (mvT hZ (hw _ (List.mem_of_getElem? (i := 13) rfl))) (mvT hZ (hw _ (List.mem_of_getElem? (i := 14) rfl))) (by decide) (backOf (W := 1) (rmI l Z a0 hw [] b5 str11 ((pk.toUInt32 >>> ((5 : Int32) &&& 31).toUInt32).toInt32) b4 zu .null .null (.int 0) .null (.int 0) h11 n0 (Nat.le_trans Z0 (K11).1) (g_b5) (A5.ext E11) (F6.ext E11) (F7.ext E11) (F8.ext E11) (F9.ext E11) (F10.ext E11) hzu) hZ (hw _ (List.mem_of_getElem? (i := 14) rfl)) (hw _ (List.mem_of_getElem? (i := 3) rfl)) (by decide) (by decide)) (g := (mkF m 151 #[iv pk, iv pa, iv pb, iv pc', iv pq, iv 0, iv (((pk.toUInt32 >>> ((2 : Int32) &&& 31).toUInt32).toInt32) &&& (3 : Int32)), iv zu, iv ((pk.toUInt32 >>> ((5 : Int32) &&& 31).toUInt32).toInt32), iv zc, rv b4, .unset, .unset] [(.int zu), (.ref b4), (.int ((pk.toUInt32 >>> ((5 : Int32) &&& 31).toUInt32).toInt32)), (.ref str11), (.ref b5), (.ref b5)])) rfl (by rw [hml]; rfl) (Steps.refl _) (a := b5) (argsL := [(.ref str11), (.int ((pk.toUInt32 >>> ((5 : Int32) &&& 31).toUInt32).toInt32)), (.ref b4), (.int zu)]) (rest := [(.ref b5)]) (lenOf pd_1 rfl) rfl (by show 2 * 0 + _ ≤ _; exact Nat.le_of_eq rfl) (hb hby at_151) (fun _ _ => ⟨rfl, e11, (by decide : 4 + 4 ≤ _), (by decide : 13 + 139 ≤ _)⟩)
        dsimp only [Pt.U, Pt.locs, Pt.cells, Pt.slots] at X12 l12 y12 z12 st12 hQ12
        subst l12 y12 z12
        obtain ⟨rfl, N12q, Kc12, Fc12_0⟩ := hQ12
        have K12 : Keep h0 T12.heap [] := K11.trans Kc12 ((allS (Or.inr sz_b5) all0))
        have N12 := Fr.app N0 N12q
        refine Go.pull (V := T12.setTop (mkF m 154 #[iv pk, iv pa, iv pb, iv pc', iv pq, iv 0, iv (((pk.toUInt32 >>> ((2 : Int32) &&& 31).toUInt32).toInt32) &&& (3 : Int32)), iv zu, iv ((pk.toUInt32 >>> ((5 : Int32) &&& 31).toUInt32).toInt32), iv zc, rv b4, .unset, .unset] [(.ref b5)])) (fun _ k => st12.trans k) ?_
        refine Go.pull (V := T12.setTop (mkF m 169 #[iv pk, iv pa, iv pb, iv pc', iv pq, iv 0, iv (((pk.toUInt32 >>> ((2 : Int32) &&& 31).toUInt32).toInt32) &&& (3 : Int32)), iv zu, iv ((pk.toUInt32 >>> ((5 : Int32) &&& 31).toUInt32).toInt32), iv zc, rv b4, rv b5, .unset] [(.int 0)])) (fun t k => XS.astore X12.here hx rfl (hb hby at_154) rfl rfl (l' := #[iv pk, iv pa, iv pb, iv pc', iv pq, iv 0, iv (((pk.toUInt32 >>> ((2 : Int32) &&& 31).toUInt32).toInt32) &&& (3 : Int32)), iv zu, iv ((pk.toUInt32 >>> ((5 : Int32) &&& 31).toUInt32).toInt32), iv zc, rv b4, rv b5, .unset]) rfl (XS.iload X12.here hx rfl (hb hby at_156) rfl  (XS.ifYes X12.here hx rfl (pc0 := 158) (pc' := 167) rfl (hb hby at_158) rfl (XT.i0_le_t (by decide)) (by decide) (by decide) (XS.iload X12.here hx rfl (hb hby at_167) rfl  k)))) ?_
        refine Go.pull (V := T12.setTop (mkF m 182 #[iv pk, iv pa, iv pb, iv pc', iv pq, iv 0, iv (((pk.toUInt32 >>> ((2 : Int32) &&& 31).toUInt32).toInt32) &&& (3 : Int32)), iv zu, iv ((pk.toUInt32 >>> ((5 : Int32) &&& 31).toUInt32).toInt32), iv zc, rv b4, rv b5, .unset] [(.int 2), (.int 0)])) (fun t k => XS.iconst X12.here hx rfl (hb hby at_169) (XS.icmpYes X12.here hx rfl (pc0 := 170) (pc' := 179) rfl (hb hby at_170) rfl (XT.ii_le_t (by decide)) (by decide) (by decide) (XS.iload X12.here hx rfl (hb hby at_179) rfl  (XS.iconst X12.here hx rfl (hb hby at_181) k)))) ?_
        refine Go.pull (V := T12.setTop (mkF m 200 #[iv pk, iv pa, iv pb, iv pc', iv pq, iv 0, iv (((pk.toUInt32 >>> ((2 : Int32) &&& 31).toUInt32).toInt32) &&& (3 : Int32)), iv zu, iv ((pk.toUInt32 >>> ((5 : Int32) &&& 31).toUInt32).toInt32), iv zc, rv b4, rv b5, iv 0] [(.ref b5)])) (fun t k => XS.icmpYes X12.here hx rfl (pc0 := 182) (pc' := 195) rfl (hb hby at_182) rfl (XT.ii_le_t (by decide)) (by decide) (by decide) (XS.iconst X12.here hx rfl (hb hby at_195) (XS.istore X12.here hx rfl (hb hby at_196) rfl (l' := #[iv pk, iv pa, iv pb, iv pc', iv pq, iv 0, iv (((pk.toUInt32 >>> ((2 : Int32) &&& 31).toUInt32).toInt32) &&& (3 : Int32)), iv zu, iv ((pk.toUInt32 >>> ((5 : Int32) &&& 31).toUInt32).toInt32), iv zc, rv b4, rv b5, iv 0]) rfl (XS.aload X12.here hx rfl (hb hby at_198) rfl rfl k)))) ?_
        refine Go.pull (V := T12.setTop (mkF m 202 #[iv pk, iv pa, iv pb, iv pc', iv pq, iv 0, iv (((pk.toUInt32 >>> ((2 : Int32) &&& 31).toUInt32).toInt32) &&& (3 : Int32)), iv zu, iv ((pk.toUInt32 >>> ((5 : Int32) &&& 31).toUInt32).toInt32), iv zc, rv b4, rv b5, iv 0] [(.int zc), (.ref b5)])) (fun t k => XS.iload X12.here hx rfl (hb hby at_200) rfl  k) ?_
        obtain ⟨cq13, kq13, q13a, q13b, q13c⟩ := isOf hZ rfl ((A5.ext E11).keep Kc12)
        obtain ⟨_, _, ⟨T13, L13, k13, n13⟩, -, X13, ⟨Lc13, hQ13, l13, y13, z13⟩, st13⟩ := X12.virtualBack hx (y := (⟨"com/example/latch/latch/engine/Index", "hasColumn", "(I)Z"⟩ : MethodName)) (z := (⟨"com/example/latch/latch/engine/Index", "hasColumn", "(I)Z"⟩ : MethodName)) hown (mvT hZ (hw _ (List.mem_of_getElem? (i := 61) rfl))) (mvT hZ (hw _ (List.mem_of_getElem? (i := 62) rfl))) (notFace_of_selects (args := #[]) (mvT hZ (hw _ (List.mem_of_getElem? (i := 64) rfl)))) (mvT hZ (hw _ (List.mem_of_getElem? (i := 64) rfl))) (mvT hZ (hw _ (List.mem_of_getElem? (i := 63) rfl))) (by decide) (backOf (W := 0) (rmH0 l Z a0 hw [] b5 zc b4 k4 T12.heap n0 Fc12_0 (((V4.ext E5).ext E11).keep Kc12 (ninS (ne_b4_b5) nin0))) hZ (hw _ (List.mem_of_getElem? (i := 65) rfl)) (hw _ (List.mem_of_getElem? (i := 3) rfl)) (by decide) (by decide)) q13a q13c (g := (mkF m 202 #[iv pk, iv pa, iv pb, iv pc', iv pq, iv 0, iv (((pk.toUInt32 >>> ((2 : Int32) &&& 31).toUInt32).toInt32) &&& (3 : Int32)), iv zu, iv ((pk.toUInt32 >>> ((5 : Int32) &&& 31).toUInt32).toInt32), iv zc, rv b4, rv b5, iv 0] [(.int zc), (.ref b5)])) rfl (by rw [hml]; rfl) (Steps.refl _) (argsL := [(.int zc)]) (rest := []) (lenOf pd_2 rfl) rfl (by show 2 * 0 + _ ≤ _; exact Nat.le_of_eq rfl) (hb hby at_202) (fun _ _ => ⟨rfl, rfl, (by decide : 8 + 0 ≤ _), (by decide : 152 + 0 ≤ _)⟩)
        dsimp only [Pt.U, Pt.locs, Pt.cells, Pt.slots] at X13 l13 y13 z13 st13 hQ13
        subst l13 y13 z13
        obtain ⟨hv13, N13q, e13⟩ := hQ13
        rw [(show (own_has0 zc) = (0 : Int32) from by rw [own_has0])] at hv13; subst hv13
        have N13 := Fr.app N12 N13q
        refine Go.pull (V := T13.setTop (mkF m 205 #[iv pk, iv pa, iv pb, iv pc', iv pq, iv 0, iv (((pk.toUInt32 >>> ((2 : Int32) &&& 31).toUInt32).toInt32) &&& (3 : Int32)), iv zu, iv ((pk.toUInt32 >>> ((5 : Int32) &&& 31).toUInt32).toInt32), iv zc, rv b4, rv b5, iv 0] [(.int 0)])) (fun _ k => st13.trans k) ?_
        refine Go.pull (V := T13.setTop (mkF m 215 #[iv pk, iv pa, iv pb, iv pc', iv pq, iv 0, iv (((pk.toUInt32 >>> ((2 : Int32) &&& 31).toUInt32).toInt32) &&& (3 : Int32)), iv zu, iv ((pk.toUInt32 >>> ((5 : Int32) &&& 31).toUInt32).toInt32), iv zc, rv b4, rv b5, iv 0] [(.int 1)])) (fun t k => XS.iload X13.here hx rfl (hb hby at_205) rfl  (XS.icmpNo X13.here hx rfl (hb hby at_207) rfl (XT.ii_ne_f (by decide)) (XS.iconst X13.here hx rfl (hb hby at_210) (XS.goto X13.here hx rfl (pc0 := 211) (pc' := 215) rfl (hb hby at_211) (by decide) (by decide) k)))) ?_
        exact Go.retN X13 hx Bd.notSynchronized (t := .boolean) Bd.returns (by simp) (hb hby at_215) ⟨⟨rfl, N13⟩, by rw [e13]; exact (Nat.le_trans hk11 Kc12.1)⟩ (by decide) (by decide)
      · subst hv3
        refine GoW.pull (V := s₁.setTop (mkF m 85 #[iv pk, iv pa, iv pb, iv pc', iv pq, iv 1, iv (((pk.toUInt32 >>> ((2 : Int32) &&& 31).toUInt32).toInt32) &&& (3 : Int32)), iv zu, iv ((pk.toUInt32 >>> ((5 : Int32) &&& 31).toUInt32).toInt32), iv zc, .unset, .unset, .unset] [(.int 1), (.int 1)])) (fun t k => XS.iload X0.here hx rfl (hb hby at_69) rfl  (XS.ifYes X0.here hx rfl (pc0 := 71) (pc' := 82) rfl (hb hby at_71) rfl (XT.i0_ne_t (by decide)) (by decide) (by decide) (XS.iload X0.here hx rfl (hb hby at_82) rfl  (XS.iconst X0.here hx rfl (hb hby at_84) k)))) ?_
        refine GoW.pull (V := s₁.setTop (mkF m 89 #[iv pk, iv pa, iv pb, iv pc', iv pq, iv 1, iv (((pk.toUInt32 >>> ((2 : Int32) &&& 31).toUInt32).toInt32) &&& (3 : Int32)), iv zu, iv ((pk.toUInt32 >>> ((5 : Int32) &&& 31).toUInt32).toInt32), iv zc, .unset, .unset, .unset] [(.int 1)])) (fun t k => XS.icmpNo X0.here hx rfl (hb hby at_85) rfl (XT.ii_ne_f (by decide)) (XS.iconst X0.here hx rfl (hb hby at_88) k)) ?_
        obtain ⟨T14, h14, k14, X14, e14, E14, A14, st14⟩ := newP X0 hx hZ (hw _ (List.mem_of_getElem? (i := 0) rfl)) e0 (g := (mkF m 89 #[iv pk, iv pa, iv pb, iv pc', iv pq, iv 1, iv (((pk.toUInt32 >>> ((2 : Int32) &&& 31).toUInt32).toInt32) &&& (3 : Int32)), iv zu, iv ((pk.toUInt32 >>> ((5 : Int32) &&& 31).toUInt32).toInt32), iv zc, .unset, .unset, .unset] [(.int 1)])) rfl (hb hby at_89) rfl (by decide) (cap := 1) (by decide) (by decide) (by decide) (by decide)
        obtain ⟨b14, g14⟩ : ∃ z, z = h0.size := ⟨_, rfl⟩
        rw [← g14] at A14 st14
        have sz_b14 : h0.size ≤ b14 := Nat.le_trans ((Keep.refl h0 [])).1 (Nat.le_of_eq g14.symm)
        have g_b14 : n0 ≤ b14 := Nat.le_trans Z0 sz_b14
        have K14 : Keep h0 h14 [] := (Keep.refl h0 []).ext E14
        have V14 : Arv Z h14 b14 k14 .int (1 : Int32) [(.int 0)] (.int 0) := (Arv.new A14 (by decide)).pad (pad_rep [] (.int 0) 1)
        refine GoW.pull (V := T14.setTop (mkF m 91 #[iv pk, iv pa, iv pb, iv pc', iv pq, iv 1, iv (((pk.toUInt32 >>> ((2 : Int32) &&& 31).toUInt32).toInt32) &&& (3 : Int32)), iv zu, iv ((pk.toUInt32 >>> ((5 : Int32) &&& 31).toUInt32).toInt32), iv zc, .unset, .unset, .unset] [(.ref b14)])) st14 ?_
        refine GoW.pull (V := T14.setTop (mkF m 94 #[iv pk, iv pa, iv pb, iv pc', iv pq, iv 1, iv (((pk.toUInt32 >>> ((2 : Int32) &&& 31).toUInt32).toInt32) &&& (3 : Int32)), iv zu, iv ((pk.toUInt32 >>> ((5 : Int32) &&& 31).toUInt32).toInt32), iv zc, .unset, .unset, .unset] [(.int pa), (.int 0), (.ref b14), (.ref b14)])) (fun t k => XS.dup X14.here hx rfl (hb hby at_91) rfl rfl (XS.iconst X14.here hx rfl (hb hby at_92) (XS.iloadN X14.here hx rfl (hb hby at_93) rfl  k))) ?_
        obtain ⟨cl15, Ar15, q15, S15, M15, Hs15, G15⟩ := id V14
        have hin15 : ¬ ((0 : Int32) < 0 ∨ cl15.slots.size ≤ ((0 : Int32)).toNatClampNeg) := inb_of S15 ⟨by decide, by decide⟩
        obtain ⟨T16, h16, X16, e16, W16, st16⟩ := stI X14 hx hZ e14 Ar15 (j := (0 : Int32)) hin15 (g := (mkF m 94 #[iv pk, iv pa, iv pb, iv pc', iv pq, iv 1, iv (((pk.toUInt32 >>> ((2 : Int32) &&& 31).toUInt32).toInt32) &&& (3 : Int32)), iv zu, iv ((pk.toUInt32 >>> ((5 : Int32) &&& 31).toUInt32).toInt32), iv zc, .unset, .unset, .unset] [(.int pa), (.int 0), (.ref b14), (.ref b14)])) rfl rfl (hb hby at_94)
        have V16 : Arv Z h16 b14 k14 .int (1 : Int32) [(.int pa)] (.int 0) := Arv.set Ar15 q15 S15 M15 Hs15 G15 rfl W16 0 rfl (Nat.le_of_ble_eq_true rfl)
        have K16 : Keep h0 h16 [] := K14.wr W16 (Or.inr sz_b14)
        have N16 := Fr.snoc X16 N0 g_b14
        refine GoW.pull (V := T16.setTop (mkF m 95 #[iv pk, iv pa, iv pb, iv pc', iv pq, iv 1, iv (((pk.toUInt32 >>> ((2 : Int32) &&& 31).toUInt32).toInt32) &&& (3 : Int32)), iv zu, iv ((pk.toUInt32 >>> ((5 : Int32) &&& 31).toUInt32).toInt32), iv zc, .unset, .unset, .unset] [(.ref b14)])) st16 ?_
        refine GoW.pull (V := T16.setTop (mkF m 139 #[iv pk, iv pa, iv pb, iv pc', iv pq, iv 1, iv (((pk.toUInt32 >>> ((2 : Int32) &&& 31).toUInt32).toInt32) &&& (3 : Int32)), iv zu, iv ((pk.toUInt32 >>> ((5 : Int32) &&& 31).toUInt32).toInt32), iv zc, rv b14, .unset, .unset] [])) (fun t k => XS.astore X16.here hx rfl (hb hby at_95) rfl rfl (l' := #[iv pk, iv pa, iv pb, iv pc', iv pq, iv 1, iv (((pk.toUInt32 >>> ((2 : Int32) &&& 31).toUInt32).toInt32) &&& (3 : Int32)), iv zu, iv ((pk.toUInt32 >>> ((5 : Int32) &&& 31).toUInt32).toInt32), iv zc, rv b14, .unset, .unset]) rfl (XS.goto X16.here hx rfl (pc0 := 97) (pc' := 139) rfl (hb hby at_97) (by decide) (by decide) k)) ?_
        obtain ⟨T17, h17, X17, e17, E17, A17, D17, -, st17⟩ := newO X16 hx hZ hown (hw _ (List.mem_of_getElem? (i := 1) rfl)) (hw _ (List.mem_of_getElem? (i := 2) rfl)) (hw _ (List.mem_of_getElem? (i := 3) rfl)) e16 (g := (mkF m 139 #[iv pk, iv pa, iv pb, iv pc', iv pq, iv 1, iv (((pk.toUInt32 >>> ((2 : Int32) &&& 31).toUInt32).toInt32) &&& (3 : Int32)), iv zu, iv ((pk.toUInt32 >>> ((5 : Int32) &&& 31).toUInt32).toInt32), iv zc, rv b14, .unset, .unset] [])) rfl (hb hby at_139) (by decide) (by decide)
        obtain ⟨b17, g17⟩ : ∃ z, z = h16.size := ⟨_, rfl⟩
        rw [← g17] at A17 D17 st17
        have ne_b14_b17 : b14 ≠ b17 := Nat.ne_of_lt (Nat.lt_of_lt_of_le V16.lt (Nat.le_of_eq g17.symm))
        have sz_b17 : h0.size ≤ b17 := Nat.le_trans (K16).1 (Nat.le_of_eq g17.symm)
        have g_b17 : n0 ≤ b17 := Nat.le_trans Z0 sz_b17
        have K17 : Keep h0 h17 [] := K16.ext E17
        have F18 : Fld Z h17 b17 "com/example/latch/latch/engine/Index" "m_references" "Lcom/example/latch/latch/engine/KeyMap;" .null := D17 (Or.inr (hw _ (List.mem_of_getElem? (i := 52) rfl))) (ty := (.object "com/example/latch/latch/engine/KeyMap")) (by decide)
        have F19 : Fld Z h17 b17 "com/example/latch/latch/engine/Index" "m_name" "Ljava/lang/String;" .null := D17 (Or.inr (hw _ (List.mem_of_getElem? (i := 54) rfl))) (ty := (.object "java/lang/String")) (by decide)
        have F20 : Fld Z h17 b17 "com/example/latch/latch/engine/Index" "m_position" "I" (.int 0) := D17 (Or.inr (hw _ (List.mem_of_getElem? (i := 56) rfl))) (ty := .int) (by decide)
        have F21 : Fld Z h17 b17 "com/example/latch/latch/engine/Index" "m_columns" "[I" .null := D17 (Or.inr (hw _ (List.mem_of_getElem? (i := 58) rfl))) (ty := (.array .int)) (by decide)
        have F22 : Fld Z h17 b17 "com/example/latch/latch/engine/Index" "m_unique" "Z" (.int 0) := D17 (Or.inr (hw _ (List.mem_of_getElem? (i := 60) rfl))) (ty := .boolean) (by decide)
        refine GoW.pull (V := T17.setTop (mkF m 142 #[iv pk, iv pa, iv pb, iv pc', iv pq, iv 1, iv (((pk.toUInt32 >>> ((2 : Int32) &&& 31).toUInt32).toInt32) &&& (3 : Int32)), iv zu, iv ((pk.toUInt32 >>> ((5 : Int32) &&& 31).toUInt32).toInt32), iv zc, rv b14, .unset, .unset] [(.ref b17)])) st17 ?_
        refine GoW.pull (V := T17.setTop (mkF m 143 #[iv pk, iv pa, iv pb, iv pc', iv pq, iv 1, iv (((pk.toUInt32 >>> ((2 : Int32) &&& 31).toUInt32).toInt32) &&& (3 : Int32)), iv zu, iv ((pk.toUInt32 >>> ((5 : Int32) &&& 31).toUInt32).toInt32), iv zc, rv b14, .unset, .unset] [(.ref b17), (.ref b17)])) (fun t k => XS.dup X17.here hx rfl (hb hby at_142) rfl rfl k) ?_
        obtain ⟨str23, T23, h23, k23, X23, e23, E23, hS, hk23, hZ, hown, st23⟩ := ldcS (s := s) (vm0 := s.vm) X17 hx hZ hown (hw _ (List.mem_of_getElem? (i := 4) rfl)) (fun d hd => hw d (own_strW d hd)) e17 ((State.WarmedH.refl s).since 0) (Nat.zero_le _) (g := (mkF m 143 #[iv pk, iv pa, iv pb, iv pc', iv pq, iv 1, iv (((pk.toUInt32 >>> ((2 : Int32) &&& 31).toUInt32).toInt32) &&& (3 : Int32)), iv zu, iv ((pk.toUInt32 >>> ((5 : Int32) &&& 31).toUInt32).toInt32), iv zc, rv b14, .unset, .unset] [(.ref b17), (.ref b17)])) rfl (hb hby at_143) (n := 4) (by decide) (by decide) (by decide) (by decide)
        have K23 : Keep h0 h23 [] := K17.ext E23
        refine GoW.pull (V := T23.setTop (mkF m 145 #[iv pk, iv pa, iv pb, iv pc', iv pq, iv 1, iv (((pk.toUInt32 >>> ((2 : Int32) &&& 31).toUInt32).toInt32) &&& (3 : Int32)), iv zu, iv ((pk.toUInt32 >>> ((5 : Int32) &&& 31).toUInt32).toInt32), iv zc, rv b14, .unset, .unset] [(.ref str23), (.ref b17), (.ref b17)])) st23 ?_
        refine Go.wide hS ?_
        refine Go.pull (V := T23.setTop (mkF m 151 #[iv pk, iv pa, iv pb, iv pc', iv pq, iv 1, iv (((pk.toUInt32 >>> ((2 : Int32) &&& 31).toUInt32).toInt32) &&& (3 : Int32)), iv zu, iv ((pk.toUInt32 >>> ((5 : Int32) &&& 31).toUInt32).toInt32), iv zc, rv b14, .unset, .unset] [(.int zu), (.ref b14), (.int ((pk.toUInt32 >>> ((5 : Int32) &&& 31).toUInt32).toInt32)), (.ref str23), (.ref b17), (.ref b17)])) (fun t k => XS.iload X23.here hx rfl (hb hby at_145) rfl  (XS.aload X23.here hx rfl (hb hby at_147) rfl rfl (XS.iload X23.here hx rfl (hb hby at_149) rfl  k))) ?_
        obtain ⟨_, _, ⟨T24, L24, k24, n24⟩, -, X24, ⟨Lc24, hQ24, l24, y24, z24⟩, st24⟩ := X23.specialBack hx (y := (⟨"com/example/latch/latch/engine/Index", "<init>", "(Ljava/lang/String;I[IZ)V"⟩ : MethodName)) rfl hown (mvT hZ (hw _ (List.mem_of_getElem? (i := 12) rfl))) (mvT hZ (hw _ (List.mem_of_getElem? (i := 13) rfl))) (mvT hZ (hw _ (List.mem_of_getElem? (i := 14) rfl))) (by decide) (backOf (W := 1) (rmI l Z a0 hw [] b17 str23 ((pk.toUInt32 >>> ((5 : Int32) &&& 31).toUInt32).toInt32) b14 zu .null .null (.int 0) .null (.int 0) h23 n0 (Nat.le_trans Z0 (K23).1) (g_b17) (A17.ext E23) (F18.ext E23) (F19.ext E23) (F20.ext E23) (F21.ext E23) (F22.ext E23) hzu) hZ (hw _ (List.mem_of_getElem? (i := 14) rfl)) (hw _ (List.mem_of_getElem? (i := 3) rfl)) (by decide) (by decide)) (g := (mkF m 151 #[iv pk, iv pa, iv pb, iv pc', iv pq, iv 1, iv (((pk.toUInt32 >>> ((2 : Int32) &&& 31).toUInt32).toInt32) &&& (3 : Int32)), iv zu, iv ((pk.toUInt32 >>> ((5 : Int32) &&& 31).toUInt32).toInt32), iv zc, rv b14, .unset, .unset] [(.int zu), (.ref b14), (.int ((pk.toUInt32 >>> ((5 : Int32) &&& 31).toUInt32).toInt32)), (.ref str23), (.ref b17), (.ref b17)])) rfl (by rw [hml]; rfl) (Steps.refl _) (a := b17) (argsL := [(.ref str23), (.int ((pk.toUInt32 >>> ((5 : Int32) &&& 31).toUInt32).toInt32)), (.ref b14), (.int zu)]) (rest := [(.ref b17)]) (lenOf pd_1 rfl) rfl (by show 2 * 0 + _ ≤ _; exact Nat.le_of_eq rfl) (hb hby at_151) (fun _ _ => ⟨rfl, e23, (by decide : 4 + 4 ≤ _), (by decide : 14 + 139 ≤ _)⟩)
        dsimp only [Pt.U, Pt.locs, Pt.cells, Pt.slots] at X24 l24 y24 z24 st24 hQ24
        subst l24 y24 z24
        obtain ⟨rfl, N24q, Kc24, Fc24_0⟩ := hQ24
        have K24 : Keep h0 T24.heap [] := K23.trans Kc24 ((allS (Or.inr sz_b17) all0))
        have N24 := Fr.app N16 N24q
        refine Go.pull (V := T24.setTop (mkF m 154 #[iv pk, iv pa, iv pb, iv pc', iv pq, iv 1, iv (((pk.toUInt32 >>> ((2 : Int32) &&& 31).toUInt32).toInt32) &&& (3 : Int32)), iv zu, iv ((pk.toUInt32 >>> ((5 : Int32) &&& 31).toUInt32).toInt32), iv zc, rv b14, .unset, .unset] [(.ref b17)])) (fun _ k => st24.trans k) ?_
        refine Go.pull (V := T24.setTop (mkF m 162 #[iv pk, iv pa, iv pb, iv pc', iv pq, iv 1, iv (((pk.toUInt32 >>> ((2 : Int32) &&& 31).toUInt32).toInt32) &&& (3 : Int32)), iv zu, iv ((pk.toUInt32 >>> ((5 : Int32) &&& 31).toUInt32).toInt32), iv zc, rv b14, rv b17, .unset] [(.int pa)])) (fun t k => XS.astore X24.here hx rfl (hb hby at_154) rfl rfl (l' := #[iv pk, iv pa, iv pb, iv pc', iv pq, iv 1, iv (((pk.toUInt32 >>> ((2 : Int32) &&& 31).toUInt32).toInt32) &&& (3 : Int32)), iv zu, iv ((pk.toUInt32 >>> ((5 : Int32) &&& 31).toUInt32).toInt32), iv zc, rv b14, rv b17, .unset]) rfl (XS.iload X24.here hx rfl (hb hby at_156) rfl  (XS.ifNo X24.here hx rfl (hb hby at_158) rfl (XT.i0_le_f (by decide)) (XS.iloadN X24.here hx rfl (hb hby at_161) rfl  k)))) ?_
        refine Go.pull (V := T24.setTop (mkF m 164 #[iv pk, iv pa, iv pb, iv pc', iv pq, iv 1, iv (((pk.toUInt32 >>> ((2 : Int32) &&& 31).toUInt32).toInt32) &&& (3 : Int32)), iv zu, iv ((pk.toUInt32 >>> ((5 : Int32) &&& 31).toUInt32).toInt32), iv zc, rv b14, rv b17, .unset] [(.int zc), (.int pa)])) (fun t k => XS.iload X24.here hx rfl (hb hby at_162) rfl  k) ?_
        by_cases hc164_25 : pa = zc
        · skip
          refine Go.pull (V := T24.setTop (mkF m 198 #[iv pk, iv pa, iv pb, iv pc', iv pq, iv 1, iv (((pk.toUInt32 >>> ((2 : Int32) &&& 31).toUInt32).toInt32) &&& (3 : Int32)), iv zu, iv ((pk.toUInt32 >>> ((5 : Int32) &&& 31).toUInt32).toInt32), iv zc, rv b14, rv b17, iv 1] [])) (fun t k => XS.icmpYes X24.here hx rfl (pc0 := 164) (pc' := 191) rfl (hb hby at_164) rfl (XT.ii_eq_t hc164_25) (by decide) (by decide) (XS.iconst X24.here hx rfl (hb hby at_191) (XS.goto X24.here hx rfl (pc0 := 192) (pc' := 196) rfl (hb hby at_192) (by decide) (by decide) (XS.istore X24.here hx rfl (hb hby at_196) rfl (l' := #[iv pk, iv pa, iv pb, iv pc', iv pq, iv 1, iv (((pk.toUInt32 >>> ((2 : Int32) &&& 31).toUInt32).toInt32) &&& (3 : Int32)), iv zu, iv ((pk.toUInt32 >>> ((5 : Int32) &&& 31).toUInt32).toInt32), iv zc, rv b14, rv b17, iv 1]) rfl k)))) ?_
          refine Go.pull (V := T24.setTop (mkF m 202 #[iv pk, iv pa, iv pb, iv pc', iv pq, iv 1, iv (((pk.toUInt32 >>> ((2 : Int32) &&& 31).toUInt32).toInt32) &&& (3 : Int32)), iv zu, iv ((pk.toUInt32 >>> ((5 : Int32) &&& 31).toUInt32).toInt32), iv zc, rv b14, rv b17, iv 1] [(.int zc), (.ref b17)])) (fun t k => XS.aload X24.here hx rfl (hb hby at_198) rfl rfl (XS.iload X24.here hx rfl (hb hby at_200) rfl  k)) ?_
          obtain ⟨cq26, kq26, q26a, q26b, q26c⟩ := isOf hZ rfl ((A17.ext E23).keep Kc24)
          obtain ⟨_, _, ⟨T26, L26, k26, n26⟩, -, X26, ⟨Lc26, hQ26, l26, y26, z26⟩, st26⟩ := X24.virtualBack hx (y := (⟨"com/example/latch/latch/engine/Index", "hasColumn", "(I)Z"⟩ : MethodName)) (z := (⟨"com/example/latch/latch/engine/Index", "hasColumn", "(I)Z"⟩ : MethodName)) hown (mvT hZ (hw _ (List.mem_of_getElem? (i := 61) rfl))) (mvT hZ (hw _ (List.mem_of_getElem? (i := 62) rfl))) (notFace_of_selects (args := #[]) (mvT hZ (hw _ (List.mem_of_getElem? (i := 64) rfl)))) (mvT hZ (hw _ (List.mem_of_getElem? (i := 64) rfl))) (mvT hZ (hw _ (List.mem_of_getElem? (i := 63) rfl))) (by decide) (backOf (W := 0) (rmH1 l Z a0 hw [] b17 zc b14 k14 pa T24.heap n0 Fc24_0 (((V16.ext E17).ext E23).keep Kc24 (ninS (ne_b14_b17) nin0))) hZ (hw _ (List.mem_of_getElem? (i := 65) rfl)) (hw _ (List.mem_of_getElem? (i := 3) rfl)) (by decide) (by decide)) q26a q26c (g := (mkF m 202 #[iv pk, iv pa, iv pb, iv pc', iv pq, iv 1, iv (((pk.toUInt32 >>> ((2 : Int32) &&& 31).toUInt32).toInt32) &&& (3 : Int32)), iv zu, iv ((pk.toUInt32 >>> ((5 : Int32) &&& 31).toUInt32).toInt32), iv zc, rv b14, rv b17, iv 1] [(.int zc), (.ref b17)])) rfl (by rw [hml]; rfl) (Steps.refl _) (argsL := [(.int zc)]) (rest := []) (lenOf pd_2 rfl) rfl (by show 2 * 0 + _ ≤ _; exact Nat.le_of_eq rfl) (hb hby at_202) (fun _ _ => ⟨rfl, rfl, (by decide : 8 + 0 ≤ _), (by decide : 153 + 0 ≤ _)⟩)
          dsimp only [Pt.U, Pt.locs, Pt.cells, Pt.slots] at X26 l26 y26 z26 st26 hQ26
          subst l26 y26 z26
          obtain ⟨hv26, N26q, e26⟩ := hQ26
          rw [(show (own_has1 pa zc) = (1 : Int32) from by rw [own_has1, if_pos hc164_25])] at hv26; subst hv26
          have N26 := Fr.app N24 N26q
          refine Go.pull (V := T26.setTop (mkF m 205 #[iv pk, iv pa, iv pb, iv pc', iv pq, iv 1, iv (((pk.toUInt32 >>> ((2 : Int32) &&& 31).toUInt32).toInt32) &&& (3 : Int32)), iv zu, iv ((pk.toUInt32 >>> ((5 : Int32) &&& 31).toUInt32).toInt32), iv zc, rv b14, rv b17, iv 1] [(.int 1)])) (fun _ k => st26.trans k) ?_
          refine Go.pull (V := T26.setTop (mkF m 215 #[iv pk, iv pa, iv pb, iv pc', iv pq, iv 1, iv (((pk.toUInt32 >>> ((2 : Int32) &&& 31).toUInt32).toInt32) &&& (3 : Int32)), iv zu, iv ((pk.toUInt32 >>> ((5 : Int32) &&& 31).toUInt32).toInt32), iv zc, rv b14, rv b17, iv 1] [(.int 1)])) (fun t k => XS.iload X26.here hx rfl (hb hby at_205) rfl  (XS.icmpNo X26.here hx rfl (hb hby at_207) rfl (XT.ii_ne_f (by decide)) (XS.iconst X26.here hx rfl (hb hby at_210) (XS.goto X26.here hx rfl (pc0 := 211) (pc' := 215) rfl (hb hby at_211) (by decide) (by decide) k)))) ?_
          exact Go.retN X26 hx Bd.notSynchronized (t := .boolean) Bd.returns (by simp) (hb hby at_215) ⟨⟨rfl, N26⟩, by rw [e26]; exact (Nat.le_trans hk23 Kc24.1)⟩ (by decide) (by decide)
        · skip
          refine Go.pull (V := T24.setTop (mkF m 179 #[iv pk, iv pa, iv pb, iv pc', iv pq, iv 1, iv (((pk.toUInt32 >>> ((2 : Int32) &&& 31).toUInt32).toInt32) &&& (3 : Int32)), iv zu, iv ((pk.toUInt32 >>> ((5 : Int32) &&& 31).toUInt32).toInt32), iv zc, rv b14, rv b17, .unset] [])) (fun t k => XS.icmpNo X24.here hx rfl (hb hby at_164) rfl (XT.ii_eq_f hc164_25) (XS.iload X24.here hx rfl (hb hby at_167) rfl  (XS.iconst X24.here hx rfl (hb hby at_169) (XS.icmpYes X24.here hx rfl (pc0 := 170) (pc' := 179) rfl (hb hby at_170) rfl (XT.ii_le_t (by decide)) (by decide) (by decide) k)))) ?_
          refine Go.pull (V := T24.setTop (mkF m 196 #[iv pk, iv pa, iv pb, iv pc', iv pq, iv 1, iv (((pk.toUInt32 >>> ((2 : Int32) &&& 31).toUInt32).toInt32) &&& (3 : Int32)), iv zu, iv ((pk.toUInt32 >>> ((5 : Int32) &&& 31).toUInt32).toInt32), iv zc, rv b14, rv b17, .unset] [(.int 0)])) (fun t k => XS.iload X24.here hx rfl (hb hby at_179) rfl  (XS.iconst X24.here hx rfl (hb hby at_181) (XS.icmpYes X24.here hx rfl (pc0 := 182) (pc' := 195) rfl (hb hby at_182) rfl (XT.ii_le_t (by decide)) (by decide) (by decide) (XS.iconst X24.here hx rfl (hb hby at_195) k)))) ?_
          refine Go.pull (V := T24.setTop (mkF m 202 #[iv pk, iv pa, iv pb, iv pc', iv pq, iv 1, iv (((pk.toUInt32 >>> ((2 : Int32) &&& 31).toUInt32).toInt32) &&& (3 : Int32)), iv zu, iv ((pk.toUInt32 >>> ((5 : Int32) &&& 31).toUInt32).toInt32), iv zc, rv b14, rv b17, iv 0] [(.int zc), (.ref b17)])) (fun t k => XS.istore X24.here hx rfl (hb hby at_196) rfl (l' := #[iv pk, iv pa, iv pb, iv pc', iv pq, iv 1, iv (((pk.toUInt32 >>> ((2 : Int32) &&& 31).toUInt32).toInt32) &&& (3 : Int32)), iv zu, iv ((pk.toUInt32 >>> ((5 : Int32) &&& 31).toUInt32).toInt32), iv zc, rv b14, rv b17, iv 0]) rfl (XS.aload X24.here hx rfl (hb hby at_198) rfl rfl (XS.iload X24.here hx rfl (hb hby at_200) rfl  k))) ?_
          obtain ⟨cq27, kq27, q27a, q27b, q27c⟩ := isOf hZ rfl ((A17.ext E23).keep Kc24)
          obtain ⟨_, _, ⟨T27, L27, k27, n27⟩, -, X27, ⟨Lc27, hQ27, l27, y27, z27⟩, st27⟩ := X24.virtualBack hx (y := (⟨"com/example/latch/latch/engine/Index", "hasColumn", "(I)Z"⟩ : MethodName)) (z := (⟨"com/example/latch/latch/engine/Index", "hasColumn", "(I)Z"⟩ : MethodName)) hown (mvT hZ (hw _ (List.mem_of_getElem? (i := 61) rfl))) (mvT hZ (hw _ (List.mem_of_getElem? (i := 62) rfl))) (notFace_of_selects (args := #[]) (mvT hZ (hw _ (List.mem_of_getElem? (i := 64) rfl)))) (mvT hZ (hw _ (List.mem_of_getElem? (i := 64) rfl))) (mvT hZ (hw _ (List.mem_of_getElem? (i := 63) rfl))) (by decide) (backOf (W := 0) (rmH1 l Z a0 hw [] b17 zc b14 k14 pa T24.heap n0 Fc24_0 (((V16.ext E17).ext E23).keep Kc24 (ninS (ne_b14_b17) nin0))) hZ (hw _ (List.mem_of_getElem? (i := 65) rfl)) (hw _ (List.mem_of_getElem? (i := 3) rfl)) (by decide) (by decide)) q27a q27c (g := (mkF m 202 #[iv pk, iv pa, iv pb, iv pc', iv pq, iv 1, iv (((pk.toUInt32 >>> ((2 : Int32) &&& 31).toUInt32).toInt32) &&& (3 : Int32)), iv zu, iv ((pk.toUInt32 >>> ((5 : Int32) &&& 31).toUInt32).toInt32), iv zc, rv b14, rv b17, iv 0] [(.int zc), (.ref b17)])) rfl (by rw [hml]; rfl) (Steps.refl _) (argsL := [(.int zc)]) (rest := []) (lenOf pd_2 rfl) rfl (by show 2 * 0 + _ ≤ _; exact Nat.le_of_eq rfl) (hb hby at_202) (fun _ _ => ⟨rfl, rfl, (by decide : 8 + 0 ≤ _), (by decide : 153 + 0 ≤ _)⟩)
          dsimp only [Pt.U, Pt.locs, Pt.cells, Pt.slots] at X27 l27 y27 z27 st27 hQ27
          subst l27 y27 z27
          obtain ⟨hv27, N27q, e27⟩ := hQ27
          rw [(show (own_has1 pa zc) = (0 : Int32) from by rw [own_has1, if_neg hc164_25])] at hv27; subst hv27
          have N27 := Fr.app N24 N27q
          refine Go.pull (V := T27.setTop (mkF m 205 #[iv pk, iv pa, iv pb, iv pc', iv pq, iv 1, iv (((pk.toUInt32 >>> ((2 : Int32) &&& 31).toUInt32).toInt32) &&& (3 : Int32)), iv zu, iv ((pk.toUInt32 >>> ((5 : Int32) &&& 31).toUInt32).toInt32), iv zc, rv b14, rv b17, iv 0] [(.int 0)])) (fun _ k => st27.trans k) ?_
          refine Go.pull (V := T27.setTop (mkF m 215 #[iv pk, iv pa, iv pb, iv pc', iv pq, iv 1, iv (((pk.toUInt32 >>> ((2 : Int32) &&& 31).toUInt32).toInt32) &&& (3 : Int32)), iv zu, iv ((pk.toUInt32 >>> ((5 : Int32) &&& 31).toUInt32).toInt32), iv zc, rv b14, rv b17, iv 0] [(.int 1)])) (fun t k => XS.iload X27.here hx rfl (hb hby at_205) rfl  (XS.icmpNo X27.here hx rfl (hb hby at_207) rfl (XT.ii_ne_f (by decide)) (XS.iconst X27.here hx rfl (hb hby at_210) (XS.goto X27.here hx rfl (pc0 := 211) (pc' := 215) rfl (hb hby at_211) (by decide) (by decide) k)))) ?_
          exact Go.retN X27 hx Bd.notSynchronized (t := .boolean) Bd.returns (by simp) (hb hby at_215) ⟨⟨rfl, N27⟩, by rw [e27]; exact (Nat.le_trans hk23 Kc24.1)⟩ (by decide) (by decide)
      · subst hv3
        refine GoW.pull (V := s₁.setTop (mkF m 85 #[iv pk, iv pa, iv pb, iv pc', iv pq, iv 2, iv (((pk.toUInt32 >>> ((2 : Int32) &&& 31).toUInt32).toInt32) &&& (3 : Int32)), iv zu, iv ((pk.toUInt32 >>> ((5 : Int32) &&& 31).toUInt32).toInt32), iv zc, .unset, .unset, .unset] [(.int 1), (.int 2)])) (fun t k => XS.iload X0.here hx rfl (hb hby at_69) rfl  (XS.ifYes X0.here hx rfl (pc0 := 71) (pc' := 82) rfl (hb hby at_71) rfl (XT.i0_ne_t (by decide)) (by decide) (by decide) (XS.iload X0.here hx rfl (hb hby at_82) rfl  (XS.iconst X0.here hx rfl (hb hby at_84) k)))) ?_
        refine GoW.pull (V := s₁.setTop (mkF m 106 #[iv pk, iv pa, iv pb, iv pc', iv pq, iv 2, iv (((pk.toUInt32 >>> ((2 : Int32) &&& 31).toUInt32).toInt32) &&& (3 : Int32)), iv zu, iv ((pk.toUInt32 >>> ((5 : Int32) &&& 31).toUInt32).toInt32), iv zc, .unset, .unset, .unset] [])) (fun t k => XS.icmpYes X0.here hx rfl (pc0 := 85) (pc' := 100) rfl (hb hby at_85) rfl (XT.ii_ne_t (by decide)) (by decide) (by decide) (XS.iload X0.here hx rfl (hb hby at_100) rfl  (XS.iconst X0.here hx rfl (hb hby at_102) (XS.icmpNo X0.here hx rfl (hb hby at_103) rfl (XT.ii_ne_f (by decide)) k)))) ?_
        refine GoW.pull (V := s₁.setTop (mkF m 107 #[iv pk, iv pa, iv pb, iv pc', iv pq, iv 2, iv (((pk.toUInt32 >>> ((2 : Int32) &&& 31).toUInt32).toInt32) &&& (3 : Int32)), iv zu, iv ((pk.toUInt32 >>> ((5 : Int32) &&& 31).toUInt32).toInt32), iv zc, .unset, .unset, .unset] [(.int 2)])) (fun t k => XS.iconst X0.here hx rfl (hb hby at_106) k) ?_
        obtain ⟨T28, h28, k28, X28, e28, E28, A28, st28⟩ := newP X0 hx hZ (hw _ (List.mem_of_getElem? (i := 0) rfl)) e0 (g := (mkF m 107 #[iv pk, iv pa, iv pb, iv pc', iv pq, iv 2, iv (((pk.toUInt32 >>> ((2 : Int32) &&& 31).toUInt32).toInt32) &&& (3 : Int32)), iv zu, iv ((pk.toUInt32 >>> ((5 : Int32) &&& 31).toUInt32).toInt32), iv zc, .unset, .unset, .unset] [(.int 2)])) rfl (hb hby at_107) rfl (by decide) (cap := 2) (by decide) (by decide) (by decide) (by decide)
        obtain ⟨b28, g28⟩ : ∃ z, z = h0.size := ⟨_, rfl⟩
        rw [← g28] at A28 st28
        have sz_b28 : h0.size ≤ b28 := Nat.le_trans ((Keep.refl h0 [])).1 (Nat.le_of_eq g28.symm)
        have g_b28 : n0 ≤ b28 := Nat.le_trans Z0 sz_b28
        have K28 : Keep h0 h28 [] := (Keep.refl h0 []).ext E28
        have V28 : Arv Z h28 b28 k28 .int (2 : Int32) [(.int 0), (.int 0)] (.int 0) := (Arv.new A28 (by decide)).pad (pad_rep [] (.int 0) 2)
        refine GoW.pull (V := T28.setTop (mkF m 109 #[iv pk, iv pa, iv pb, iv pc', iv pq, iv 2, iv (((pk.toUInt32 >>> ((2 : Int32) &&& 31).toUInt32).toInt32) &&& (3 : Int32)), iv zu, iv ((pk.toUInt32 >>> ((5 : Int32) &&& 31).toUInt32).toInt32), iv zc, .unset, .unset, .unset] [(.ref b28)])) st28 ?_
        refine GoW.pull (V := T28.setTop (mkF m 112 #[iv pk, iv pa, iv pb, iv pc', iv pq, iv 2, iv (((pk.toUInt32 >>> ((2 : Int32) &&& 31).toUInt32).toInt32) &&& (3 : Int32)), iv zu, iv ((pk.toUInt32 >>> ((5 : Int32) &&& 31).toUInt32).toInt32), iv zc, .unset, .unset, .unset] [(.int pa), (.int 0), (.ref b28), (.ref b28)])) (fun t k => XS.dup X28.here hx rfl (hb hby at_109) rfl rfl (XS.iconst X28.here hx rfl (hb hby at_110) (XS.iloadN X28.here hx rfl (hb hby at_111) rfl  k))) ?_
        obtain ⟨cl29, Ar29, q29, S29, M29, Hs29, G29⟩ := id V28
        have hin29 : ¬ ((0 : Int32) < 0 ∨ cl29.slots.size ≤ ((0 : Int32)).toNatClampNeg) := inb_of S29 ⟨by decide, by decide⟩
        obtain ⟨T30, h30, X30, e30, W30, st30⟩ := stI X28 hx hZ e28 Ar29 (j := (0 : Int32)) hin29 (g := (mkF m 112 #[iv pk, iv pa, iv pb, iv pc', iv pq, iv 2, iv (((pk.toUInt32 >>> ((2 : Int32) &&& 31).toUInt32).toInt32) &&& (3 : Int32)), iv zu, iv ((pk.toUInt32 >>> ((5 : Int32) &&& 31).toUInt32).toInt32), iv zc, .unset, .unset, .unset] [(.int pa), (.int 0), (.ref b28), (.ref b28)])) rfl rfl (hb hby at_112)
        have V30 : Arv Z h30 b28 k28 .int (2 : Int32) [(.int pa), (.int 0)] (.int 0) := Arv.set Ar29 q29 S29 M29 Hs29 G29 rfl W30 0 rfl (Nat.le_of_ble_eq_true rfl)
        have K30 : Keep h0 h30 [] := K28.wr W30 (Or.inr sz_b28)
        have N30 := Fr.snoc X30 N0 g_b28
        refine GoW.pull (V := T30.setTop (mkF m 113 #[iv pk, iv pa, iv pb, iv pc', iv pq, iv 2, iv (((pk.toUInt32 >>> ((2 : Int32) &&& 31).toUInt32).toInt32) &&& (3 : Int32)), iv zu, iv ((pk.toUInt32 >>> ((5 : Int32) &&& 31).toUInt32).toInt32), iv zc, .unset, .unset, .unset] [(.ref b28)])) st30 ?_
        refine GoW.pull (V := T30.setTop (mkF m 116 #[iv pk, iv pa, iv pb, iv pc', iv pq, iv 2, iv (((pk.toUInt32 >>> ((2 : Int32) &&& 31).toUInt32).toInt32) &&& (3 : Int32)), iv zu, iv ((pk.toUInt32 >>> ((5 : Int32) &&& 31).toUInt32).toInt32), iv zc, .unset, .unset, .unset] [(.int pb), (.int 1), (.ref b28), (.ref b28)])) (fun t k => XS.dup X30.here hx rfl (hb hby at_113) rfl rfl (XS.iconst X30.here hx rfl (hb hby at_114) (XS.iloadN X30.here hx rfl (hb hby at_115) rfl  k))) ?_
        obtain ⟨cl31, Ar31, q31, S31, M31, Hs31, G31⟩ := id V30
        have hin31 : ¬ ((1 : Int32) < 0 ∨ cl31.slots.size ≤ ((1 : Int32)).toNatClampNeg) := inb_of S31 ⟨by decide, by decide⟩
        obtain ⟨T32, h32, X32, e32, W32, st32⟩ := stI X30 hx hZ e30 Ar31 (j := (1 : Int32)) hin31 (g := (mkF m 116 #[iv pk, iv pa, iv pb, iv pc', iv pq, iv 2, iv (((pk.toUInt32 >>> ((2 : Int32) &&& 31).toUInt32).toInt32) &&& (3 : Int32)), iv zu, iv ((pk.toUInt32 >>> ((5 : Int32) &&& 31).toUInt32).toInt32), iv zc, .unset, .unset, .unset] [(.int pb), (.int 1), (.ref b28), (.ref b28)])) rfl rfl (hb hby at_116)
        have V32 : Arv Z h32 b28 k28 .int (2 : Int32) [(.int pa), (.int pb)] (.int 0) := Arv.set Ar31 q31 S31 M31 Hs31 G31 rfl W32 1 rfl (Nat.le_of_ble_eq_true rfl)
        have K32 : Keep h0 h32 [] := K30.wr W32 (Or.inr sz_b28)
        have N32 := Fr.snoc X32 N30 g_b28
        refine GoW.pull (V := T32.setTop (mkF m 117 #[iv pk, iv pa, iv pb, iv pc', iv pq, iv 2, iv (((pk.toUInt32 >>> ((2 : Int32) &&& 31).toUInt32).toInt32) &&& (3 : Int32)), iv zu, iv ((pk.toUInt32 >>> ((5 : Int32) &&& 31).toUInt32).toInt32), iv zc, .unset, .unset, .unset] [(.ref b28)])) st32 ?_
        refine GoW.pull (V := T32.setTop (mkF m 139 #[iv pk, iv pa, iv pb, iv pc', iv pq, iv 2, iv (((pk.toUInt32 >>> ((2 : Int32) &&& 31).toUInt32).toInt32) &&& (3 : Int32)), iv zu, iv ((pk.toUInt32 >>> ((5 : Int32) &&& 31).toUInt32).toInt32), iv zc, rv b28, .unset, .unset] [])) (fun t k => XS.astore X32.here hx rfl (hb hby at_117) rfl rfl (l' := #[iv pk, iv pa, iv pb, iv pc', iv pq, iv 2, iv (((pk.toUInt32 >>> ((2 : Int32) &&& 31).toUInt32).toInt32) &&& (3 : Int32)), iv zu, iv ((pk.toUInt32 >>> ((5 : Int32) &&& 31).toUInt32).toInt32), iv zc, rv b28, .unset, .unset]) rfl (XS.goto X32.here hx rfl (pc0 := 119) (pc' := 139) rfl (hb hby at_119) (by decide) (by decide) k)) ?_
        obtain ⟨T33, h33, X33, e33, E33, A33, D33, -, st33⟩ := newO X32 hx hZ hown (hw _ (List.mem_of_getElem? (i := 1) rfl)) (hw _ (List.mem_of_getElem? (i := 2) rfl)) (hw _ (List.mem_of_getElem? (i := 3) rfl)) e32 (g := (mkF m 139 #[iv pk, iv pa, iv pb, iv pc', iv pq, iv 2, iv (((pk.toUInt32 >>> ((2 : Int32) &&& 31).toUInt32).toInt32) &&& (3 : Int32)), iv zu, iv ((pk.toUInt32 >>> ((5 : Int32) &&& 31).toUInt32).toInt32), iv zc, rv b28, .unset, .unset] [])) rfl (hb hby at_139) (by decide) (by decide)
        obtain ⟨b33, g33⟩ : ∃ z, z = h32.size := ⟨_, rfl⟩
        rw [← g33] at A33 D33 st33
        have ne_b28_b33 : b28 ≠ b33 := Nat.ne_of_lt (Nat.lt_of_lt_of_le V32.lt (Nat.le_of_eq g33.symm))
        have sz_b33 : h0.size ≤ b33 := Nat.le_trans (K32).1 (Nat.le_of_eq g33.symm)
        have g_b33 : n0 ≤ b33 := Nat.le_trans Z0 sz_b33
        have K33 : Keep h0 h33 [] := K32.ext E33
        have F34 : Fld Z h33 b33 "com/example/latch/latch/engine/Index" "m_references" "Lcom/example/latch/latch/engine/KeyMap;" .null := D33 (Or.inr (hw _ (List.mem_of_getElem? (i := 52) rfl))) (ty := (.object "com/example/latch/latch/engine/KeyMap")) (by decide)
        have F35 : Fld Z h33 b33 "com/example/latch/latch/engine/Index" "m_name" "Ljava/lang/String;" .null := D33 (Or.inr (hw _ (List.mem_of_getElem? (i := 54) rfl))) (ty := (.object "java/lang/String")) (by decide)
        have F36 : Fld Z h33 b33 "com/example/latch/latch/engine/Index" "m_position" "I" (.int 0) := D33 (Or.inr (hw _ (List.mem_of_getElem? (i := 56) rfl))) (ty := .int) (by decide)
        have F37 : Fld Z h33 b33 "com/example/latch/latch/engine/Index" "m_columns" "[I" .null := D33 (Or.inr (hw _ (List.mem_of_getElem? (i := 58) rfl))) (ty := (.array .int)) (by decide)
        have F38 : Fld Z h33 b33 "com/example/latch/latch/engine/Index" "m_unique" "Z" (.int 0) := D33 (Or.inr (hw _ (List.mem_of_getElem? (i := 60) rfl))) (ty := .boolean) (by decide)
        refine GoW.pull (V := T33.setTop (mkF m 142 #[iv pk, iv pa, iv pb, iv pc', iv pq, iv 2, iv (((pk.toUInt32 >>> ((2 : Int32) &&& 31).toUInt32).toInt32) &&& (3 : Int32)), iv zu, iv ((pk.toUInt32 >>> ((5 : Int32) &&& 31).toUInt32).toInt32), iv zc, rv b28, .unset, .unset] [(.ref b33)])) st33 ?_
        refine GoW.pull (V := T33.setTop (mkF m 143 #[iv pk, iv pa, iv pb, iv pc', iv pq, iv 2, iv (((pk.toUInt32 >>> ((2 : Int32) &&& 31).toUInt32).toInt32) &&& (3 : Int32)), iv zu, iv ((pk.toUInt32 >>> ((5 : Int32) &&& 31).toUInt32).toInt32), iv zc, rv b28, .unset, .unset] [(.ref b33), (.ref b33)])) (fun t k => XS.dup X33.here hx rfl (hb hby at_142) rfl rfl k) ?_
        obtain ⟨str39, T39, h39, k39, X39, e39, E39, hS, hk39, hZ, hown, st39⟩ := ldcS (s := s) (vm0 := s.vm) X33 hx hZ hown (hw _ (List.mem_of_getElem? (i := 4) rfl)) (fun d hd => hw d (own_strW d hd)) e33 ((State.WarmedH.refl s).since 0) (Nat.zero_le _) (g := (mkF m 143 #[iv pk, iv pa, iv pb, iv pc', iv pq, iv 2, iv (((pk.toUInt32 >>> ((2 : Int32) &&& 31).toUInt32).toInt32) &&& (3 : Int32)), iv zu, iv ((pk.toUInt32 >>> ((5 : Int32) &&& 31).toUInt32).toInt32), iv zc, rv b28, .unset, .unset] [(.ref b33), (.ref b33)])) rfl (hb hby at_143) (n := 4) (by decide) (by decide) (by decide) (by decide)
        have K39 : Keep h0 h39 [] := K33.ext E39
        refine GoW.pull (V := T39.setTop (mkF m 145 #[iv pk, iv pa, iv pb, iv pc', iv pq, iv 2, iv (((pk.toUInt32 >>> ((2 : Int32) &&& 31).toUInt32).toInt32) &&& (3 : Int32)), iv zu, iv ((pk.toUInt32 >>> ((5 : Int32) &&& 31).toUInt32).toInt32), iv zc, rv b28, .unset, .unset] [(.ref str39), (.ref b33), (.ref b33)])) st39 ?_
        refine Go.wide hS ?_
        refine Go.pull (V := T39.setTop (mkF m 151 #[iv pk, iv pa, iv pb, iv pc', iv pq, iv 2, iv (((pk.toUInt32 >>> ((2 : Int32) &&& 31).toUInt32).toInt32) &&& (3 : Int32)), iv zu, iv ((pk.toUInt32 >>> ((5 : Int32) &&& 31).toUInt32).toInt32), iv zc, rv b28, .unset, .unset] [(.int zu), (.ref b28), (.int ((pk.toUInt32 >>> ((5 : Int32) &&& 31).toUInt32).toInt32)), (.ref str39), (.ref b33), (.ref b33)])) (fun t k => XS.iload X39.here hx rfl (hb hby at_145) rfl  (XS.aload X39.here hx rfl (hb hby at_147) rfl rfl (XS.iload X39.here hx rfl (hb hby at_149) rfl  k))) ?_
        obtain ⟨_, _, ⟨T40, L40, k40, n40⟩, -, X40, ⟨Lc40, hQ40, l40, y40, z40⟩, st40⟩ := X39.specialBack hx (y := (⟨"com/example/latch/latch/engine/Index", "<init>", "(Ljava/lang/String;I[IZ)V"⟩ : MethodName)) rfl hown (mvT hZ (hw _ (List.mem_of_getElem? (i := 12) rfl))) (mvT hZ (hw _ (List.mem_of_getElem? (i := 13) rfl))) (mvT hZ (hw _ (List.mem_of_getElem? (i := 14) rfl))) (by decide) (backOf (W := 1) (rmI l Z a0 hw [] b33 str39 ((pk.toUInt32 >>> ((5 : Int32) &&& 31).toUInt32).toInt32) b28 zu .null .null (.int 0) .null (.int 0) h39 n0 (Nat.le_trans Z0 (K39).1) (g_b33) (A33.ext E39) (F34.ext E39) (F35.ext E39) (F36.ext E39) (F37.ext E39) (F38.ext E39) hzu) hZ (hw _ (List.mem_of_getElem? (i := 14) rfl)) (hw _ (List.mem_of_getElem? (i := 3) rfl)) (by decide) (by decide)) (g := (mkF m 151 #[iv pk, iv pa, iv pb, iv pc', iv pq, iv 2, iv (((pk.toUInt32 >>> ((2 : Int32) &&& 31).toUInt32).toInt32) &&& (3 : Int32)), iv zu, iv ((pk.toUInt32 >>> ((5 : Int32) &&& 31).toUInt32).toInt32), iv zc, rv b28, .unset, .unset] [(.int zu), (.ref b28), (.int ((pk.toUInt32 >>> ((5 : Int32) &&& 31).toUInt32).toInt32)), (.ref str39), (.ref b33), (.ref b33)])) rfl (by rw [hml]; rfl) (Steps.refl _) (a := b33) (argsL := [(.ref str39), (.int ((pk.toUInt32 >>> ((5 : Int32) &&& 31).toUInt32).toInt32)), (.ref b28), (.int zu)]) (rest := [(.ref b33)]) (lenOf pd_1 rfl) rfl (by show 2 * 0 + _ ≤ _; exact Nat.le_of_eq rfl) (hb hby at_151) (fun _ _ => ⟨rfl, e39, (by decide : 4 + 4 ≤ _), (by decide : 15 + 139 ≤ _)⟩)
        dsimp only [Pt.U, Pt.locs, Pt.cells, Pt.slots] at X40 l40 y40 z40 st40 hQ40
        subst l40 y40 z40
        obtain ⟨rfl, N40q, Kc40, Fc40_0⟩ := hQ40
        have K40 : Keep h0 T40.heap [] := K39.trans Kc40 ((allS (Or.inr sz_b33) all0))
        have N40 := Fr.app N32 N40q
        refine Go.pull (V := T40.setTop (mkF m 154 #[iv pk, iv pa, iv pb, iv pc', iv pq, iv 2, iv (((pk.toUInt32 >>> ((2 : Int32) &&& 31).toUInt32).toInt32) &&& (3 : Int32)), iv zu, iv ((pk.toUInt32 >>> ((5 : Int32) &&& 31).toUInt32).toInt32), iv zc, rv b28, .unset, .unset] [(.ref b33)])) (fun _ k => st40.trans k) ?_
        refine Go.pull (V := T40.setTop (mkF m 162 #[iv pk, iv pa, iv pb, iv pc', iv pq, iv 2, iv (((pk.toUInt32 >>> ((2 : Int32) &&& 31).toUInt32).toInt32) &&& (3 : Int32)), iv zu, iv ((pk.toUInt32 >>> ((5 : Int32) &&& 31).toUInt32).toInt32), iv zc, rv b28, rv b33, .unset] [(.int pa)])) (fun t k => XS.astore X40.here hx rfl (hb hby at_154) rfl rfl (l' := #[iv pk, iv pa, iv pb, iv pc', iv pq, iv 2, iv (((pk.toUInt32 >>> ((2 : Int32) &&& 31).toUInt32).toInt32) &&& (3 : Int32)), iv zu, iv ((pk.toUInt32 >>> ((5 : Int32) &&& 31).toUInt32).toInt32), iv zc, rv b28, rv b33, .unset]) rfl (XS.iload X40.here hx rfl (hb hby at_156) rfl  (XS.ifNo X40.here hx rfl (hb hby at_158) rfl (XT.i0_le_f (by decide)) (XS.iloadN X40.here hx rfl (hb hby at_161) rfl  k)))) ?_
        refine Go.pull (V := T40.setTop (mkF m 164 #[iv pk, iv pa, iv pb, iv pc', iv pq, iv 2, iv (((pk.toUInt32 >>> ((2 : Int32) &&& 31).toUInt32).toInt32) &&& (3 : Int32)), iv zu, iv ((pk.toUInt32 >>> ((5 : Int32) &&& 31).toUInt32).toInt32), iv zc, rv b28, rv b33, .unset] [(.int zc), (.int pa)])) (fun t k => XS.iload X40.here hx rfl (hb hby at_162) rfl  k) ?_
        by_cases hc164_41 : pa = zc
        · skip
          refine Go.pull (V := T40.setTop (mkF m 198 #[iv pk, iv pa, iv pb, iv pc', iv pq, iv 2, iv (((pk.toUInt32 >>> ((2 : Int32) &&& 31).toUInt32).toInt32) &&& (3 : Int32)), iv zu, iv ((pk.toUInt32 >>> ((5 : Int32) &&& 31).toUInt32).toInt32), iv zc, rv b28, rv b33, iv 1] [])) (fun t k => XS.icmpYes X40.here hx rfl (pc0 := 164) (pc' := 191) rfl (hb hby at_164) rfl (XT.ii_eq_t hc164_41) (by decide) (by decide) (XS.iconst X40.here hx rfl (hb hby at_191) (XS.goto X40.here hx rfl (pc0 := 192) (pc' := 196) rfl (hb hby at_192) (by decide) (by decide) (XS.istore X40.here hx rfl (hb hby at_196) rfl (l' := #[iv pk, iv pa, iv pb, iv pc', iv pq, iv 2, iv (((pk.toUInt32 >>> ((2 : Int32) &&& 31).toUInt32).toInt32) &&& (3 : Int32)), iv zu, iv ((pk.toUInt32 >>> ((5 : Int32) &&& 31).toUInt32).toInt32), iv zc, rv b28, rv b33, iv 1]) rfl k)))) ?_
          refine Go.pull (V := T40.setTop (mkF m 202 #[iv pk, iv pa, iv pb, iv pc', iv pq, iv 2, iv (((pk.toUInt32 >>> ((2 : Int32) &&& 31).toUInt32).toInt32) &&& (3 : Int32)), iv zu, iv ((pk.toUInt32 >>> ((5 : Int32) &&& 31).toUInt32).toInt32), iv zc, rv b28, rv b33, iv 1] [(.int zc), (.ref b33)])) (fun t k => XS.aload X40.here hx rfl (hb hby at_198) rfl rfl (XS.iload X40.here hx rfl (hb hby at_200) rfl  k)) ?_
          obtain ⟨cq42, kq42, q42a, q42b, q42c⟩ := isOf hZ rfl ((A33.ext E39).keep Kc40)
          obtain ⟨_, _, ⟨T42, L42, k42, n42⟩, -, X42, ⟨Lc42, hQ42, l42, y42, z42⟩, st42⟩ := X40.virtualBack hx (y := (⟨"com/example/latch/latch/engine/Index", "hasColumn", "(I)Z"⟩ : MethodName)) (z := (⟨"com/example/latch/latch/engine/Index", "hasColumn", "(I)Z"⟩ : MethodName)) hown (mvT hZ (hw _ (List.mem_of_getElem? (i := 61) rfl))) (mvT hZ (hw _ (List.mem_of_getElem? (i := 62) rfl))) (notFace_of_selects (args := #[]) (mvT hZ (hw _ (List.mem_of_getElem? (i := 64) rfl)))) (mvT hZ (hw _ (List.mem_of_getElem? (i := 64) rfl))) (mvT hZ (hw _ (List.mem_of_getElem? (i := 63) rfl))) (by decide) (backOf (W := 0) (rmH2 l Z a0 hw [] b33 zc b28 k28 pa pb T40.heap n0 Fc40_0 (((V32.ext E33).ext E39).keep Kc40 (ninS (ne_b28_b33) nin0))) hZ (hw _ (List.mem_of_getElem? (i := 65) rfl)) (hw _ (List.mem_of_getElem? (i := 3) rfl)) (by decide) (by decide)) q42a q42c (g := (mkF m 202 #[iv pk, iv pa, iv pb, iv pc', iv pq, iv 2, iv (((pk.toUInt32 >>> ((2 : Int32) &&& 31).toUInt32).toInt32) &&& (3 : Int32)), iv zu, iv ((pk.toUInt32 >>> ((5 : Int32) &&& 31).toUInt32).toInt32), iv zc, rv b28, rv b33, iv 1] [(.int zc), (.ref b33)])) rfl (by rw [hml]; rfl) (Steps.refl _) (argsL := [(.int zc)]) (rest := []) (lenOf pd_2 rfl) rfl (by show 2 * 0 + _ ≤ _; exact Nat.le_of_eq rfl) (hb hby at_202) (fun _ _ => ⟨rfl, rfl, (by decide : 8 + 0 ≤ _), (by decide : 154 + 0 ≤ _)⟩)
          dsimp only [Pt.U, Pt.locs, Pt.cells, Pt.slots] at X42 l42 y42 z42 st42 hQ42
          subst l42 y42 z42
          obtain ⟨hv42, N42q, e42⟩ := hQ42
          rw [(show (own_has2 pa pb zc) = (1 : Int32) from by rw [own_has2, if_pos hc164_41])] at hv42; subst hv42
          have N42 := Fr.app N40 N42q
          refine Go.pull (V := T42.setTop (mkF m 205 #[iv pk, iv pa, iv pb, iv pc', iv pq, iv 2, iv (((pk.toUInt32 >>> ((2 : Int32) &&& 31).toUInt32).toInt32) &&& (3 : Int32)), iv zu, iv ((pk.toUInt32 >>> ((5 : Int32) &&& 31).toUInt32).toInt32), iv zc, rv b28, rv b33, iv 1] [(.int 1)])) (fun _ k => st42.trans k) ?_
          refine Go.pull (V := T42.setTop (mkF m 215 #[iv pk, iv pa, iv pb, iv pc', iv pq, iv 2, iv (((pk.toUInt32 >>> ((2 : Int32) &&& 31).toUInt32).toInt32) &&& (3 : Int32)), iv zu, iv ((pk.toUInt32 >>> ((5 : Int32) &&& 31).toUInt32).toInt32), iv zc, rv b28, rv b33, iv 1] [(.int 1)])) (fun t k => XS.iload X42.here hx rfl (hb hby at_205) rfl  (XS.icmpNo X42.here hx rfl (hb hby at_207) rfl (XT.ii_ne_f (by decide)) (XS.iconst X42.here hx rfl (hb hby at_210) (XS.goto X42.here hx rfl (pc0 := 211) (pc' := 215) rfl (hb hby at_211) (by decide) (by decide) k)))) ?_
          exact Go.retN X42 hx Bd.notSynchronized (t := .boolean) Bd.returns (by simp) (hb hby at_215) ⟨⟨rfl, N42⟩, by rw [e42]; exact (Nat.le_trans hk39 Kc40.1)⟩ (by decide) (by decide)
        · skip
          refine Go.pull (V := T40.setTop (mkF m 173 #[iv pk, iv pa, iv pb, iv pc', iv pq, iv 2, iv (((pk.toUInt32 >>> ((2 : Int32) &&& 31).toUInt32).toInt32) &&& (3 : Int32)), iv zu, iv ((pk.toUInt32 >>> ((5 : Int32) &&& 31).toUInt32).toInt32), iv zc, rv b28, rv b33, .unset] [])) (fun t k => XS.icmpNo X40.here hx rfl (hb hby at_164) rfl (XT.ii_eq_f hc164_41) (XS.iload X40.here hx rfl (hb hby at_167) rfl  (XS.iconst X40.here hx rfl (hb hby at_169) (XS.icmpNo X40.here hx rfl (hb hby at_170) rfl (XT.ii_le_f (by decide)) k)))) ?_
          refine Go.pull (V := T40.setTop (mkF m 176 #[iv pk, iv pa, iv pb, iv pc', iv pq, iv 2, iv (((pk.toUInt32 >>> ((2 : Int32) &&& 31).toUInt32).toInt32) &&& (3 : Int32)), iv zu, iv ((pk.toUInt32 >>> ((5 : Int32) &&& 31).toUInt32).toInt32), iv zc, rv b28, rv b33, .unset] [(.int zc), (.int pb)])) (fun t k => XS.iloadN X40.here hx rfl (hb hby at_173) rfl  (XS.iload X40.here hx rfl (hb hby at_174) rfl  k)) ?_
          by_cases hc176_43 : pb = zc
          · skip
            refine Go.pull (V := T40.setTop (mkF m 198 #[iv pk, iv pa, iv pb, iv pc', iv pq, iv 2, iv (((pk.toUInt32 >>> ((2 : Int32) &&& 31).toUInt32).toInt32) &&& (3 : Int32)), iv zu, iv ((pk.toUInt32 >>> ((5 : Int32) &&& 31).toUInt32).toInt32), iv zc, rv b28, rv b33, iv 1] [])) (fun t k => XS.icmpYes X40.here hx rfl (pc0 := 176) (pc' := 191) rfl (hb hby at_176) rfl (XT.ii_eq_t hc176_43) (by decide) (by decide) (XS.iconst X40.here hx rfl (hb hby at_191) (XS.goto X40.here hx rfl (pc0 := 192) (pc' := 196) rfl (hb hby at_192) (by decide) (by decide) (XS.istore X40.here hx rfl (hb hby at_196) rfl (l' := #[iv pk, iv pa, iv pb, iv pc', iv pq, iv 2, iv (((pk.toUInt32 >>> ((2 : Int32) &&& 31).toUInt32).toInt32) &&& (3 : Int32)), iv zu, iv ((pk.toUInt32 >>> ((5 : Int32) &&& 31).toUInt32).toInt32), iv zc, rv b28, rv b33, iv 1]) rfl k)))) ?_
            refine Go.pull (V := T40.setTop (mkF m 202 #[iv pk, iv pa, iv pb, iv pc', iv pq, iv 2, iv (((pk.toUInt32 >>> ((2 : Int32) &&& 31).toUInt32).toInt32) &&& (3 : Int32)), iv zu, iv ((pk.toUInt32 >>> ((5 : Int32) &&& 31).toUInt32).toInt32), iv zc, rv b28, rv b33, iv 1] [(.int zc), (.ref b33)])) (fun t k => XS.aload X40.here hx rfl (hb hby at_198) rfl rfl (XS.iload X40.here hx rfl (hb hby at_200) rfl  k)) ?_
            obtain ⟨cq44, kq44, q44a, q44b, q44c⟩ := isOf hZ rfl ((A33.ext E39).keep Kc40)
            obtain ⟨_, _, ⟨T44, L44, k44, n44⟩, -, X44, ⟨Lc44, hQ44, l44, y44, z44⟩, st44⟩ := X40.virtualBack hx (y := (⟨"com/example/latch/latch/engine/Index", "hasColumn", "(I)Z"⟩ : MethodName)) (z := (⟨"com/example/latch/latch/engine/Index", "hasColumn", "(I)Z"⟩ : MethodName)) hown (mvT hZ (hw _ (List.mem_of_getElem? (i := 61) rfl))) (mvT hZ (hw _ (List.mem_of_getElem? (i := 62) rfl))) (notFace_of_selects (args := #[]) (mvT hZ (hw _ (List.mem_of_getElem? (i := 64) rfl)))) (mvT hZ (hw _ (List.mem_of_getElem? (i := 64) rfl))) (mvT hZ (hw _ (List.mem_of_getElem? (i := 63) rfl))) (by decide) (backOf (W := 0) (rmH2 l Z a0 hw [] b33 zc b28 k28 pa pb T40.heap n0 Fc40_0 (((V32.ext E33).ext E39).keep Kc40 (ninS (ne_b28_b33) nin0))) hZ (hw _ (List.mem_of_getElem? (i := 65) rfl)) (hw _ (List.mem_of_getElem? (i := 3) rfl)) (by decide) (by decide)) q44a q44c (g := (mkF m 202 #[iv pk, iv pa, iv pb, iv pc', iv pq, iv 2, iv (((pk.toUInt32 >>> ((2 : Int32) &&& 31).toUInt32).toInt32) &&& (3 : Int32)), iv zu, iv ((pk.toUInt32 >>> ((5 : Int32) &&& 31).toUInt32).toInt32), iv zc, rv b28, rv b33, iv 1] [(.int zc), (.ref b33)])) rfl (by rw [hml]; rfl) (Steps.refl _) (argsL := [(.int zc)]) (rest := []) (lenOf pd_2 rfl) rfl (by show 2 * 0 + _ ≤ _; exact Nat.le_of_eq rfl) (hb hby at_202) (fun _ _ => ⟨rfl, rfl, (by decide : 8 + 0 ≤ _), (by decide : 154 + 0 ≤ _)⟩)
            dsimp only [Pt.U, Pt.locs, Pt.cells, Pt.slots] at X44 l44 y44 z44 st44 hQ44
            subst l44 y44 z44
            obtain ⟨hv44, N44q, e44⟩ := hQ44
            rw [(show (own_has2 pa pb zc) = (1 : Int32) from by rw [own_has2, if_neg hc164_41, if_pos hc176_43])] at hv44; subst hv44
            have N44 := Fr.app N40 N44q
            refine Go.pull (V := T44.setTop (mkF m 205 #[iv pk, iv pa, iv pb, iv pc', iv pq, iv 2, iv (((pk.toUInt32 >>> ((2 : Int32) &&& 31).toUInt32).toInt32) &&& (3 : Int32)), iv zu, iv ((pk.toUInt32 >>> ((5 : Int32) &&& 31).toUInt32).toInt32), iv zc, rv b28, rv b33, iv 1] [(.int 1)])) (fun _ k => st44.trans k) ?_
            refine Go.pull (V := T44.setTop (mkF m 215 #[iv pk, iv pa, iv pb, iv pc', iv pq, iv 2, iv (((pk.toUInt32 >>> ((2 : Int32) &&& 31).toUInt32).toInt32) &&& (3 : Int32)), iv zu, iv ((pk.toUInt32 >>> ((5 : Int32) &&& 31).toUInt32).toInt32), iv zc, rv b28, rv b33, iv 1] [(.int 1)])) (fun t k => XS.iload X44.here hx rfl (hb hby at_205) rfl  (XS.icmpNo X44.here hx rfl (hb hby at_207) rfl (XT.ii_ne_f (by decide)) (XS.iconst X44.here hx rfl (hb hby at_210) (XS.goto X44.here hx rfl (pc0 := 211) (pc' := 215) rfl (hb hby at_211) (by decide) (by decide) k)))) ?_
            exact Go.retN X44 hx Bd.notSynchronized (t := .boolean) Bd.returns (by simp) (hb hby at_215) ⟨⟨rfl, N44⟩, by rw [e44]; exact (Nat.le_trans hk39 Kc40.1)⟩ (by decide) (by decide)
          · skip
            refine Go.pull (V := T40.setTop (mkF m 195 #[iv pk, iv pa, iv pb, iv pc', iv pq, iv 2, iv (((pk.toUInt32 >>> ((2 : Int32) &&& 31).toUInt32).toInt32) &&& (3 : Int32)), iv zu, iv ((pk.toUInt32 >>> ((5 : Int32) &&& 31).toUInt32).toInt32), iv zc, rv b28, rv b33, .unset] [])) (fun t k => XS.icmpNo X40.here hx rfl (hb hby at_176) rfl (XT.ii_eq_f hc176_43) (XS.iload X40.here hx rfl (hb hby at_179) rfl  (XS.iconst X40.here hx rfl (hb hby at_181) (XS.icmpYes X40.here hx rfl (pc0 := 182) (pc' := 195) rfl (hb hby at_182) rfl (XT.ii_le_t (by decide)) (by decide) (by decide) k)))) ?_
            refine Go.pull (V := T40.setTop (mkF m 202 #[iv pk, iv pa, iv pb, iv pc', iv pq, iv 2, iv (((pk.toUInt32 >>> ((2 : Int32) &&& 31).toUInt32).toInt32) &&& (3 : Int32)), iv zu, iv ((pk.toUInt32 >>> ((5 : Int32) &&& 31).toUInt32).toInt32), iv zc, rv b28, rv b33, iv 0] [(.int zc), (.ref b33)])) (fun t k => XS.iconst X40.here hx rfl (hb hby at_195) (XS.istore X40.here hx rfl (hb hby at_196) rfl (l' := #[iv pk, iv pa, iv pb, iv pc', iv pq, iv 2, iv (((pk.toUInt32 >>> ((2 : Int32) &&& 31).toUInt32).toInt32) &&& (3 : Int32)), iv zu, iv ((pk.toUInt32 >>> ((5 : Int32) &&& 31).toUInt32).toInt32), iv zc, rv b28, rv b33, iv 0]) rfl (XS.aload X40.here hx rfl (hb hby at_198) rfl rfl (XS.iload X40.here hx rfl (hb hby at_200) rfl  k)))) ?_
            obtain ⟨cq45, kq45, q45a, q45b, q45c⟩ := isOf hZ rfl ((A33.ext E39).keep Kc40)
            obtain ⟨_, _, ⟨T45, L45, k45, n45⟩, -, X45, ⟨Lc45, hQ45, l45, y45, z45⟩, st45⟩ := X40.virtualBack hx (y := (⟨"com/example/latch/latch/engine/Index", "hasColumn", "(I)Z"⟩ : MethodName)) (z := (⟨"com/example/latch/latch/engine/Index", "hasColumn", "(I)Z"⟩ : MethodName)) hown (mvT hZ (hw _ (List.mem_of_getElem? (i := 61) rfl))) (mvT hZ (hw _ (List.mem_of_getElem? (i := 62) rfl))) (notFace_of_selects (args := #[]) (mvT hZ (hw _ (List.mem_of_getElem? (i := 64) rfl)))) (mvT hZ (hw _ (List.mem_of_getElem? (i := 64) rfl))) (mvT hZ (hw _ (List.mem_of_getElem? (i := 63) rfl))) (by decide) (backOf (W := 0) (rmH2 l Z a0 hw [] b33 zc b28 k28 pa pb T40.heap n0 Fc40_0 (((V32.ext E33).ext E39).keep Kc40 (ninS (ne_b28_b33) nin0))) hZ (hw _ (List.mem_of_getElem? (i := 65) rfl)) (hw _ (List.mem_of_getElem? (i := 3) rfl)) (by decide) (by decide)) q45a q45c (g := (mkF m 202 #[iv pk, iv pa, iv pb, iv pc', iv pq, iv 2, iv (((pk.toUInt32 >>> ((2 : Int32) &&& 31).toUInt32).toInt32) &&& (3 : Int32)), iv zu, iv ((pk.toUInt32 >>> ((5 : Int32) &&& 31).toUInt32).toInt32), iv zc, rv b28, rv b33, iv 0] [(.int zc), (.ref b33)])) rfl (by rw [hml]; rfl) (Steps.refl _) (argsL := [(.int zc)]) (rest := []) (lenOf pd_2 rfl) rfl (by show 2 * 0 + _ ≤ _; exact Nat.le_of_eq rfl) (hb hby at_202) (fun _ _ => ⟨rfl, rfl, (by decide : 8 + 0 ≤ _), (by decide : 154 + 0 ≤ _)⟩)
            dsimp only [Pt.U, Pt.locs, Pt.cells, Pt.slots] at X45 l45 y45 z45 st45 hQ45
            subst l45 y45 z45
            obtain ⟨hv45, N45q, e45⟩ := hQ45
            rw [(show (own_has2 pa pb zc) = (0 : Int32) from by rw [own_has2, if_neg hc164_41, if_neg hc176_43])] at hv45; subst hv45
            have N45 := Fr.app N40 N45q
            refine Go.pull (V := T45.setTop (mkF m 205 #[iv pk, iv pa, iv pb, iv pc', iv pq, iv 2, iv (((pk.toUInt32 >>> ((2 : Int32) &&& 31).toUInt32).toInt32) &&& (3 : Int32)), iv zu, iv ((pk.toUInt32 >>> ((5 : Int32) &&& 31).toUInt32).toInt32), iv zc, rv b28, rv b33, iv 0] [(.int 0)])) (fun _ k => st45.trans k) ?_
            refine Go.pull (V := T45.setTop (mkF m 215 #[iv pk, iv pa, iv pb, iv pc', iv pq, iv 2, iv (((pk.toUInt32 >>> ((2 : Int32) &&& 31).toUInt32).toInt32) &&& (3 : Int32)), iv zu, iv ((pk.toUInt32 >>> ((5 : Int32) &&& 31).toUInt32).toInt32), iv zc, rv b28, rv b33, iv 0] [(.int 1)])) (fun t k => XS.iload X45.here hx rfl (hb hby at_205) rfl  (XS.icmpNo X45.here hx rfl (hb hby at_207) rfl (XT.ii_ne_f (by decide)) (XS.iconst X45.here hx rfl (hb hby at_210) (XS.goto X45.here hx rfl (pc0 := 211) (pc' := 215) rfl (hb hby at_211) (by decide) (by decide) k)))) ?_
            exact Go.retN X45 hx Bd.notSynchronized (t := .boolean) Bd.returns (by simp) (hb hby at_215) ⟨⟨rfl, N45⟩, by rw [e45]; exact (Nat.le_trans hk39 Kc40.1)⟩ (by decide) (by decide)
      · subst hv3
        refine GoW.pull (V := s₁.setTop (mkF m 85 #[iv pk, iv pa, iv pb, iv pc', iv pq, iv 3, iv (((pk.toUInt32 >>> ((2 : Int32) &&& 31).toUInt32).toInt32) &&& (3 : Int32)), iv zu, iv ((pk.toUInt32 >>> ((5 : Int32) &&& 31).toUInt32).toInt32), iv zc, .unset, .unset, .unset] [(.int 1), (.int 3)])) (fun t k => XS.iload X0.here hx rfl (hb hby at_69) rfl  (XS.ifYes X0.here hx rfl (pc0 := 71) (pc' := 82) rfl (hb hby at_71) rfl (XT.i0_ne_t (by decide)) (by decide) (by decide) (XS.iload X0.here hx rfl (hb hby at_82) rfl  (XS.iconst X0.here hx rfl (hb hby at_84) k)))) ?_
        refine GoW.pull (V := s₁.setTop (mkF m 122 #[iv pk, iv pa, iv pb, iv pc', iv pq, iv 3, iv (((pk.toUInt32 >>> ((2 : Int32) &&& 31).toUInt32).toInt32) &&& (3 : Int32)), iv zu, iv ((pk.toUInt32 >>> ((5 : Int32) &&& 31).toUInt32).toInt32), iv zc, .unset, .unset, .unset] [])) (fun t k => XS.icmpYes X0.here hx rfl (pc0 := 85) (pc' := 100) rfl (hb hby at_85) rfl (XT.ii_ne_t (by decide)) (by decide) (by decide) (XS.iload X0.here hx rfl (hb hby at_100) rfl  (XS.iconst X0.here hx rfl (hb hby at_102) (XS.icmpYes X0.here hx rfl (pc0 := 103) (pc' := 122) rfl (hb hby at_103) rfl (XT.ii_ne_t (by decide)) (by decide) (by decide) k)))) ?_
        refine GoW.pull (V := s₁.setTop (mkF m 123 #[iv pk, iv pa, iv pb, iv pc', iv pq, iv 3, iv (((pk.toUInt32 >>> ((2 : Int32) &&& 31).toUInt32).toInt32) &&& (3 : Int32)), iv zu, iv ((pk.toUInt32 >>> ((5 : Int32) &&& 31).toUInt32).toInt32), iv zc, .unset, .unset, .unset] [(.int 3)])) (fun t k => XS.iconst X0.here hx rfl (hb hby at_122) k) ?_
        obtain ⟨T46, h46, k46, X46, e46, E46, A46, st46⟩ := newP X0 hx hZ (hw _ (List.mem_of_getElem? (i := 0) rfl)) e0 (g := (mkF m 123 #[iv pk, iv pa, iv pb, iv pc', iv pq, iv 3, iv (((pk.toUInt32 >>> ((2 : Int32) &&& 31).toUInt32).toInt32) &&& (3 : Int32)), iv zu, iv ((pk.toUInt32 >>> ((5 : Int32) &&& 31).toUInt32).toInt32), iv zc, .unset, .unset, .unset] [(.int 3)])) rfl (hb hby at_123) rfl (by decide) (cap := 3) (by decide) (by decide) (by decide) (by decide)
        obtain ⟨b46, g46⟩ : ∃ z, z = h0.size := ⟨_, rfl⟩
        rw [← g46] at A46 st46
        have sz_b46 : h0.size ≤ b46 := Nat.le_trans ((Keep.refl h0 [])).1 (Nat.le_of_eq g46.symm)
        have g_b46 : n0 ≤ b46 := Nat.le_trans Z0 sz_b46
        have K46 : Keep h0 h46 [] := (Keep.refl h0 []).ext E46
        have V46 : Arv Z h46 b46 k46 .int (3 : Int32) [(.int 0), (.int 0), (.int 0)] (.int 0) := (Arv.new A46 (by decide)).pad (pad_rep [] (.int 0) 3)
        refine GoW.pull (V := T46.setTop (mkF m 125 #[iv pk, iv pa, iv pb, iv pc', iv pq, iv 3, iv (((pk.toUInt32 >>> ((2 : Int32) &&& 31).toUInt32).toInt32) &&& (3 : Int32)), iv zu, iv ((pk.toUInt32 >>> ((5 : Int32) &&& 31).toUInt32).toInt32), iv zc, .unset, .unset, .unset] [(.ref b46)])) st46 ?_
        refine GoW.pull (V := T46.setTop (mkF m 128 #[iv pk, iv pa, iv pb, iv pc', iv pq, iv 3, iv (((pk.toUInt32 >>> ((2 : Int32) &&& 31).toUInt32).toInt32) &&& (3 : Int32)), iv zu, iv ((pk.toUInt32 >>> ((5 : Int32) &&& 31).toUInt32).toInt32), iv zc, .unset, .unset, .unset] [(.int pa), (.int 0), (.ref b46), (.ref b46)])) (fun t k => XS.dup X46.here hx rfl (hb hby at_125) rfl rfl (XS.iconst X46.here hx rfl (hb hby at_126) (XS.iloadN X46.here hx rfl (hb hby at_127) rfl  k))) ?_
        obtain ⟨cl47, Ar47, q47, S47, M47, Hs47, G47⟩ := id V46
        have hin47 : ¬ ((0 : Int32) < 0 ∨ cl47.slots.size ≤ ((0 : Int32)).toNatClampNeg) := inb_of S47 ⟨by decide, by decide⟩
        obtain ⟨T48, h48, X48, e48, W48, st48⟩ := stI X46 hx hZ e46 Ar47 (j := (0 : Int32)) hin47 (g := (mkF m 128 #[iv pk, iv pa, iv pb, iv pc', iv pq, iv 3, iv (((pk.toUInt32 >>> ((2 : Int32) &&& 31).toUInt32).toInt32) &&& (3 : Int32)), iv zu, iv ((pk.toUInt32 >>> ((5 : Int32) &&& 31).toUInt32).toInt32), iv zc, .unset, .unset, .unset] [(.int pa), (.int 0), (.ref b46), (.ref b46)])) rfl rfl (hb hby at_128)
        have V48 : Arv Z h48 b46 k46 .int (3 : Int32) [(.int pa), (.int 0), (.int 0)] (.int 0) := Arv.set Ar47 q47 S47 M47 Hs47 G47 rfl W48 0 rfl (Nat.le_of_ble_eq_true rfl)
        have K48 : Keep h0 h48 [] := K46.wr W48 (Or.inr sz_b46)
        have N48 := Fr.snoc X48 N0 g_b46
        refine GoW.pull (V := T48.setTop (mkF m 129 #[iv pk, iv pa, iv pb, iv pc', iv pq, iv 3, iv (((pk.toUInt32 >>> ((2 : Int32) &&& 31).toUInt32).toInt32) &&& (3 : Int32)), iv zu, iv ((pk.toUInt32 >>> ((5 : Int32) &&& 31).toUInt32).toInt32), iv zc, .unset, .unset, .unset] [(.ref b46)])) st48 ?_
        refine GoW.pull (V := T48.setTop (mkF m 132 #[iv pk, iv pa, iv pb, iv pc', iv pq, iv 3, iv (((pk.toUInt32 >>> ((2 : Int32) &&& 31).toUInt32).toInt32) &&& (3 : Int32)), iv zu, iv ((pk.toUInt32 >>> ((5 : Int32) &&& 31).toUInt32).toInt32), iv zc, .unset, .unset, .unset] [(.int pb), (.int 1), (.ref b46), (.ref b46)])) (fun t k => XS.dup X48.here hx rfl (hb hby at_129) rfl rfl (XS.iconst X48.here hx rfl (hb hby at_130) (XS.iloadN X48.here hx rfl (hb hby at_131) rfl  k))) ?_
        obtain ⟨cl49, Ar49, q49, S49, M49, Hs49, G49⟩ := id V48
        have hin49 : ¬ ((1 : Int32) < 0 ∨ cl49.slots.size ≤ ((1 : Int32)).toNatClampNeg) := inb_of S49 ⟨by decide, by decide⟩
        obtain ⟨T50, h50, X50, e50, W50, st50⟩ := stI X48 hx hZ e48 Ar49 (j := (1 : Int32)) hin49 (g := (mkF m 132 #[iv pk, iv pa, iv pb, iv pc', iv pq, iv 3, iv (((pk.toUInt32 >>> ((2 : Int32) &&& 31).toUInt32).toInt32) &&& (3 : Int32)), iv zu, iv ((pk.toUInt32 >>> ((5 : Int32) &&& 31).toUInt32).toInt32), iv zc, .unset, .unset, .unset] [(.int pb), (.int 1), (.ref b46), (.ref b46)])) rfl rfl (hb hby at_132)
        have V50 : Arv Z h50 b46 k46 .int (3 : Int32) [(.int pa), (.int pb), (.int 0)] (.int 0) := Arv.set Ar49 q49 S49 M49 Hs49 G49 rfl W50 1 rfl (Nat.le_of_ble_eq_true rfl)
        have K50 : Keep h0 h50 [] := K48.wr W50 (Or.inr sz_b46)
        have N50 := Fr.snoc X50 N48 g_b46
        refine GoW.pull (V := T50.setTop (mkF m 133 #[iv pk, iv pa, iv pb, iv pc', iv pq, iv 3, iv (((pk.toUInt32 >>> ((2 : Int32) &&& 31).toUInt32).toInt32) &&& (3 : Int32)), iv zu, iv ((pk.toUInt32 >>> ((5 : Int32) &&& 31).toUInt32).toInt32), iv zc, .unset, .unset, .unset] [(.ref b46)])) st50 ?_
        refine GoW.pull (V := T50.setTop (mkF m 136 #[iv pk, iv pa, iv pb, iv pc', iv pq, iv 3, iv (((pk.toUInt32 >>> ((2 : Int32) &&& 31).toUInt32).toInt32) &&& (3 : Int32)), iv zu, iv ((pk.toUInt32 >>> ((5 : Int32) &&& 31).toUInt32).toInt32), iv zc, .unset, .unset, .unset] [(.int pc'), (.int 2), (.ref b46), (.ref b46)])) (fun t k => XS.dup X50.here hx rfl (hb hby at_133) rfl rfl (XS.iconst X50.here hx rfl (hb hby at_134) (XS.iloadN X50.here hx rfl (hb hby at_135) rfl  k))) ?_
        obtain ⟨cl51, Ar51, q51, S51, M51, Hs51, G51⟩ := id V50
        have hin51 : ¬ ((2 : Int32) < 0 ∨ cl51.slots.size ≤ ((2 : Int32)).toNatClampNeg) := inb_of S51 ⟨by decide, by decide⟩
        obtain ⟨T52, h52, X52, e52, W52, st52⟩ := stI X50 hx hZ e50 Ar51 (j := (2 : Int32)) hin51 (g := (mkF m 136 #[iv pk, iv pa, iv pb, iv pc', iv pq, iv 3, iv (((pk.toUInt32 >>> ((2 : Int32) &&& 31).toUInt32).toInt32) &&& (3 : Int32)), iv zu, iv ((pk.toUInt32 >>> ((5 : Int32) &&& 31).toUInt32).toInt32), iv zc, .unset, .unset, .unset] [(.int pc'), (.int 2), (.ref b46), (.ref b46)])) rfl rfl (hb hby at_136)
        have V52 : Arv Z h52 b46 k46 .int (3 : Int32) [(.int pa), (.int pb), (.int pc')] (.int 0) := Arv.set Ar51 q51 S51 M51 Hs51 G51 rfl W52 2 rfl (Nat.le_of_ble_eq_true rfl)
        have K52 : Keep h0 h52 [] := K50.wr W52 (Or.inr sz_b46)
        have N52 := Fr.snoc X52 N50 g_b46
        refine GoW.pull (V := T52.setTop (mkF m 137 #[iv pk, iv pa, iv pb, iv pc', iv pq, iv 3, iv (((pk.toUInt32 >>> ((2 : Int32) &&& 31).toUInt32).toInt32) &&& (3 : Int32)), iv zu, iv ((pk.toUInt32 >>> ((5 : Int32) &&& 31).toUInt32).toInt32), iv zc, .unset, .unset, .unset] [(.ref b46)])) st52 ?_
        refine GoW.pull (V := T52.setTop (mkF m 139 #[iv pk, iv pa, iv pb, iv pc', iv pq, iv 3, iv (((pk.toUInt32 >>> ((2 : Int32) &&& 31).toUInt32).toInt32) &&& (3 : Int32)), iv zu, iv ((pk.toUInt32 >>> ((5 : Int32) &&& 31).toUInt32).toInt32), iv zc, rv b46, .unset, .unset] [])) (fun t k => XS.astore X52.here hx rfl (hb hby at_137) rfl rfl (l' := #[iv pk, iv pa, iv pb, iv pc', iv pq, iv 3, iv (((pk.toUInt32 >>> ((2 : Int32) &&& 31).toUInt32).toInt32) &&& (3 : Int32)), iv zu, iv ((pk.toUInt32 >>> ((5 : Int32) &&& 31).toUInt32).toInt32), iv zc, rv b46, .unset, .unset]) rfl k) ?_
        obtain ⟨T53, h53, X53, e53, E53, A53, D53, -, st53⟩ := newO X52 hx hZ hown (hw _ (List.mem_of_getElem? (i := 1) rfl)) (hw _ (List.mem_of_getElem? (i := 2) rfl)) (hw _ (List.mem_of_getElem? (i := 3) rfl)) e52 (g := (mkF m 139 #[iv pk, iv pa, iv pb, iv pc', iv pq, iv 3, iv (((pk.toUInt32 >>> ((2 : Int32) &&& 31).toUInt32).toInt32) &&& (3 : Int32)), iv zu, iv ((pk.toUInt32 >>> ((5 : Int32) &&& 31).toUInt32).toInt32), iv zc, rv b46, .unset, .unset] [])) rfl (hb hby at_139) (by decide) (by decide)
        obtain ⟨b53, g53⟩ : ∃ z, z = h52.size := ⟨_, rfl⟩
        rw [← g53] at A53 D53 st53
        have ne_b46_b53 : b46 ≠ b53 := Nat.ne_of_lt (Nat.lt_of_lt_of_le V52.lt (Nat.le_of_eq g53.symm))
        have sz_b53 : h0.size ≤ b53 := Nat.le_trans (K52).1 (Nat.le_of_eq g53.symm)
        have g_b53 : n0 ≤ b53 := Nat.le_trans Z0 sz_b53
        have K53 : Keep h0 h53 [] := K52.ext E53
        have F54 : Fld Z h53 b53 "com/example/latch/latch/engine/Index" "m_references" "Lcom/example/latch/latch/engine/KeyMap;" .null := D53 (Or.inr (hw _ (List.mem_of_getElem? (i := 52) rfl))) (ty := (.object "com/example/latch/latch/engine/KeyMap")) (by decide)
        have F55 : Fld Z h53 b53 "com/example/latch/latch/engine/Index" "m_name" "Ljava/lang/String;" .null := D53 (Or.inr (hw _ (List.mem_of_getElem? (i := 54) rfl))) (ty := (.object "java/lang/String")) (by decide)
        have F56 : Fld Z h53 b53 "com/example/latch/latch/engine/Index" "m_position" "I" (.int 0) := D53 (Or.inr (hw _ (List.mem_of_getElem? (i := 56) rfl))) (ty := .int) (by decide)
        have F57 : Fld Z h53 b53 "com/example/latch/latch/engine/Index" "m_columns" "[I" .null := D53 (Or.inr (hw _ (List.mem_of_getElem? (i := 58) rfl))) (ty := (.array .int)) (by decide)
        have F58 : Fld Z h53 b53 "com/example/latch/latch/engine/Index" "m_unique" "Z" (.int 0) := D53 (Or.inr (hw _ (List.mem_of_getElem? (i := 60) rfl))) (ty := .boolean) (by decide)
        refine GoW.pull (V := T53.setTop (mkF m 142 #[iv pk, iv pa, iv pb, iv pc', iv pq, iv 3, iv (((pk.toUInt32 >>> ((2 : Int32) &&& 31).toUInt32).toInt32) &&& (3 : Int32)), iv zu, iv ((pk.toUInt32 >>> ((5 : Int32) &&& 31).toUInt32).toInt32), iv zc, rv b46, .unset, .unset] [(.ref b53)])) st53 ?_
        refine GoW.pull (V := T53.setTop (mkF m 143 #[iv pk, iv pa, iv pb, iv pc', iv pq, iv 3, iv (((pk.toUInt32 >>> ((2 : Int32) &&& 31).toUInt32).toInt32) &&& (3 : Int32)), iv zu, iv ((pk.toUInt32 >>> ((5 : Int32) &&& 31).toUInt32).toInt32), iv zc, rv b46, .unset, .unset] [(.ref b53), (.ref b53)])) (fun t k => XS.dup X53.here hx rfl (hb hby at_142) rfl rfl k) ?_
        obtain ⟨str59, T59, h59, k59, X59, e59, E59, hS, hk59, hZ, hown, st59⟩ := ldcS (s := s) (vm0 := s.vm) X53 hx hZ hown (hw _ (List.mem_of_getElem? (i := 4) rfl)) (fun d hd => hw d (own_strW d hd)) e53 ((State.WarmedH.refl s).since 0) (Nat.zero_le _) (g := (mkF m 143 #[iv pk, iv pa, iv pb, iv pc', iv pq, iv 3, iv (((pk.toUInt32 >>> ((2 : Int32) &&& 31).toUInt32).toInt32) &&& (3 : Int32)), iv zu, iv ((pk.toUInt32 >>> ((5 : Int32) &&& 31).toUInt32).toInt32), iv zc, rv b46, .unset, .unset] [(.ref b53), (.ref b53)])) rfl (hb hby at_143) (n := 4) (by decide) (by decide) (by decide) (by decide)
        have K59 : Keep h0 h59 [] := K53.ext E59
        refine GoW.pull (V := T59.setTop (mkF m 145 #[iv pk, iv pa, iv pb, iv pc', iv pq, iv 3, iv (((pk.toUInt32 >>> ((2 : Int32) &&& 31).toUInt32).toInt32) &&& (3 : Int32)), iv zu, iv ((pk.toUInt32 >>> ((5 : Int32) &&& 31).toUInt32).toInt32), iv zc, rv b46, .unset, .unset] [(.ref str59), (.ref b53), (.ref b53)])) st59 ?_
        refine Go.wide hS ?_
        refine Go.pull (V := T59.setTop (mkF m 151 #[iv pk, iv pa, iv pb, iv pc', iv pq, iv 3, iv (((pk.toUInt32 >>> ((2 : Int32) &&& 31).toUInt32).toInt32) &&& (3 : Int32)), iv zu, iv ((pk.toUInt32 >>> ((5 : Int32) &&& 31).toUInt32).toInt32), iv zc, rv b46, .unset, .unset] [(.int zu), (.ref b46), (.int ((pk.toUInt32 >>> ((5 : Int32) &&& 31).toUInt32).toInt32)), (.ref str59), (.ref b53), (.ref b53)])) (fun t k => XS.iload X59.here hx rfl (hb hby at_145) rfl  (XS.aload X59.here hx rfl (hb hby at_147) rfl rfl (XS.iload X59.here hx rfl (hb hby at_149) rfl  k))) ?_
        obtain ⟨_, _, ⟨T60, L60, k60, n60⟩, -, X60, ⟨Lc60, hQ60, l60, y60, z60⟩, st60⟩ := X59.specialBack hx (y := (⟨"com/example/latch/latch/engine/Index", "<init>", "(Ljava/lang/String;I[IZ)V"⟩ : MethodName)) rfl hown (mvT hZ (hw _ (List.mem_of_getElem? (i := 12) rfl))) (mvT hZ (hw _ (List.mem_of_getElem? (i := 13) rfl))) (mvT hZ (hw _ (List.mem_of_getElem? (i := 14) rfl))) (by decide) (backOf (W := 1) (rmI l Z a0 hw [] b53 str59 ((pk.toUInt32 >>> ((5 : Int32) &&& 31).toUInt32).toInt32) b46 zu .null .null (.int 0) .null (.int 0) h59 n0 (Nat.le_trans Z0 (K59).1) (g_b53) (A53.ext E59) (F54.ext E59) (F55.ext E59) (F56.ext E59) (F57.ext E59) (F58.ext E59) hzu) hZ (hw _ (List.mem_of_getElem? (i := 14) rfl)) (hw _ (List.mem_of_getElem? (i := 3) rfl)) (by decide) (by decide)) (g := (mkF m 151 #[iv pk, iv pa, iv pb, iv pc', iv pq, iv 3, iv (((pk.toUInt32 >>> ((2 : Int32) &&& 31).toUInt32).toInt32) &&& (3 : Int32)), iv zu, iv ((pk.toUInt32 >>> ((5 : Int32) &&& 31).toUInt32).toInt32), iv zc, rv b46, .unset, .unset] [(.int zu), (.ref b46), (.int ((pk.toUInt32 >>> ((5 : Int32) &&& 31).toUInt32).toInt32)), (.ref str59), (.ref b53), (.ref b53)])) rfl (by rw [hml]; rfl) (Steps.refl _) (a := b53) (argsL := [(.ref str59), (.int ((pk.toUInt32 >>> ((5 : Int32) &&& 31).toUInt32).toInt32)), (.ref b46), (.int zu)]) (rest := [(.ref b53)]) (lenOf pd_1 rfl) rfl (by show 2 * 0 + _ ≤ _; exact Nat.le_of_eq rfl) (hb hby at_151) (fun _ _ => ⟨rfl, e59, (by decide : 4 + 4 ≤ _), (by decide : 16 + 139 ≤ _)⟩)
        dsimp only [Pt.U, Pt.locs, Pt.cells, Pt.slots] at X60 l60 y60 z60 st60 hQ60
        subst l60 y60 z60
        obtain ⟨rfl, N60q, Kc60, Fc60_0⟩ := hQ60
        have K60 : Keep h0 T60.heap [] := K59.trans Kc60 ((allS (Or.inr sz_b53) all0))
        have N60 := Fr.app N52 N60q
        refine Go.pull (V := T60.setTop (mkF m 154 #[iv pk, iv pa, iv pb, iv pc', iv pq, iv 3, iv (((pk.toUInt32 >>> ((2 : Int32) &&& 31).toUInt32).toInt32) &&& (3 : Int32)), iv zu, iv ((pk.toUInt32 >>> ((5 : Int32) &&& 31).toUInt32).toInt32), iv zc, rv b46, .unset, .unset] [(.ref b53)])) (fun _ k => st60.trans k) ?_
        refine Go.pull (V := T60.setTop (mkF m 162 #[iv pk, iv pa, iv pb, iv pc', iv pq, iv 3, iv (((pk.toUInt32 >>> ((2 : Int32) &&& 31).toUInt32).toInt32) &&& (3 : Int32)), iv zu, iv ((pk.toUInt32 >>> ((5 : Int32) &&& 31).toUInt32).toInt32), iv zc, rv b46, rv b53, .unset] [(.int pa)])) (fun t k => XS.astore X60.here hx rfl (hb hby at_154) rfl rfl (l' := #[iv pk, iv pa, iv pb, iv pc', iv pq, iv 3, iv (((pk.toUInt32 >>> ((2 : Int32) &&& 31).toUInt32).toInt32) &&& (3 : Int32)), iv zu, iv ((pk.toUInt32 >>> ((5 : Int32) &&& 31).toUInt32).toInt32), iv zc, rv b46, rv b53, .unset]) rfl (XS.iload X60.here hx rfl (hb hby at_156) rfl  (XS.ifNo X60.here hx rfl (hb hby at_158) rfl (XT.i0_le_f (by decide)) (XS.iloadN X60.here hx rfl (hb hby at_161) rfl  k)))) ?_
        refine Go.pull (V := T60.setTop (mkF m 164 #[iv pk, iv pa, iv pb, iv pc', iv pq, iv 3, iv (((pk.toUInt32 >>> ((2 : Int32) &&& 31).toUInt32).toInt32) &&& (3 : Int32)), iv zu, iv ((pk.toUInt32 >>> ((5 : Int32) &&& 31).toUInt32).toInt32), iv zc, rv b46, rv b53, .unset] [(.int zc), (.int pa)])) (fun t k => XS.iload X60.here hx rfl (hb hby at_162) rfl  k) ?_
        by_cases hc164_61 : pa = zc
        · skip
          refine Go.pull (V := T60.setTop (mkF m 198 #[iv pk, iv pa, iv pb, iv pc', iv pq, iv 3, iv (((pk.toUInt32 >>> ((2 : Int32) &&& 31).toUInt32).toInt32) &&& (3 : Int32)), iv zu, iv ((pk.toUInt32 >>> ((5 : Int32) &&& 31).toUInt32).toInt32), iv zc, rv b46, rv b53, iv 1] [])) (fun t k => XS.icmpYes X60.here hx rfl (pc0 := 164) (pc' := 191) rfl (hb hby at_164) rfl (XT.ii_eq_t hc164_61) (by decide) (by decide) (XS.iconst X60.here hx rfl (hb hby at_191) (XS.goto X60.here hx rfl (pc0 := 192) (pc' := 196) rfl (hb hby at_192) (by decide) (by decide) (XS.istore X60.here hx rfl (hb hby at_196) rfl (l' := #[iv pk, iv pa, iv pb, iv pc', iv pq, iv 3, iv (((pk.toUInt32 >>> ((2 : Int32) &&& 31).toUInt32).toInt32) &&& (3 : Int32)), iv zu, iv ((pk.toUInt32 >>> ((5 : Int32) &&& 31).toUInt32).toInt32), iv zc, rv b46, rv b53, iv 1]) rfl k)))) ?_
          refine Go.pull (V := T60.setTop (mkF m 202 #[iv pk, iv pa, iv pb, iv pc', iv pq, iv 3, iv (((pk.toUInt32 >>> ((2 : Int32) &&& 31).toUInt32).toInt32) &&& (3 : Int32)), iv zu, iv ((pk.toUInt32 >>> ((5 : Int32) &&& 31).toUInt32).toInt32), iv zc, rv b46, rv b53, iv 1] [(.int zc), (.ref b53)])) (fun t k => XS.aload X60.here hx rfl (hb hby at_198) rfl rfl (XS.iload X60.here hx rfl (hb hby at_200) rfl  k)) ?_
          obtain ⟨cq62, kq62, q62a, q62b, q62c⟩ := isOf hZ rfl ((A53.ext E59).keep Kc60)
          obtain ⟨_, _, ⟨T62, L62, k62, n62⟩, -, X62, ⟨Lc62, hQ62, l62, y62, z62⟩, st62⟩ := X60.virtualBack hx (y := (⟨"com/example/latch/latch/engine/Index", "hasColumn", "(I)Z"⟩ : MethodName)) (z := (⟨"com/example/latch/latch/engine/Index", "hasColumn", "(I)Z"⟩ : MethodName)) hown (mvT hZ (hw _ (List.mem_of_getElem? (i := 61) rfl))) (mvT hZ (hw _ (List.mem_of_getElem? (i := 62) rfl))) (notFace_of_selects (args := #[]) (mvT hZ (hw _ (List.mem_of_getElem? (i := 64) rfl)))) (mvT hZ (hw _ (List.mem_of_getElem? (i := 64) rfl))) (mvT hZ (hw _ (List.mem_of_getElem? (i := 63) rfl))) (by decide) (backOf (W := 0) (rmH3 l Z a0 hw [] b53 zc b46 k46 pa pb pc' T60.heap n0 Fc60_0 (((V52.ext E53).ext E59).keep Kc60 (ninS (ne_b46_b53) nin0))) hZ (hw _ (List.mem_of_getElem? (i := 65) rfl)) (hw _ (List.mem_of_getElem? (i := 3) rfl)) (by decide) (by decide)) q62a q62c (g := (mkF m 202 #[iv pk, iv pa, iv pb, iv pc', iv pq, iv 3, iv (((pk.toUInt32 >>> ((2 : Int32) &&& 31).toUInt32).toInt32) &&& (3 : Int32)), iv zu, iv ((pk.toUInt32 >>> ((5 : Int32) &&& 31).toUInt32).toInt32), iv zc, rv b46, rv b53, iv 1] [(.int zc), (.ref b53)])) rfl (by rw [hml]; rfl) (Steps.refl _) (argsL := [(.int zc)]) (rest := []) (lenOf pd_2 rfl) rfl (by show 2 * 0 + _ ≤ _; exact Nat.le_of_eq rfl) (hb hby at_202) (fun _ _ => ⟨rfl, rfl, (by decide : 8 + 0 ≤ _), (by decide : 155 + 0 ≤ _)⟩)
          dsimp only [Pt.U, Pt.locs, Pt.cells, Pt.slots] at X62 l62 y62 z62 st62 hQ62
          subst l62 y62 z62
          obtain ⟨hv62, N62q, e62⟩ := hQ62
          rw [(show (own_has3 pa pb pc' zc) = (1 : Int32) from by rw [own_has3, if_pos hc164_61])] at hv62; subst hv62
          have N62 := Fr.app N60 N62q
          refine Go.pull (V := T62.setTop (mkF m 205 #[iv pk, iv pa, iv pb, iv pc', iv pq, iv 3, iv (((pk.toUInt32 >>> ((2 : Int32) &&& 31).toUInt32).toInt32) &&& (3 : Int32)), iv zu, iv ((pk.toUInt32 >>> ((5 : Int32) &&& 31).toUInt32).toInt32), iv zc, rv b46, rv b53, iv 1] [(.int 1)])) (fun _ k => st62.trans k) ?_
          refine Go.pull (V := T62.setTop (mkF m 215 #[iv pk, iv pa, iv pb, iv pc', iv pq, iv 3, iv (((pk.toUInt32 >>> ((2 : Int32) &&& 31).toUInt32).toInt32) &&& (3 : Int32)), iv zu, iv ((pk.toUInt32 >>> ((5 : Int32) &&& 31).toUInt32).toInt32), iv zc, rv b46, rv b53, iv 1] [(.int 1)])) (fun t k => XS.iload X62.here hx rfl (hb hby at_205) rfl  (XS.icmpNo X62.here hx rfl (hb hby at_207) rfl (XT.ii_ne_f (by decide)) (XS.iconst X62.here hx rfl (hb hby at_210) (XS.goto X62.here hx rfl (pc0 := 211) (pc' := 215) rfl (hb hby at_211) (by decide) (by decide) k)))) ?_
          exact Go.retN X62 hx Bd.notSynchronized (t := .boolean) Bd.returns (by simp) (hb hby at_215) ⟨⟨rfl, N62⟩, by rw [e62]; exact (Nat.le_trans hk59 Kc60.1)⟩ (by decide) (by decide)
        · skip
          refine Go.pull (V := T60.setTop (mkF m 173 #[iv pk, iv pa, iv pb, iv pc', iv pq, iv 3, iv (((pk.toUInt32 >>> ((2 : Int32) &&& 31).toUInt32).toInt32) &&& (3 : Int32)), iv zu, iv ((pk.toUInt32 >>> ((5 : Int32) &&& 31).toUInt32).toInt32), iv zc, rv b46, rv b53, .unset] [])) (fun t k => XS.icmpNo X60.here hx rfl (hb hby at_164) rfl (XT.ii_eq_f hc164_61) (XS.iload X60.here hx rfl (hb hby at_167) rfl  (XS.iconst X60.here hx rfl (hb hby at_169) (XS.icmpNo X60.here hx rfl (hb hby at_170) rfl (XT.ii_le_f (by decide)) k)))) ?_
          refine Go.pull (V := T60.setTop (mkF m 176 #[iv pk, iv pa, iv pb, iv pc', iv pq, iv 3, iv (((pk.toUInt32 >>> ((2 : Int32) &&& 31).toUInt32).toInt32) &&& (3 : Int32)), iv zu, iv ((pk.toUInt32 >>> ((5 : Int32) &&& 31).toUInt32).toInt32), iv zc, rv b46, rv b53, .unset] [(.int zc), (.int pb)])) (fun t k => XS.iloadN X60.here hx rfl (hb hby at_173) rfl  (XS.iload X60.here hx rfl (hb hby at_174) rfl  k)) ?_
          by_cases hc176_63 : pb = zc
          · skip
            refine Go.pull (V := T60.setTop (mkF m 198 #[iv pk, iv pa, iv pb, iv pc', iv pq, iv 3, iv (((pk.toUInt32 >>> ((2 : Int32) &&& 31).toUInt32).toInt32) &&& (3 : Int32)), iv zu, iv ((pk.toUInt32 >>> ((5 : Int32) &&& 31).toUInt32).toInt32), iv zc, rv b46, rv b53, iv 1] [])) (fun t k => XS.icmpYes X60.here hx rfl (pc0 := 176) (pc' := 191) rfl (hb hby at_176) rfl (XT.ii_eq_t hc176_63) (by decide) (by decide) (XS.iconst X60.here hx rfl (hb hby at_191) (XS.goto X60.here hx rfl (pc0 := 192) (pc' := 196) rfl (hb hby at_192) (by decide) (by decide) (XS.istore X60.here hx rfl (hb hby at_196) rfl (l' := #[iv pk, iv pa, iv pb, iv pc', iv pq, iv 3, iv (((pk.toUInt32 >>> ((2 : Int32) &&& 31).toUInt32).toInt32) &&& (3 : Int32)), iv zu, iv ((pk.toUInt32 >>> ((5 : Int32) &&& 31).toUInt32).toInt32), iv zc, rv b46, rv b53, iv 1]) rfl k)))) ?_
            refine Go.pull (V := T60.setTop (mkF m 202 #[iv pk, iv pa, iv pb, iv pc', iv pq, iv 3, iv (((pk.toUInt32 >>> ((2 : Int32) &&& 31).toUInt32).toInt32) &&& (3 : Int32)), iv zu, iv ((pk.toUInt32 >>> ((5 : Int32) &&& 31).toUInt32).toInt32), iv zc, rv b46, rv b53, iv 1] [(.int zc), (.ref b53)])) (fun t k => XS.aload X60.here hx rfl (hb hby at_198) rfl rfl (XS.iload X60.here hx rfl (hb hby at_200) rfl  k)) ?_
            obtain ⟨cq64, kq64, q64a, q64b, q64c⟩ := isOf hZ rfl ((A53.ext E59).keep Kc60)
            obtain ⟨_, _, ⟨T64, L64, k64, n64⟩, -, X64, ⟨Lc64, hQ64, l64, y64, z64⟩, st64⟩ := X60.virtualBack hx (y := (⟨"com/example/latch/latch/engine/Index", "hasColumn", "(I)Z"⟩ : MethodName)) (z := (⟨"com/example/latch/latch/engine/Index", "hasColumn", "(I)Z"⟩ : MethodName)) hown (mvT hZ (hw _ (List.mem_of_getElem? (i := 61) rfl))) (mvT hZ (hw _ (List.mem_of_getElem? (i := 62) rfl))) (notFace_of_selects (args := #[]) (mvT hZ (hw _ (List.mem_of_getElem? (i := 64) rfl)))) (mvT hZ (hw _ (List.mem_of_getElem? (i := 64) rfl))) (mvT hZ (hw _ (List.mem_of_getElem? (i := 63) rfl))) (by decide) (backOf (W := 0) (rmH3 l Z a0 hw [] b53 zc b46 k46 pa pb pc' T60.heap n0 Fc60_0 (((V52.ext E53).ext E59).keep Kc60 (ninS (ne_b46_b53) nin0))) hZ (hw _ (List.mem_of_getElem? (i := 65) rfl)) (hw _ (List.mem_of_getElem? (i := 3) rfl)) (by decide) (by decide)) q64a q64c (g := (mkF m 202 #[iv pk, iv pa, iv pb, iv pc', iv pq, iv 3, iv (((pk.toUInt32 >>> ((2 : Int32) &&& 31).toUInt32).toInt32) &&& (3 : Int32)), iv zu, iv ((pk.toUInt32 >>> ((5 : Int32) &&& 31).toUInt32).toInt32), iv zc, rv b46, rv b53, iv 1] [(.int zc), (.ref b53)])) rfl (by rw [hml]; rfl) (Steps.refl _) (argsL := [(.int zc)]) (rest := []) (lenOf pd_2 rfl) rfl (by show 2 * 0 + _ ≤ _; exact Nat.le_of_eq rfl) (hb hby at_202) (fun _ _ => ⟨rfl, rfl, (by decide : 8 + 0 ≤ _), (by decide : 155 + 0 ≤ _)⟩)
            dsimp only [Pt.U, Pt.locs, Pt.cells, Pt.slots] at X64 l64 y64 z64 st64 hQ64
            subst l64 y64 z64
            obtain ⟨hv64, N64q, e64⟩ := hQ64
            rw [(show (own_has3 pa pb pc' zc) = (1 : Int32) from by rw [own_has3, if_neg hc164_61, if_pos hc176_63])] at hv64; subst hv64
            have N64 := Fr.app N60 N64q
            refine Go.pull (V := T64.setTop (mkF m 205 #[iv pk, iv pa, iv pb, iv pc', iv pq, iv 3, iv (((pk.toUInt32 >>> ((2 : Int32) &&& 31).toUInt32).toInt32) &&& (3 : Int32)), iv zu, iv ((pk.toUInt32 >>> ((5 : Int32) &&& 31).toUInt32).toInt32), iv zc, rv b46, rv b53, iv 1] [(.int 1)])) (fun _ k => st64.trans k) ?_
            refine Go.pull (V := T64.setTop (mkF m 215 #[iv pk, iv pa, iv pb, iv pc', iv pq, iv 3, iv (((pk.toUInt32 >>> ((2 : Int32) &&& 31).toUInt32).toInt32) &&& (3 : Int32)), iv zu, iv ((pk.toUInt32 >>> ((5 : Int32) &&& 31).toUInt32).toInt32), iv zc, rv b46, rv b53, iv 1] [(.int 1)])) (fun t k => XS.iload X64.here hx rfl (hb hby at_205) rfl  (XS.icmpNo X64.here hx rfl (hb hby at_207) rfl (XT.ii_ne_f (by decide)) (XS.iconst X64.here hx rfl (hb hby at_210) (XS.goto X64.here hx rfl (pc0 := 211) (pc' := 215) rfl (hb hby at_211) (by decide) (by decide) k)))) ?_
            exact Go.retN X64 hx Bd.notSynchronized (t := .boolean) Bd.returns (by simp) (hb hby at_215) ⟨⟨rfl, N64⟩, by rw [e64]; exact (Nat.le_trans hk59 Kc60.1)⟩ (by decide) (by decide)
          · skip
            refine Go.pull (V := T60.setTop (mkF m 185 #[iv pk, iv pa, iv pb, iv pc', iv pq, iv 3, iv (((pk.toUInt32 >>> ((2 : Int32) &&& 31).toUInt32).toInt32) &&& (3 : Int32)), iv zu, iv ((pk.toUInt32 >>> ((5 : Int32) &&& 31).toUInt32).toInt32), iv zc, rv b46, rv b53, .unset] [])) (fun t k => XS.icmpNo X60.here hx rfl (hb hby at_176) rfl (XT.ii_eq_f hc176_63) (XS.iload X60.here hx rfl (hb hby at_179) rfl  (XS.iconst X60.here hx rfl (hb hby at_181) (XS.icmpNo X60.here hx rfl (hb hby at_182) rfl (XT.ii_le_f (by decide)) k)))) ?_
            refine Go.pull (V := T60.setTop (mkF m 188 #[iv pk, iv pa, iv pb, iv pc', iv pq, iv 3, iv (((pk.toUInt32 >>> ((2 : Int32) &&& 31).toUInt32).toInt32) &&& (3 : Int32)), iv zu, iv ((pk.toUInt32 >>> ((5 : Int32) &&& 31).toUInt32).toInt32), iv zc, rv b46, rv b53, .unset] [(.int zc), (.int pc')])) (fun t k => XS.iloadN X60.here hx rfl (hb hby at_185) rfl  (XS.iload X60.here hx rfl (hb hby at_186) rfl  k)) ?_
            by_cases hc188_65 : pc' = zc
            · skip
              refine Go.pull (V := T60.setTop (mkF m 198 #[iv pk, iv pa, iv pb, iv pc', iv pq, iv 3, iv (((pk.toUInt32 >>> ((2 : Int32) &&& 31).toUInt32).toInt32) &&& (3 : Int32)), iv zu, iv ((pk.toUInt32 >>> ((5 : Int32) &&& 31).toUInt32).toInt32), iv zc, rv b46, rv b53, iv 1] [])) (fun t k => XS.icmpNo X60.here hx rfl (hb hby at_188) rfl (XT.ii_ne_f hc188_65) (XS.iconst X60.here hx rfl (hb hby at_191) (XS.goto X60.here hx rfl (pc0 := 192) (pc' := 196) rfl (hb hby at_192) (by decide) (by decide) (XS.istore X60.here hx rfl (hb hby at_196) rfl (l' := #[iv pk, iv pa, iv pb, iv pc', iv pq, iv 3, iv (((pk.toUInt32 >>> ((2 : Int32) &&& 31).toUInt32).toInt32) &&& (3 : Int32)), iv zu, iv ((pk.toUInt32 >>> ((5 : Int32) &&& 31).toUInt32).toInt32), iv zc, rv b46, rv b53, iv 1]) rfl k)))) ?_
              refine Go.pull (V := T60.setTop (mkF m 202 #[iv pk, iv pa, iv pb, iv pc', iv pq, iv 3, iv (((pk.toUInt32 >>> ((2 : Int32) &&& 31).toUInt32).toInt32) &&& (3 : Int32)), iv zu, iv ((pk.toUInt32 >>> ((5 : Int32) &&& 31).toUInt32).toInt32), iv zc, rv b46, rv b53, iv 1] [(.int zc), (.ref b53)])) (fun t k => XS.aload X60.here hx rfl (hb hby at_198) rfl rfl (XS.iload X60.here hx rfl (hb hby at_200) rfl  k)) ?_
              obtain ⟨cq66, kq66, q66a, q66b, q66c⟩ := isOf hZ rfl ((A53.ext E59).keep Kc60)
              obtain ⟨_, _, ⟨T66, L66, k66, n66⟩, -, X66, ⟨Lc66, hQ66, l66, y66, z66⟩, st66⟩ := X60.virtualBack hx (y := (⟨"com/example/latch/latch/engine/Index", "hasColumn", "(I)Z"⟩ : MethodName)) (z := (⟨"com/example/latch/latch/engine/Index", "hasColumn", "(I)Z"⟩ : MethodName)) hown (mvT hZ (hw _ (List.mem_of_getElem? (i := 61) rfl))) (mvT hZ (hw _ (List.mem_of_getElem? (i := 62) rfl))) (notFace_of_selects (args := #[]) (mvT hZ (hw _ (List.mem_of_getElem? (i := 64) rfl)))) (mvT hZ (hw _ (List.mem_of_getElem? (i := 64) rfl))) (mvT hZ (hw _ (List.mem_of_getElem? (i := 63) rfl))) (by decide) (backOf (W := 0) (rmH3 l Z a0 hw [] b53 zc b46 k46 pa pb pc' T60.heap n0 Fc60_0 (((V52.ext E53).ext E59).keep Kc60 (ninS (ne_b46_b53) nin0))) hZ (hw _ (List.mem_of_getElem? (i := 65) rfl)) (hw _ (List.mem_of_getElem? (i := 3) rfl)) (by decide) (by decide)) q66a q66c (g := (mkF m 202 #[iv pk, iv pa, iv pb, iv pc', iv pq, iv 3, iv (((pk.toUInt32 >>> ((2 : Int32) &&& 31).toUInt32).toInt32) &&& (3 : Int32)), iv zu, iv ((pk.toUInt32 >>> ((5 : Int32) &&& 31).toUInt32).toInt32), iv zc, rv b46, rv b53, iv 1] [(.int zc), (.ref b53)])) rfl (by rw [hml]; rfl) (Steps.refl _) (argsL := [(.int zc)]) (rest := []) (lenOf pd_2 rfl) rfl (by show 2 * 0 + _ ≤ _; exact Nat.le_of_eq rfl) (hb hby at_202) (fun _ _ => ⟨rfl, rfl, (by decide : 8 + 0 ≤ _), (by decide : 155 + 0 ≤ _)⟩)
              dsimp only [Pt.U, Pt.locs, Pt.cells, Pt.slots] at X66 l66 y66 z66 st66 hQ66
              subst l66 y66 z66
              obtain ⟨hv66, N66q, e66⟩ := hQ66
              rw [(show (own_has3 pa pb pc' zc) = (1 : Int32) from by rw [own_has3, if_neg hc164_61, if_neg hc176_63, if_pos hc188_65])] at hv66; subst hv66
              have N66 := Fr.app N60 N66q
              refine Go.pull (V := T66.setTop (mkF m 205 #[iv pk, iv pa, iv pb, iv pc', iv pq, iv 3, iv (((pk.toUInt32 >>> ((2 : Int32) &&& 31).toUInt32).toInt32) &&& (3 : Int32)), iv zu, iv ((pk.toUInt32 >>> ((5 : Int32) &&& 31).toUInt32).toInt32), iv zc, rv b46, rv b53, iv 1] [(.int 1)])) (fun _ k => st66.trans k) ?_
              refine Go.pull (V := T66.setTop (mkF m 215 #[iv pk, iv pa, iv pb, iv pc', iv pq, iv 3, iv (((pk.toUInt32 >>> ((2 : Int32) &&& 31).toUInt32).toInt32) &&& (3 : Int32)), iv zu, iv ((pk.toUInt32 >>> ((5 : Int32) &&& 31).toUInt32).toInt32), iv zc, rv b46, rv b53, iv 1] [(.int 1)])) (fun t k => XS.iload X66.here hx rfl (hb hby at_205) rfl  (XS.icmpNo X66.here hx rfl (hb hby at_207) rfl (XT.ii_ne_f (by decide)) (XS.iconst X66.here hx rfl (hb hby at_210) (XS.goto X66.here hx rfl (pc0 := 211) (pc' := 215) rfl (hb hby at_211) (by decide) (by decide) k)))) ?_
              exact Go.retN X66 hx Bd.notSynchronized (t := .boolean) Bd.returns (by simp) (hb hby at_215) ⟨⟨rfl, N66⟩, by rw [e66]; exact (Nat.le_trans hk59 Kc60.1)⟩ (by decide) (by decide)
            · skip
              refine Go.pull (V := T60.setTop (mkF m 200 #[iv pk, iv pa, iv pb, iv pc', iv pq, iv 3, iv (((pk.toUInt32 >>> ((2 : Int32) &&& 31).toUInt32).toInt32) &&& (3 : Int32)), iv zu, iv ((pk.toUInt32 >>> ((5 : Int32) &&& 31).toUInt32).toInt32), iv zc, rv b46, rv b53, iv 0] [(.ref b53)])) (fun t k => XS.icmpYes X60.here hx rfl (pc0 := 188) (pc' := 195) rfl (hb hby at_188) rfl (XT.ii_ne_t hc188_65) (by decide) (by decide) (XS.iconst X60.here hx rfl (hb hby at_195) (XS.istore X60.here hx rfl (hb hby at_196) rfl (l' := #[iv pk, iv pa, iv pb, iv pc', iv pq, iv 3, iv (((pk.toUInt32 >>> ((2 : Int32) &&& 31).toUInt32).toInt32) &&& (3 : Int32)), iv zu, iv ((pk.toUInt32 >>> ((5 : Int32) &&& 31).toUInt32).toInt32), iv zc, rv b46, rv b53, iv 0]) rfl (XS.aload X60.here hx rfl (hb hby at_198) rfl rfl k)))) ?_
              refine Go.pull (V := T60.setTop (mkF m 202 #[iv pk, iv pa, iv pb, iv pc', iv pq, iv 3, iv (((pk.toUInt32 >>> ((2 : Int32) &&& 31).toUInt32).toInt32) &&& (3 : Int32)), iv zu, iv ((pk.toUInt32 >>> ((5 : Int32) &&& 31).toUInt32).toInt32), iv zc, rv b46, rv b53, iv 0] [(.int zc), (.ref b53)])) (fun t k => XS.iload X60.here hx rfl (hb hby at_200) rfl  k) ?_
              obtain ⟨cq67, kq67, q67a, q67b, q67c⟩ := isOf hZ rfl ((A53.ext E59).keep Kc60)
              obtain ⟨_, _, ⟨T67, L67, k67, n67⟩, -, X67, ⟨Lc67, hQ67, l67, y67, z67⟩, st67⟩ := X60.virtualBack hx (y := (⟨"com/example/latch/latch/engine/Index", "hasColumn", "(I)Z"⟩ : MethodName)) (z := (⟨"com/example/latch/latch/engine/Index", "hasColumn", "(I)Z"⟩ : MethodName)) hown (mvT hZ (hw _ (List.mem_of_getElem? (i := 61) rfl))) (mvT hZ (hw _ (List.mem_of_getElem? (i := 62) rfl))) (notFace_of_selects (args := #[]) (mvT hZ (hw _ (List.mem_of_getElem? (i := 64) rfl)))) (mvT hZ (hw _ (List.mem_of_getElem? (i := 64) rfl))) (mvT hZ (hw _ (List.mem_of_getElem? (i := 63) rfl))) (by decide) (backOf (W := 0) (rmH3 l Z a0 hw [] b53 zc b46 k46 pa pb pc' T60.heap n0 Fc60_0 (((V52.ext E53).ext E59).keep Kc60 (ninS (ne_b46_b53) nin0))) hZ (hw _ (List.mem_of_getElem? (i := 65) rfl)) (hw _ (List.mem_of_getElem? (i := 3) rfl)) (by decide) (by decide)) q67a q67c (g := (mkF m 202 #[iv pk, iv pa, iv pb, iv pc', iv pq, iv 3, iv (((pk.toUInt32 >>> ((2 : Int32) &&& 31).toUInt32).toInt32) &&& (3 : Int32)), iv zu, iv ((pk.toUInt32 >>> ((5 : Int32) &&& 31).toUInt32).toInt32), iv zc, rv b46, rv b53, iv 0] [(.int zc), (.ref b53)])) rfl (by rw [hml]; rfl) (Steps.refl _) (argsL := [(.int zc)]) (rest := []) (lenOf pd_2 rfl) rfl (by show 2 * 0 + _ ≤ _; exact Nat.le_of_eq rfl) (hb hby at_202) (fun _ _ => ⟨rfl, rfl, (by decide : 8 + 0 ≤ _), (by decide : 155 + 0 ≤ _)⟩)
              dsimp only [Pt.U, Pt.locs, Pt.cells, Pt.slots] at X67 l67 y67 z67 st67 hQ67
              subst l67 y67 z67
              obtain ⟨hv67, N67q, e67⟩ := hQ67
              rw [(show (own_has3 pa pb pc' zc) = (0 : Int32) from by rw [own_has3, if_neg hc164_61, if_neg hc176_63, if_neg hc188_65])] at hv67; subst hv67
              have N67 := Fr.app N60 N67q
              refine Go.pull (V := T67.setTop (mkF m 205 #[iv pk, iv pa, iv pb, iv pc', iv pq, iv 3, iv (((pk.toUInt32 >>> ((2 : Int32) &&& 31).toUInt32).toInt32) &&& (3 : Int32)), iv zu, iv ((pk.toUInt32 >>> ((5 : Int32) &&& 31).toUInt32).toInt32), iv zc, rv b46, rv b53, iv 0] [(.int 0)])) (fun _ k => st67.trans k) ?_
              refine Go.pull (V := T67.setTop (mkF m 215 #[iv pk, iv pa, iv pb, iv pc', iv pq, iv 3, iv (((pk.toUInt32 >>> ((2 : Int32) &&& 31).toUInt32).toInt32) &&& (3 : Int32)), iv zu, iv ((pk.toUInt32 >>> ((5 : Int32) &&& 31).toUInt32).toInt32), iv zc, rv b46, rv b53, iv 0] [(.int 1)])) (fun t k => XS.iload X67.here hx rfl (hb hby at_205) rfl  (XS.icmpNo X67.here hx rfl (hb hby at_207) rfl (XT.ii_ne_f (by decide)) (XS.iconst X67.here hx rfl (hb hby at_210) (XS.goto X67.here hx rfl (pc0 := 211) (pc' := 215) rfl (hb hby at_211) (by decide) (by decide) k)))) ?_
              exact Go.retN X67 hx Bd.notSynchronized (t := .boolean) Bd.returns (by simp) (hb hby at_215) ⟨⟨rfl, N67⟩, by rw [e67]; exact (Nat.le_trans hk59 Kc60.1)⟩ (by decide) (by decide)
    refine GoW.pull (V := s₁.setTop (mkF m 39 #[iv pk, iv pa, iv pb, iv pc', iv pq, iv (pk &&& (3 : Int32)), iv (((pk.toUInt32 >>> ((2 : Int32) &&& 31).toUInt32).toInt32) &&& (3 : Int32)), iv zu, iv ((pk.toUInt32 >>> ((5 : Int32) &&& 31).toUInt32).toInt32), iv pq, .unset, .unset, .unset] [(.int 1), (.int (((pk.toUInt32 >>> ((2 : Int32) &&& 31).toUInt32).toInt32) &&& (3 : Int32)))])) (fun t k => XS.iload X0.here hx rfl (hb hby at_32) rfl  (XS.istore X0.here hx rfl (hb hby at_34) rfl (l' := #[iv pk, iv pa, iv pb, iv pc', iv pq, iv (pk &&& (3 : Int32)), iv (((pk.toUInt32 >>> ((2 : Int32) &&& 31).toUInt32).toInt32) &&& (3 : Int32)), iv zu, iv ((pk.toUInt32 >>> ((5 : Int32) &&& 31).toUInt32).toInt32), iv pq, .unset, .unset, .unset]) rfl (XS.iload X0.here hx rfl (hb hby at_36) rfl  (XS.iconst X0.here hx rfl (hb hby at_38) k)))) ?_
    by_cases hc39_68 : (((pk.toUInt32 >>> ((2 : Int32) &&& 31).toUInt32).toInt32) &&& (3 : Int32)) = (1 : Int32)
    · skip
      refine GoW.pull (V := s₁.setTop (mkF m 69 #[iv pk, iv pa, iv pb, iv pc', iv pq, iv (pk &&& (3 : Int32)), iv (((pk.toUInt32 >>> ((2 : Int32) &&& 31).toUInt32).toInt32) &&& (3 : Int32)), iv zu, iv ((pk.toUInt32 >>> ((5 : Int32) &&& 31).toUInt32).toInt32), iv pa, .unset, .unset, .unset] [])) (fun t k => XS.icmpNo X0.here hx rfl (hb hby at_39) rfl (XT.ii_ne_f hc39_68) (XS.iloadN X0.here hx rfl (hb hby at_42) rfl  (XS.istore X0.here hx rfl (hb hby at_43) rfl (l' := #[iv pk, iv pa, iv pb, iv pc', iv pq, iv (pk &&& (3 : Int32)), iv (((pk.toUInt32 >>> ((2 : Int32) &&& 31).toUInt32).toInt32) &&& (3 : Int32)), iv zu, iv ((pk.toUInt32 >>> ((5 : Int32) &&& 31).toUInt32).toInt32), iv pa, .unset, .unset, .unset]) rfl (XS.goto X0.here hx rfl (pc0 := 45) (pc' := 69) rfl (hb hby at_45) (by decide) (by decide) k)))) ?_
      exact J69_2 (pa) 
    · skip
      refine GoW.pull (V := s₁.setTop (mkF m 51 #[iv pk, iv pa, iv pb, iv pc', iv pq, iv (pk &&& (3 : Int32)), iv (((pk.toUInt32 >>> ((2 : Int32) &&& 31).toUInt32).toInt32) &&& (3 : Int32)), iv zu, iv ((pk.toUInt32 >>> ((5 : Int32) &&& 31).toUInt32).toInt32), iv pq, .unset, .unset, .unset] [(.int 2), (.int (((pk.toUInt32 >>> ((2 : Int32) &&& 31).toUInt32).toInt32) &&& (3 : Int32)))])) (fun t k => XS.icmpYes X0.here hx rfl (pc0 := 39) (pc' := 48) rfl (hb hby at_39) rfl (XT.ii_ne_t hc39_68) (by decide) (by decide) (XS.iload X0.here hx rfl (hb hby at_48) rfl  (XS.iconst X0.here hx rfl (hb hby at_50) k))) ?_
      by_cases hc51_69 : (((pk.toUInt32 >>> ((2 : Int32) &&& 31).toUInt32).toInt32) &&& (3 : Int32)) = (2 : Int32)
      · skip
        refine GoW.pull (V := s₁.setTop (mkF m 69 #[iv pk, iv pa, iv pb, iv pc', iv pq, iv (pk &&& (3 : Int32)), iv (((pk.toUInt32 >>> ((2 : Int32) &&& 31).toUInt32).toInt32) &&& (3 : Int32)), iv zu, iv ((pk.toUInt32 >>> ((5 : Int32) &&& 31).toUInt32).toInt32), iv pb, .unset, .unset, .unset] [])) (fun t k => XS.icmpNo X0.here hx rfl (hb hby at_51) rfl (XT.ii_ne_f hc51_69) (XS.iloadN X0.here hx rfl (hb hby at_54) rfl  (XS.istore X0.here hx rfl (hb hby at_55) rfl (l' := #[iv pk, iv pa, iv pb, iv pc', iv pq, iv (pk &&& (3 : Int32)), iv (((pk.toUInt32 >>> ((2 : Int32) &&& 31).toUInt32).toInt32) &&& (3 : Int32)), iv zu, iv ((pk.toUInt32 >>> ((5 : Int32) &&& 31).toUInt32).toInt32), iv pb, .unset, .unset, .unset]) rfl (XS.goto X0.here hx rfl (pc0 := 57) (pc' := 69) rfl (hb hby at_57) (by decide) (by decide) k)))) ?_
        exact J69_2 (pb) 
      · skip
        refine GoW.pull (V := s₁.setTop (mkF m 63 #[iv pk, iv pa, iv pb, iv pc', iv pq, iv (pk &&& (3 : Int32)), iv (((pk.toUInt32 >>> ((2 : Int32) &&& 31).toUInt32).toInt32) &&& (3 : Int32)), iv zu, iv ((pk.toUInt32 >>> ((5 : Int32) &&& 31).toUInt32).toInt32), iv pq, .unset, .unset, .unset] [(.int 3), (.int (((pk.toUInt32 >>> ((2 : Int32) &&& 31).toUInt32).toInt32) &&& (3 : Int32)))])) (fun t k => XS.icmpYes X0.here hx rfl (pc0 := 51) (pc' := 60) rfl (hb hby at_51) rfl (XT.ii_ne_t hc51_69) (by decide) (by decide) (XS.iload X0.here hx rfl (hb hby at_60) rfl  (XS.iconst X0.here hx rfl (hb hby at_62) k))) ?_
        by_cases hc63_70 : (((pk.toUInt32 >>> ((2 : Int32) &&& 31).toUInt32).toInt32) &&& (3 : Int32)) = (3 : Int32)
        · skip
          refine GoW.pull (V := s₁.setTop (mkF m 69 #[iv pk, iv pa, iv pb, iv pc', iv pq, iv (pk &&& (3 : Int32)), iv (((pk.toUInt32 >>> ((2 : Int32) &&& 31).toUInt32).toInt32) &&& (3 : Int32)), iv zu, iv ((pk.toUInt32 >>> ((5 : Int32) &&& 31).toUInt32).toInt32), iv pc', .unset, .unset, .unset] [])) (fun t k => XS.icmpNo X0.here hx rfl (hb hby at_63) rfl (XT.ii_ne_f hc63_70) (XS.iloadN X0.here hx rfl (hb hby at_66) rfl  (XS.istore X0.here hx rfl (hb hby at_67) rfl (l' := #[iv pk, iv pa, iv pb, iv pc', iv pq, iv (pk &&& (3 : Int32)), iv (((pk.toUInt32 >>> ((2 : Int32) &&& 31).toUInt32).toInt32) &&& (3 : Int32)), iv zu, iv ((pk.toUInt32 >>> ((5 : Int32) &&& 31).toUInt32).toInt32), iv pc', .unset, .unset, .unset]) rfl k))) ?_
          exact J69_2 (pc') 
        · skip
          refine GoW.pull (V := s₁.setTop (mkF m 69 #[iv pk, iv pa, iv pb, iv pc', iv pq, iv (pk &&& (3 : Int32)), iv (((pk.toUInt32 >>> ((2 : Int32) &&& 31).toUInt32).toInt32) &&& (3 : Int32)), iv zu, iv ((pk.toUInt32 >>> ((5 : Int32) &&& 31).toUInt32).toInt32), iv pq, .unset, .unset, .unset] [])) (fun t k => XS.icmpYes X0.here hx rfl (pc0 := 63) (pc' := 69) rfl (hb hby at_63) rfl (XT.ii_ne_t hc63_70) (by decide) (by decide) k) ?_
          exact J69_2 (pq) 
  refine GoW.pull (V := s₁.setTop (mkF m 16 #[iv pk, iv pa, iv pb, iv pc', iv pq, iv (pk &&& (3 : Int32)), iv (((pk.toUInt32 >>> ((2 : Int32) &&& 31).toUInt32).toInt32) &&& (3 : Int32)), .unset, .unset, .unset, .unset, .unset, .unset] [(.int 1), (.int ((pk.toUInt32 >>> ((4 : Int32) &&& 31).toUInt32).toInt32))])) (fun t k => XS.iloadN X0.here hx rfl (hb hby at_12) rfl  (XS.iconst X0.here hx rfl (hb hby at_13) (XS.iushr X0.here hx rfl (hb hby at_14) rfl (XS.iconst X0.here hx rfl (hb hby at_15) k)))) ?_
  refine GoW.pull (V := s₁.setTop (mkF m 17 #[iv pk, iv pa, iv pb, iv pc', iv pq, iv (pk &&& (3 : Int32)), iv (((pk.toUInt32 >>> ((2 : Int32) &&& 31).toUInt32).toInt32) &&& (3 : Int32)), .unset, .unset, .unset, .unset, .unset, .unset] [(.int (((pk.toUInt32 >>> ((4 : Int32) &&& 31).toUInt32).toInt32) &&& (1 : Int32)))])) (fun t k => XS.iand X0.here hx rfl (hb hby at_16) rfl k) ?_
  by_cases hc17_71 : (((pk.toUInt32 >>> ((4 : Int32) &&& 31).toUInt32).toInt32) &&& (1 : Int32)) = 0
  · skip
    refine GoW.pull (V := s₁.setTop (mkF m 27 #[iv pk, iv pa, iv pb, iv pc', iv pq, iv (pk &&& (3 : Int32)), iv (((pk.toUInt32 >>> ((2 : Int32) &&& 31).toUInt32).toInt32) &&& (3 : Int32)), iv 0, .unset, .unset, .unset, .unset, .unset] [])) (fun t k => XS.ifYes X0.here hx rfl (pc0 := 17) (pc' := 24) rfl (hb hby at_17) rfl (XT.i0_eq_t hc17_71) (by decide) (by decide) (XS.iconst X0.here hx rfl (hb hby at_24) (XS.istore X0.here hx rfl (hb hby at_25) rfl (l' := #[iv pk, iv pa, iv pb, iv pc', iv pq, iv (pk &&& (3 : Int32)), iv (((pk.toUInt32 >>> ((2 : Int32) &&& 31).toUInt32).toInt32) &&& (3 : Int32)), iv 0, .unset, .unset, .unset, .unset, .unset]) rfl k))) ?_
    exact J27_1 ((0 : Int32)) (by decide)
  · skip
    refine GoW.pull (V := s₁.setTop (mkF m 27 #[iv pk, iv pa, iv pb, iv pc', iv pq, iv (pk &&& (3 : Int32)), iv (((pk.toUInt32 >>> ((2 : Int32) &&& 31).toUInt32).toInt32) &&& (3 : Int32)), iv 1, .unset, .unset, .unset, .unset, .unset] [])) (fun t k => XS.ifNo X0.here hx rfl (hb hby at_17) rfl (XT.i0_eq_f hc17_71) (XS.iconst X0.here hx rfl (hb hby at_20) (XS.goto X0.here hx rfl (pc0 := 21) (pc' := 25) rfl (hb hby at_21) (by decide) (by decide) (XS.istore X0.here hx rfl (hb hby at_25) rfl (l' := #[iv pk, iv pa, iv pb, iv pc', iv pq, iv (pk &&& (3 : Int32)), iv (((pk.toUInt32 >>> ((2 : Int32) &&& 31).toUInt32).toInt32) &&& (3 : Int32)), iv 1, .unset, .unset, .unset, .unset, .unset]) rfl k)))) ?_
    exact J27_1 ((1 : Int32)) (by decide)
set_option maxRecDepth 65536 in
set_option maxHeartbeats 40000000 in
theorem comes_1 {Post : Tables → Env → Array Value → State → Outcome → State → Prop} (hpost : ∀ tb e args s v u, (limb_1_1.after args s (.returned v) u = true ∧ limb_1_2.after args s (.returned v) u = true ∧ True) → ReturnedEndW s (.returned v) u (Jvm.fieldLocs frame_1_writes args s ++ Jvm.arrayLocs frame_1_arrays args s ++ Jvm.staticLocs frame_1_statics s) 24 1408 → Post tb e args s (.returned v) u) :
    ArmFor flags0 classFile x code maxLocals ret World_1 tables_1 room_1 Calls_1 rest_1 Pre_1 Post := by
  intro l hfl _ _ p e ha hc hk s m args below hf hA hF happ hP
  obtain ⟨hcalls, hrest, hpre⟩ := hP
  obtain ⟨-, -, -, hnamed, -, -, -, hat⟩ := (Spec.applies_iff hf).mp happ
  obtain ⟨hg, hn⟩ := and_e (Cond.before_iff.mp (show (Jvm.Cond.and given_1 narrow_1).before args s = true from hpre))
  obtain ⟨y1, y2⟩ := and_e hg
  obtain ⟨y3, y4⟩ := and_e y2
  obtain ⟨y5, y6⟩ := and_e y4
  obtain ⟨y7, y8⟩ := and_e y6
  obtain ⟨y9, y10⟩ := and_e y8
  obtain ⟨w0, w1, w2, w3, w4, rfl⟩ : ∃ w0 w1 w2 w3 w4 : Value, args = #[w0, w1, w2, w3, w4] := by
    have hs : args.size = 5 := by simpa [Cond.value, given_1] using y1
    obtain ⟨L⟩ := args
    match L, hs with
    | [w0, w1, w2, w3, w4], _ => exact ⟨w0, w1, w2, w3, w4, rfl⟩
  have hw := fun d (hd : d ∈ tables_1) => atoms_spec (ws := Jvm.Cond.code x code maxLocals ret :: tables_1) hat d (List.mem_cons_of_mem _ hd)
  have hfit : Fit s := fun {y c} hc i hi => by
    obtain ⟨ha, rfl⟩ := Array.getElem?_eq_some_iff.mp hc
    have q := List.all_eq_true.mp ((Array.all_eq_true_iff_forall_mem.mp hF) _ (Array.getElem_mem ha)) i (List.mem_range.mpr hi)
    simpa [Array.getElem?_eq_getElem hi] using q
  obtain ⟨i0, ei0⟩ := is_v y3
  obtain rfl : w0 = (.int i0) := Option.some.inj ei0
  obtain ⟨i1, ei1⟩ := is_v y5
  obtain rfl : w1 = (.int i1) := Option.some.inj ei1
  obtain ⟨i2, ei2⟩ := is_v y7
  obtain rfl : w2 = (.int i2) := Option.some.inj ei2
  obtain ⟨i3, ei3⟩ := is_v y9
  obtain rfl : w3 = (.int i3) := Option.some.inj ei3
  obtain ⟨i4, ei4⟩ := is_v y10
  obtain rfl : w4 = (.int i4) := Option.some.inj ei4
  obtain ⟨n, o, h1, h2, h3, _, L, rfl, ⟨rfl, N⟩, hq⟩ := rm0 l s _ hw tables_1 i0 i1 i2 i3 i4 s.heap s.heap.size (Nat.le_refl _)  p e ha hc hk s m _ below hf ((Spec.applies_iff_loose hf).mp happ).1 ⟨rfl, State.Warmed39.refl s, rfl⟩ trivial
  refine ⟨n, _, h1, h2, h3, hpost _ _ _ _ _ _ ⟨Cond.after_iff.mpr rfl, Cond.after_iff.mpr (eq_i res_at (Term.int_eval (1)) rfl), trivial⟩ ⟨hq.1, hq.2.1, hq.2.2.1, (hq.2.2.2.sift fun y hy => Or.inr (N y hy)).mono (by decide) (by decide)⟩⟩
theorem main_1_1 : Claimed_1_1 := comes_1 fun _ _ _ _ _ _ h hF => ⟨h.1, hF⟩
theorem main_1_2 : Claimed_1_2 := comes_1 fun _ _ _ _ _ _ h hF => ⟨h.2.1, hF⟩
end Jvm.Pilot.@@N@@
namespace Jvm.Pilot.@@N@@
open Jvm Jvm.ClassFile Sem Op Lib Jvm.Free Jvm.Stand Jvm.Pilot.@@N@@.Jvm.D
/-! MADE BY PROGRAM (witnessworld.py) out of the Statement's table words and the real class files: 20 classes; the members and pool entries that the words name. The judged class is class 1, her method 1. -/
namespace start1
open Jvm.ClassFile
def u (s : String) : CpInfo := .utf8 (stringToUtf16 s)
/-- a pool by its gaps: so many unusable entries, then the entry; so many at the end -/
def gap : Nat → List CpInfo → List CpInfo
  | 0, r => r
  | n + 1, r => .unusable :: gap n r
def poolList (es : List (Nat × CpInfo)) (last : Nat) : List CpInfo := es.foldr (fun e r => gap e.1 (e.2 :: r)) (gap last [])
def pool (es : List (Nat × CpInfo)) (last : Nat) : Array CpInfo := ⟨poolList es last⟩
def fileOf (pool : Array CpInfo) (this : Nat) (attrs : Array Attribute := #[]) (ms : Array MethodInfo := #[]) (fl : Nat := 33) (sup : Nat := 0) (ifs : Array Nat := #[]) (fds : Array FieldInfo := #[]) : ClassFile where
  minorVersion := 0
  majorVersion := 65
  constantPool := pool
  accessFlags := fl
  thisClass := this
  superClass := sup
  interfaces := ifs
  fields := fds
  methods := ms
  attributes := attrs
def plain (name : String) (sup : Option ClassId) : Class where
  name := name
  kind := .ordinary
  loader := none
  accessFlags := 33
  super := sup
  interfaces := #[]
  cf := none
  fields := #[]
  methods := #[]
  instanceTypes := #[]
  staticTypes := #[]
  resolved := #[]
  callSites := []
  init := .initialized
  statics := none
  mirror := none

def pool0 : Array CpInfo := pool [(5, u "<init>"), (0, u "()V"), (1, .class_ 10), (1, u "java/lang/Object")] 113

def k0c0 : Code := { maxStack := 0, maxLocals := 1, code := object_method_1_code, exceptionTable := #[], attributes := #[] }
def k0m0 : Method := { name := "<init>", desc := "()V", sig := { parameters := [], returnType := none }, accessFlags := 1, code := some k0c0 }
/-- java/lang/Object -/
def k0 : Class := { plain "java/lang/Object" none with
  accessFlags := 33
  interfaces := #[]
  cf := some (fileOf pool0 8 #[] #[{ accessFlags := 1, nameIndex := 5, descriptorIndex := 6, attributes := #[] }] 33 0 #[] #[])
  fields := #[]
  methods := #[k0m0]
  instanceTypes := #[]
  staticTypes := #[]
  resolved := Array.replicate 124 none
  statics := none }

def pool1 : Array CpInfo := pool [(2, .class_ 4), (1, u "java/lang/Object"), (0, u "<init>"), (0, u "()V"), (0, .class_ 8), (0, u "com/example/latch/latch/engine/Index"), (0, .string 10), (0, u "i"), (0, .methodref 7 12), (0, .nameAndType 5 13), (0, u "(Ljava/lang/String;I[IZ)V"), (0, .methodref 7 15), (0, .nameAndType 16 17), (0, u "hasColumn"), (0, u "(I)Z"), (0, .class_ 19), (0, u "com/example/latch/latch/engine/IndexHasColumnPinLaw"), (2, u "law"), (0, u "(IIIII)Z")] 5

def k1m0 : Method := { name := "<init>", desc := "()V", sig := { parameters := [], returnType := none }, accessFlags := 2, code := none }
def k1c1 : Code := { maxStack := 6, maxLocals := 13, code := code, exceptionTable := #[], attributes := #[] }
def k1m1 : Method := { name := "law", desc := "(IIIII)Z", sig := { parameters := [.int, .int, .int, .int, .int], returnType := some .boolean }, accessFlags := 9, code := some k1c1 }
/-- com/example/latch/latch/engine/IndexHasColumnPinLaw -/
def k1 : Class := { plain "com/example/latch/latch/engine/IndexHasColumnPinLaw" (some 0) with
  accessFlags := 49
  interfaces := #[]
  cf := some (fileOf pool1 18 #[] #[{ accessFlags := 2, nameIndex := 5, descriptorIndex := 6, attributes := #[] }, { accessFlags := 9, nameIndex := 22, descriptorIndex := 23, attributes := #[] }] 49 2 #[] #[])
  fields := #[]
  methods := #[k1m0, k1m1]
  instanceTypes := #[]
  staticTypes := #[]
  resolved := Array.replicate 29 none
  statics := none }

def pool2 : Array CpInfo := pool [(1, .methodref 2 3), (0, .class_ 4), (0, .nameAndType 5 6), (0, u "java/lang/Object"), (0, u "<init>"), (0, u "()V"), (0, .class_ 8), (0, u "com/example/latch/latch/engine/KeyMap"), (0, .methodref 7 3), (0, .fieldref 11 12), (0, .class_ 13), (0, .nameAndType 14 15), (0, u "com/example/latch/latch/engine/Index"), (0, u "m_references"), (0, u "Lcom/example/latch/latch/engine/KeyMap;"), (0, .fieldref 11 17), (0, .nameAndType 18 19), (0, u "m_name"), (0, u "Ljava/lang/String;"), (0, .fieldref 11 21), (0, .nameAndType 22 23), (0, u "m_position"), (0, u "I"), (0, .fieldref 11 25), (0, .nameAndType 26 27), (0, u "m_columns"), (0, u "[I"), (0, .fieldref 11 29), (0, .nameAndType 30 31), (0, u "m_unique"), (0, u "Z"), (37, .class_ 70), (0, u "com/example/latch/latch/engine/Index$References"), (78, u "(Ljava/lang/String;I[IZ)V"), (9, u "hasColumn"), (0, u "(I)Z")] 19

def k2c0 : Code := { maxStack := 3, maxLocals := 5, code := prog_54_method_1_code, exceptionTable := #[], attributes := #[] }
def k2m0 : Method := { name := "<init>", desc := "(Ljava/lang/String;I[IZ)V", sig := { parameters := [(.object "java/lang/String"), .int, (.array .int), .boolean], returnType := none }, accessFlags := 0, code := some k2c0 }
def k2c1 : Code := { maxStack := 2, maxLocals := 6, code := prog_54_method_7_code, exceptionTable := #[], attributes := #[] }
def k2m1 : Method := { name := "hasColumn", desc := "(I)Z", sig := { parameters := [.int], returnType := some .boolean }, accessFlags := 0, code := some k2c1 }
/-- com/example/latch/latch/engine/Index -/
def k2 : Class := { plain "com/example/latch/latch/engine/Index" (some 0) with
  accessFlags := 32
  interfaces := #[]
  cf := some (fileOf pool2 11 #[.nestMembers #[69]] #[{ accessFlags := 0, nameIndex := 5, descriptorIndex := 149, attributes := #[] }, { accessFlags := 0, nameIndex := 159, descriptorIndex := 160, attributes := #[] }] 32 2 #[] #[{ accessFlags := 18, nameIndex := 18, descriptorIndex := 19, attributes := #[] }, { accessFlags := 18, nameIndex := 22, descriptorIndex := 23, attributes := #[] }, { accessFlags := 18, nameIndex := 26, descriptorIndex := 27, attributes := #[] }, { accessFlags := 18, nameIndex := 30, descriptorIndex := 31, attributes := #[] }, { accessFlags := 18, nameIndex := 14, descriptorIndex := 15, attributes := #[] }])
  fields := #[{ name := "m_name", type := (.object "java/lang/String"), accessFlags := 18, slot := 0, constantValue := 0 }, { name := "m_position", type := .int, accessFlags := 18, slot := 1, constantValue := 0 }, { name := "m_columns", type := (.array .int), accessFlags := 18, slot := 2, constantValue := 0 }, { name := "m_unique", type := .boolean, accessFlags := 18, slot := 3, constantValue := 0 }, { name := "m_references", type := (.object "com/example/latch/latch/engine/KeyMap"), accessFlags := 18, slot := 4, constantValue := 0 }]
  methods := #[k2m0, k2m1]
  instanceTypes := #[(.object "java/lang/String"), .int, (.array .int), .boolean, (.object "com/example/latch/latch/engine/KeyMap")]
  staticTypes := #[]
  resolved := Array.replicate 180 none
  statics := none }

def pool3 : Array CpInfo := pool [(1, .class_ 2), (0, u "java/io/Serializable"), (0, .class_ 4), (0, u "java/lang/Object")] 2

/-- java/io/Serializable -/
def k3 : Class := { plain "java/io/Serializable" (some 0) with
  accessFlags := 1537
  interfaces := #[]
  cf := some (fileOf pool3 1 #[] #[] 1537 3 #[] #[])
  fields := #[]
  methods := #[]
  instanceTypes := #[]
  staticTypes := #[]
  resolved := Array.replicate 7 none
  statics := none }

def pool4 : Array CpInfo := pool [(1, .class_ 2), (0, u "java/lang/Comparable"), (0, .class_ 4), (0, u "java/lang/Object")] 7

/-- java/lang/Comparable -/
def k4 : Class := { plain "java/lang/Comparable" (some 0) with
  accessFlags := 1537
  interfaces := #[]
  cf := some (fileOf pool4 1 #[] #[] 1537 3 #[] #[])
  fields := #[]
  methods := #[]
  instanceTypes := #[]
  staticTypes := #[]
  resolved := Array.replicate 12 none
  statics := none }

def pool5 : Array CpInfo := pool [(2, .class_ 4), (1, u "java/lang/CharSequence"), (42, .class_ 48), (0, u "java/lang/CharSequence$1CodePointIterator"), (10, .class_ 60), (0, u "java/lang/CharSequence$1CharIterator"), (5, .class_ 67), (0, u "java/lang/Object")] 63

/-- java/lang/CharSequence -/
def k5 : Class := { plain "java/lang/CharSequence" (some 0) with
  accessFlags := 1537
  interfaces := #[]
  cf := some (fileOf pool5 2 #[.nestMembers #[47, 59]] #[] 1537 66 #[] #[])
  fields := #[]
  methods := #[]
  instanceTypes := #[]
  staticTypes := #[]
  resolved := Array.replicate 131 none
  statics := none }

def pool6 : Array CpInfo := pool [(1, .class_ 2), (0, u "java/lang/constant/Constable"), (0, .class_ 4), (0, u "java/lang/Object")] 6

/-- java/lang/constant/Constable -/
def k6 : Class := { plain "java/lang/constant/Constable" (some 0) with
  accessFlags := 1537
  interfaces := #[]
  cf := some (fileOf pool6 1 #[] #[] 1537 3 #[] #[])
  fields := #[]
  methods := #[]
  instanceTypes := #[]
  staticTypes := #[]
  resolved := Array.replicate 11 none
  statics := none }

def pool7 : Array CpInfo := pool [(1, .class_ 2), (0, u "java/lang/constant/ConstantDesc"), (0, .class_ 4), (0, u "java/lang/Object")] 32

/-- java/lang/constant/ConstantDesc -/
def k7 : Class := { plain "java/lang/constant/ConstantDesc" (some 0) with
  accessFlags := 1537
  interfaces := #[]
  cf := some (fileOf pool7 1 #[] #[] 1537 3 #[] #[])
  fields := #[]
  methods := #[]
  instanceTypes := #[]
  staticTypes := #[]
  resolved := Array.replicate 37 none
  statics := none }

def pool8 : Array CpInfo := pool [(2, .class_ 4), (1, u "java/lang/Object"), (0, u "<init>"), (0, u "()V"), (3, .class_ 12), (1, u "java/lang/String"), (0, u "value"), (0, u "[B"), (2, u "coder"), (0, u "B"), (2, u "hash"), (0, u "I"), (2, u "hashIsZero"), (0, u "Z"), (13, u "COMPACT_STRINGS"), (534, .class_ 576), (0, u "java/lang/CharSequence"), (22, u "CASE_INSENSITIVE_ORDER"), (0, u "Ljava/util/Comparator;"), (500, u "serialPersistentFields"), (0, u "[Ljava/io/ObjectStreamField;"), (0, .class_ 1104), (0, u "java/lang/String$CaseInsensitiveComparator"), (1, .class_ 1107), (0, u "java/io/Serializable"), (0, .class_ 1109), (0, u "java/lang/Comparable"), (0, .class_ 1111), (0, u "java/lang/constant/Constable"), (0, .class_ 1113), (0, u "java/lang/constant/ConstantDesc"), (2, u "serialVersionUID"), (0, u "J"), (3, u "REPL"), (0, u "C"), (2, u "LATIN1"), (1, u "UTF16")] 323

def k8m0 : Method := { name := "<init>", desc := "()V", sig := { parameters := [], returnType := none }, accessFlags := 1, code := none }
/-- java/lang/String -/
def k8 : Class := { plain "java/lang/String" (some 0) with
  accessFlags := 49
  interfaces := #[3, 4, 5, 6, 7]
  cf := some (fileOf pool8 10 #[.nestMembers #[1103]] #[{ accessFlags := 1, nameIndex := 5, descriptorIndex := 6, attributes := #[] }] 49 2 #[1106, 1108, 575, 1110, 1112] #[{ accessFlags := 18, nameIndex := 13, descriptorIndex := 14, attributes := #[] }, { accessFlags := 18, nameIndex := 17, descriptorIndex := 18, attributes := #[] }, { accessFlags := 2, nameIndex := 21, descriptorIndex := 22, attributes := #[] }, { accessFlags := 2, nameIndex := 25, descriptorIndex := 26, attributes := #[] }, { accessFlags := 26, nameIndex := 1116, descriptorIndex := 1117, attributes := #[] }, { accessFlags := 24, nameIndex := 40, descriptorIndex := 26, attributes := #[] }, { accessFlags := 26, nameIndex := 1101, descriptorIndex := 1102, attributes := #[] }, { accessFlags := 26, nameIndex := 1121, descriptorIndex := 1122, attributes := #[] }, { accessFlags := 25, nameIndex := 599, descriptorIndex := 600, attributes := #[] }, { accessFlags := 24, nameIndex := 1125, descriptorIndex := 18, attributes := #[] }, { accessFlags := 24, nameIndex := 1127, descriptorIndex := 18, attributes := #[] }])
  fields := #[{ name := "value", type := (.array .byte), accessFlags := 18, slot := 0, constantValue := 0 }, { name := "coder", type := .byte, accessFlags := 18, slot := 1, constantValue := 0 }, { name := "hash", type := .int, accessFlags := 2, slot := 2, constantValue := 0 }, { name := "hashIsZero", type := .boolean, accessFlags := 2, slot := 3, constantValue := 0 }, { name := "serialVersionUID", type := .long, accessFlags := 26, slot := 0, constantValue := 0 }, { name := "COMPACT_STRINGS", type := .boolean, accessFlags := 24, slot := 1, constantValue := 0 }, { name := "serialPersistentFields", type := (.array (.object "java/io/ObjectStreamField")), accessFlags := 26, slot := 2, constantValue := 0 }, { name := "REPL", type := .char, accessFlags := 26, slot := 3, constantValue := 0 }, { name := "CASE_INSENSITIVE_ORDER", type := (.object "java/util/Comparator"), accessFlags := 25, slot := 4, constantValue := 0 }, { name := "LATIN1", type := .byte, accessFlags := 24, slot := 5, constantValue := 0 }, { name := "UTF16", type := .byte, accessFlags := 24, slot := 6, constantValue := 0 }]
  methods := #[k8m0]
  instanceTypes := #[(.array .byte), .byte, .int, .boolean]
  staticTypes := #[.long, .boolean, (.array (.object "java/io/ObjectStreamField")), .char, (.object "java/util/Comparator"), .byte, .byte]
  resolved := Array.replicate 1451 none
  statics := none }

def pool9 : Array CpInfo := pool [(1, .methodref 2 3), (0, .class_ 4), (0, .nameAndType 5 6), (0, u "java/lang/Object"), (0, u "<init>"), (0, u "()V"), (0, .class_ 8), (0, u "com/example/latch/latch/engine/KeyMap$Leaf"), (0, .methodref 7 3), (0, .fieldref 11 12), (0, .class_ 13), (0, .nameAndType 14 15), (0, u "com/example/latch/latch/engine/KeyMap"), (0, u "m_root"), (0, u "Lcom/example/latch/latch/engine/KeyMap$Node;"), (0, .fieldref 11 17), (0, .nameAndType 18 19), (0, u "m_first"), (0, u "Lcom/example/latch/latch/engine/KeyMap$Leaf;"), (0, .fieldref 11 21), (0, .nameAndType 22 19), (0, u "m_last"), (28, .class_ 52), (0, u "com/example/latch/latch/engine/KeyMap$Walk"), (28, u "I"), (5, .class_ 88), (0, u "com/example/latch/latch/engine/KeyMap$Inner"), (30, .class_ 121), (1, u "com/example/latch/latch/engine/KeyMap$Node"), (27, .class_ 150), (0, u "com/example/latch/latch/engine/KeyMap$2"), (3, .class_ 155), (0, u "com/example/latch/latch/engine/KeyMap$1"), (1, u "CAPACITY")] 73

def k9c0 : Code := { maxStack := 2, maxLocals := 2, code := prog_60_method_1_code, exceptionTable := #[], attributes := #[] }
def k9m0 : Method := { name := "<init>", desc := "()V", sig := { parameters := [], returnType := none }, accessFlags := 0, code := some k9c0 }
/-- com/example/latch/latch/engine/KeyMap -/
def k9 : Class := { plain "com/example/latch/latch/engine/KeyMap" (some 0) with
  accessFlags := 32
  interfaces := #[]
  cf := some (fileOf pool9 11 #[.nestMembers #[51, 87, 7, 119, 154, 149]] #[{ accessFlags := 0, nameIndex := 5, descriptorIndex := 6, attributes := #[] }] 32 2 #[] #[{ accessFlags := 26, nameIndex := 157, descriptorIndex := 81, attributes := #[] }, { accessFlags := 2, nameIndex := 14, descriptorIndex := 15, attributes := #[] }, { accessFlags := 2, nameIndex := 18, descriptorIndex := 19, attributes := #[] }, { accessFlags := 2, nameIndex := 22, descriptorIndex := 19, attributes := #[] }])
  fields := #[{ name := "CAPACITY", type := .int, accessFlags := 26, slot := 0, constantValue := 0 }, { name := "m_root", type := (.object "com/example/latch/latch/engine/KeyMap$Node"), accessFlags := 2, slot := 0, constantValue := 0 }, { name := "m_first", type := (.object "com/example/latch/latch/engine/KeyMap$Leaf"), accessFlags := 2, slot := 1, constantValue := 0 }, { name := "m_last", type := (.object "com/example/latch/latch/engine/KeyMap$Leaf"), accessFlags := 2, slot := 2, constantValue := 0 }]
  methods := #[k9m0]
  instanceTypes := #[(.object "com/example/latch/latch/engine/KeyMap$Node"), (.object "com/example/latch/latch/engine/KeyMap$Leaf"), (.object "com/example/latch/latch/engine/KeyMap$Leaf")]
  staticTypes := #[.int]
  resolved := ((Array.replicate 231 none).setIfInBounds 7 (some (.cls 11))).setIfInBounds 9 (some (.method ⟨11, 0⟩))
  statics := none }

def pool10 : Array CpInfo := pool [(1, .class_ 2), (0, u "com/example/latch/latch/engine/KeyMap"), (0, .methodref 4 5), (0, .class_ 6), (0, .nameAndType 7 8), (0, u "java/lang/Object"), (0, u "<init>"), (0, u "()V"), (0, .class_ 10), (0, u "com/example/latch/latch/engine/Key"), (0, .fieldref 12 13), (0, .class_ 14), (0, .nameAndType 15 16), (0, u "com/example/latch/latch/engine/KeyMap$Node"), (0, u "m_keys"), (0, u "[Lcom/example/latch/latch/engine/Key;"), (0, u "m_size"), (0, u "I"), (0, u "m_parent"), (0, u "Lcom/example/latch/latch/engine/KeyMap$Inner;")] 10

def k10c0 : Code := { maxStack := 2, maxLocals := 1, code := prog_65_method_1_code, exceptionTable := #[], attributes := #[] }
def k10m0 : Method := { name := "<init>", desc := "()V", sig := { parameters := [], returnType := none }, accessFlags := 2, code := some k10c0 }
/-- com/example/latch/latch/engine/KeyMap$Node -/
def k10 : Class := { plain "com/example/latch/latch/engine/KeyMap$Node" (some 0) with
  accessFlags := 1056
  interfaces := #[]
  cf := some (fileOf pool10 12 #[.nestHost 1] #[{ accessFlags := 2, nameIndex := 7, descriptorIndex := 8, attributes := #[] }] 1056 4 #[] #[{ accessFlags := 16, nameIndex := 15, descriptorIndex := 16, attributes := #[] }, { accessFlags := 0, nameIndex := 17, descriptorIndex := 18, attributes := #[] }, { accessFlags := 0, nameIndex := 19, descriptorIndex := 20, attributes := #[] }])
  fields := #[{ name := "m_keys", type := (.array (.object "com/example/latch/latch/engine/Key")), accessFlags := 16, slot := 0, constantValue := 0 }, { name := "m_size", type := .int, accessFlags := 0, slot := 1, constantValue := 0 }, { name := "m_parent", type := (.object "com/example/latch/latch/engine/KeyMap$Inner"), accessFlags := 0, slot := 2, constantValue := 0 }]
  methods := #[k10m0]
  instanceTypes := #[(.array (.object "com/example/latch/latch/engine/Key")), .int, (.object "com/example/latch/latch/engine/KeyMap$Inner")]
  staticTypes := #[]
  resolved := Array.replicate 31 none
  statics := none }

def pool11 : Array CpInfo := pool [(1, .class_ 2), (0, u "com/example/latch/latch/engine/KeyMap"), (0, .methodref 4 5), (0, .class_ 6), (0, .nameAndType 7 8), (0, u "com/example/latch/latch/engine/KeyMap$Node"), (0, u "<init>"), (0, u "()V"), (0, .class_ 10), (0, u "java/lang/Object"), (0, .fieldref 12 13), (0, .class_ 14), (0, .nameAndType 15 16), (0, u "com/example/latch/latch/engine/KeyMap$Leaf"), (0, u "m_values"), (0, u "[Ljava/lang/Object;"), (14, u "m_previous"), (0, u "Lcom/example/latch/latch/engine/KeyMap$Leaf;"), (0, u "m_next")] 10

def k11c0 : Code := { maxStack := 2, maxLocals := 1, code := prog_64_method_1_code, exceptionTable := #[], attributes := #[] }
def k11m0 : Method := { name := "<init>", desc := "()V", sig := { parameters := [], returnType := none }, accessFlags := 2, code := some k11c0 }
/-- com/example/latch/latch/engine/KeyMap$Leaf -/
def k11 : Class := { plain "com/example/latch/latch/engine/KeyMap$Leaf" (some 10) with
  accessFlags := 32
  interfaces := #[]
  cf := some (fileOf pool11 12 #[.nestHost 1] #[{ accessFlags := 2, nameIndex := 7, descriptorIndex := 8, attributes := #[] }] 32 4 #[] #[{ accessFlags := 16, nameIndex := 15, descriptorIndex := 16, attributes := #[] }, { accessFlags := 0, nameIndex := 31, descriptorIndex := 32, attributes := #[] }, { accessFlags := 0, nameIndex := 33, descriptorIndex := 32, attributes := #[] }])
  fields := #[{ name := "m_values", type := (.array (.object "java/lang/Object")), accessFlags := 16, slot := 3, constantValue := 0 }, { name := "m_previous", type := (.object "com/example/latch/latch/engine/KeyMap$Leaf"), accessFlags := 0, slot := 4, constantValue := 0 }, { name := "m_next", type := (.object "com/example/latch/latch/engine/KeyMap$Leaf"), accessFlags := 0, slot := 5, constantValue := 0 }]
  methods := #[k11m0]
  instanceTypes := #[(.array (.object "com/example/latch/latch/engine/Key")), .int, (.object "com/example/latch/latch/engine/KeyMap$Inner"), (.array (.object "java/lang/Object")), (.object "com/example/latch/latch/engine/KeyMap$Leaf"), (.object "com/example/latch/latch/engine/KeyMap$Leaf")]
  staticTypes := #[]
  resolved := Array.replicate 44 none
  statics := none }

def pool12 : Array CpInfo := pool [(2, .class_ 4), (1, u "java/lang/Object"), (5, .class_ 12), (1, u "com/example/latch/latch/engine/Key"), (0, u "m_values"), (0, u "[Ljava/lang/Object;"), (2, u "m_integer"), (0, u "Ljava/lang/Long;"), (6, u "m_number"), (0, u "J"), (2, u "NO_VALUES"), (0, u "Lcom/example/latch/latch/engine/Key;"), (20, u "SUPREMUM"), (77, .class_ 130), (0, u "java/lang/Comparable")] 26

/-- com/example/latch/latch/engine/Key -/
def k12 : Class := { plain "com/example/latch/latch/engine/Key" (some 0) with
  accessFlags := 32
  interfaces := #[4]
  cf := some (fileOf pool12 10 #[] #[] 32 2 #[129] #[{ accessFlags := 24, nameIndex := 51, descriptorIndex := 30, attributes := #[] }, { accessFlags := 26, nameIndex := 29, descriptorIndex := 30, attributes := #[] }, { accessFlags := 18, nameIndex := 13, descriptorIndex := 14, attributes := #[] }, { accessFlags := 18, nameIndex := 17, descriptorIndex := 18, attributes := #[] }, { accessFlags := 18, nameIndex := 25, descriptorIndex := 26, attributes := #[] }])
  fields := #[{ name := "SUPREMUM", type := (.object "com/example/latch/latch/engine/Key"), accessFlags := 24, slot := 0, constantValue := 0 }, { name := "NO_VALUES", type := (.object "com/example/latch/latch/engine/Key"), accessFlags := 26, slot := 1, constantValue := 0 }, { name := "m_values", type := (.array (.object "java/lang/Object")), accessFlags := 18, slot := 0, constantValue := 0 }, { name := "m_integer", type := (.object "java/lang/Long"), accessFlags := 18, slot := 1, constantValue := 0 }, { name := "m_number", type := .long, accessFlags := 18, slot := 2, constantValue := 0 }]
  methods := #[]
  instanceTypes := #[(.array (.object "java/lang/Object")), (.object "java/lang/Long"), .long]
  staticTypes := #[(.object "com/example/latch/latch/engine/Key"), (.object "com/example/latch/latch/engine/Key")]
  resolved := Array.replicate 157 none
  statics := none }

def pool13 : Array CpInfo := pool [(1, u "java/lang/Cloneable"), (0, .class_ 1), (0, u "java/lang/Object"), (0, .class_ 3)] 3

/-- java/lang/Cloneable -/
def k13 : Class := { plain "java/lang/Cloneable" (some 0) with
  accessFlags := 1537
  interfaces := #[]
  cf := some (fileOf pool13 2 #[] #[] 1537 4 #[] #[])
  fields := #[]
  methods := #[]
  instanceTypes := #[]
  staticTypes := #[]
  resolved := Array.replicate 8 none
  statics := none }

/-- the primitive byte -/
def k14 : Class := { plain "byte" none with kind := .primitive 'B', accessFlags := 0x411 }
/-- [B -/
def k15 : Class := { plain "[B" (some 0) with kind := .array 14 .byte, interfaces := #[13, 3], accessFlags := 1041 }

/-- the primitive int -/
def k16 : Class := { plain "int" none with kind := .primitive 'I', accessFlags := 0x411 }
/-- [I -/
def k17 : Class := { plain "[I" (some 0) with kind := .array 16 .int, interfaces := #[13, 3], accessFlags := 1041 }

/-- [Lcom/example/latch/latch/engine/Key; -/
def k18 : Class := { plain "[Lcom/example/latch/latch/engine/Key;" (some 0) with kind := .array 12 (.object "com/example/latch/latch/engine/Key"), interfaces := #[13, 3], accessFlags := 1041 }

/-- [Ljava/lang/Object; -/
def k19 : Class := { plain "[Ljava/lang/Object;" (some 0) with kind := .array 0 (.object "java/lang/Object"), interfaces := #[13, 3], accessFlags := 1041 }

def heap : Heap := #[]
def classes : Array Class := #[k0, k1, k2, k3, k4, k5, k6, k7, k8, k9, k10, k11, k12, k13, k14, k15, k16, k17, k18, k19]
def interned : List (Array UInt16 × Addr) := []
def slotsUsed : Nat := 0
def theMethod : MethodId := ⟨1, 1⟩
def args0 : Array Value := #[.int 2, .int 1, .int 3, .int 4, .int 5]
def aboutOver (below : List Frame) : State where
  vm := { classes := classes, interned := interned.toArray }
  heap := heap
  slotsUsed := slotsUsed
  threads := #[{ frames := .invoking theMethod args0 :: below }]
def below0 : List Frame := [.native { method := ⟨0, 0⟩, args := #[] }]
def about1 : State := aboutOver below0
def p0 : Program := .bare "" "" ""
def e0 : Env := launch0.env 0 0 0
theorem w_frames : about1.frames = Frame.invoking theMethod args0 :: below0 := rfl
set_option maxRecDepth 65536 in
theorem w_args : argsFit about1.vm theMethod args0 = true := by decide +kernel
set_option maxRecDepth 65536 in
theorem w_heap : heapFits about1 = true := by decide +kernel
set_option maxRecDepth 65536 in
theorem w_runnable : about1.curStatus? = some .runnable := by decide +kernel
set_option maxRecDepth 65536 in
theorem w_alone : about1.alone = true := by decide +kernel
set_option maxRecDepth 65536 in
theorem w_named : about1.methodNamed? x = some theMethod := by decide +kernel
set_option maxRecDepth 65536 in
theorem w_hears : about1.hears theMethod below0 = true := by decide +kernel
set_option maxRecDepth 65536 in
theorem w_ripe : about1.ripe theMethod args0 below0 = true := by decide +kernel
theorem w_running : about1.status = .running := rfl
set_option maxRecDepth 65536 in
theorem w_room : about1.hasRoom e0.platform room_1 = true :=
  launch0.hasRoom_least _ room_1 (by decide +kernel) (by decide +kernel) (by decide +kernel) (by decide +kernel) (by decide +kernel) (by decide +kernel)
theorem allAtoms_all (ts : List Jvm.Cond) (a : Array Jvm.Value) (st : Jvm.State) : (allAtoms ts).before a st = ts.all (fun c => c.before a st) := by
  induction ts with
  | nil => rfl
  | cons c t ih =>
    show (Jvm.Cond.and c (allAtoms t)).before a st = _
    rw [Jvm.Cond.before_and, ih, List.all_cons]
def words1 : List Jvm.Cond := Jvm.Cond.code x code maxLocals ret :: tables_1
/-- a 'code' word, met by the world's own term for the bytes: nothing is compared byte by byte -/
theorem code_word {y : MethodName} {bytes : ByteArray} {mx : Nat} {rt : Option FieldType} {a : Array Value} {s : State} {m : MethodId} {meth : Method} {c : Code} (h1 : s.methodNamed? y = some m) (h2 : s.vm.method? m = some meth) (h3 : meth.code = some c) (h4 : c.code = bytes)
    (h5 : (c.maxLocals == mx && c.exceptionTable.isEmpty && decide (c.maxStack ≤ mostOperands) && decide (meth.sig.returnType = rt) && !meth.locks && decide (parseMethodDescriptor y.desc = some meth.sig)) = true) : (Jvm.Cond.code y bytes mx rt).before a s = true := by
  simp only [Bool.and_eq_true, beq_iff_eq, Bool.not_eq_true', decide_eq_true_eq] at h5
  obtain ⟨⟨⟨⟨⟨g1, g2⟩, g3⟩, g4⟩, g5⟩, g6⟩ := h5
  simp [Cond.before, Cond.holds, Cond.value, h1, h2, h3, h4, g1, g2, g3, g4, g5, g6]
def isCode : Jvm.Cond → Bool
  | .code _ _ _ _ => true
  | _ => false
theorem all_split {L : List Jvm.Cond} {P : Jvm.Cond → Bool} (h1 : L.all (fun c => isCode c || P c) = true) (h2 : ∀ c ∈ L.filter isCode, P c = true) : L.all P = true := by
  refine List.all_eq_true.mpr fun c hc => ?_
  have h := List.all_eq_true.mp h1 c hc
  rcases Bool.eq_false_or_eq_true (isCode c) with hi | hi
  · exact h2 c (List.mem_filter.mpr ⟨hc, hi⟩)
  · simpa [hi] using h
set_option maxRecDepth 65536 in
theorem w_c0 : (Jvm.Cond.code x code maxLocals ret).before args0 about1 = true := code_word (m := ⟨1, 1⟩) (meth := k1m1) (c := k1c1) (by decide +kernel) rfl rfl rfl (by decide +kernel)
set_option maxRecDepth 65536 in
theorem w_c1 : (Jvm.Cond.code ({ cls := "com/example/latch/latch/engine/Index", name := "<init>", desc := "(Ljava/lang/String;I[IZ)V" } : Jvm.MethodName) prog_54_method_1_code (5 : Nat) (Option.none : Option Jvm.ClassFile.FieldType)).before args0 about1 = true := code_word (m := ⟨2, 0⟩) (meth := k2m0) (c := k2c0) (by decide +kernel) rfl rfl rfl (by decide +kernel)
set_option maxRecDepth 65536 in
theorem w_c2 : (Jvm.Cond.code ({ cls := "java/lang/Object", name := "<init>", desc := "()V" } : Jvm.MethodName) object_method_1_code (1 : Nat) (Option.none : Option Jvm.ClassFile.FieldType)).before args0 about1 = true := code_word (m := ⟨0, 0⟩) (meth := k0m0) (c := k0c0) (by decide +kernel) rfl rfl rfl (by decide +kernel)
set_option maxRecDepth 65536 in
theorem w_c3 : (Jvm.Cond.code ({ cls := "com/example/latch/latch/engine/KeyMap", name := "<init>", desc := "()V" } : Jvm.MethodName) prog_60_method_1_code (2 : Nat) (Option.none : Option Jvm.ClassFile.FieldType)).before args0 about1 = true := code_word (m := ⟨9, 0⟩) (meth := k9m0) (c := k9c0) (by decide +kernel) rfl rfl rfl (by decide +kernel)
set_option maxRecDepth 65536 in
theorem w_c4 : (Jvm.Cond.code ({ cls := "com/example/latch/latch/engine/KeyMap$Leaf", name := "<init>", desc := "()V" } : Jvm.MethodName) prog_64_method_1_code (1 : Nat) (Option.none : Option Jvm.ClassFile.FieldType)).before args0 about1 = true := code_word (m := ⟨11, 0⟩) (meth := k11m0) (c := k11c0) (by decide +kernel) rfl rfl rfl (by decide +kernel)
set_option maxRecDepth 65536 in
theorem w_c5 : (Jvm.Cond.code ({ cls := "com/example/latch/latch/engine/KeyMap$Node", name := "<init>", desc := "()V" } : Jvm.MethodName) prog_65_method_1_code (1 : Nat) (Option.none : Option Jvm.ClassFile.FieldType)).before args0 about1 = true := code_word (m := ⟨10, 0⟩) (meth := k10m0) (c := k10c0) (by decide +kernel) rfl rfl rfl (by decide +kernel)
set_option maxRecDepth 65536 in
theorem w_c6 : (Jvm.Cond.code ({ cls := "com/example/latch/latch/engine/Index", name := "hasColumn", desc := "(I)Z" } : Jvm.MethodName) prog_54_method_7_code (6 : Nat) (Option.some Jvm.ClassFile.FieldType.boolean)).before args0 about1 = true := code_word (m := ⟨2, 1⟩) (meth := k2m1) (c := k2c1) (by decide +kernel) rfl rfl rfl (by decide +kernel)
def codes1 : List Jvm.Cond := [Jvm.Cond.code x code maxLocals ret, Jvm.Cond.code ({ cls := "com/example/latch/latch/engine/Index", name := "<init>", desc := "(Ljava/lang/String;I[IZ)V" } : Jvm.MethodName) prog_54_method_1_code (5 : Nat) (Option.none : Option Jvm.ClassFile.FieldType), Jvm.Cond.code ({ cls := "java/lang/Object", name := "<init>", desc := "()V" } : Jvm.MethodName) object_method_1_code (1 : Nat) (Option.none : Option Jvm.ClassFile.FieldType), Jvm.Cond.code ({ cls := "com/example/latch/latch/engine/KeyMap", name := "<init>", desc := "()V" } : Jvm.MethodName) prog_60_method_1_code (2 : Nat) (Option.none : Option Jvm.ClassFile.FieldType), Jvm.Cond.code ({ cls := "com/example/latch/latch/engine/KeyMap$Leaf", name := "<init>", desc := "()V" } : Jvm.MethodName) prog_64_method_1_code (1 : Nat) (Option.none : Option Jvm.ClassFile.FieldType), Jvm.Cond.code ({ cls := "com/example/latch/latch/engine/KeyMap$Node", name := "<init>", desc := "()V" } : Jvm.MethodName) prog_65_method_1_code (1 : Nat) (Option.none : Option Jvm.ClassFile.FieldType), Jvm.Cond.code ({ cls := "com/example/latch/latch/engine/Index", name := "hasColumn", desc := "(I)Z" } : Jvm.MethodName) prog_54_method_7_code (6 : Nat) (Option.some Jvm.ClassFile.FieldType.boolean)]
set_option maxRecDepth 65536 in
theorem codes_eq : words1.filter isCode = codes1 := rfl
theorem w_codes : ∀ c ∈ words1.filter isCode, c.before args0 about1 = true := by
  rw [codes_eq]
  intro c hc
  simp only [codes1, List.mem_cons, List.not_mem_nil, or_false] at hc
  rcases hc with rfl | rfl | rfl | rfl | rfl | rfl | rfl
  · exact w_c0
  · exact w_c1
  · exact w_c2
  · exact w_c3
  · exact w_c4
  · exact w_c5
  · exact w_c6
set_option maxRecDepth 65536 in
theorem w_t1 : (words1.take 24).all (fun c => isCode c || c.before args0 about1) = true := by decide +kernel
set_option maxRecDepth 65536 in
theorem w_t2 : ((words1.drop 24).take 24).all (fun c => isCode c || c.before args0 about1) = true := by decide +kernel
set_option maxRecDepth 65536 in
theorem w_t3 : ((words1.drop 24).drop 24).all (fun c => isCode c || c.before args0 about1) = true := by decide +kernel
theorem w_tables : (allAtoms (Jvm.Cond.code x code maxLocals ret :: tables_1)).before args0 about1 = true := by
  rw [allAtoms_all]
  show words1.all (fun c => c.before args0 about1) = true
  refine all_split ?_ w_codes
  rw [← List.take_append_drop 24 words1, List.all_append, w_t1, ← List.take_append_drop 24 (words1.drop 24), List.all_append, w_t2, w_t3]
  rfl
set_option maxRecDepth 65536 in
theorem w_case : (Jvm.Cond.and given_1 narrow_1).before args0 about1 = true := by decide +kernel
theorem w_applies : (headSpec (Jvm.Cond.code x code maxLocals ret :: tables_1) room_1).applies x e0.platform about1 = true :=
  (Spec.applies_iff w_frames).mpr ⟨w_running, w_runnable, w_alone, w_named, w_hears, w_ripe, w_room, w_tables⟩
theorem atStart : AtStart classFile x code maxLocals ret World_1 tables_1 room_1 Calls_1 rest_1 Pre_1 launch0 p0 e0 about1 theMethod args0 below0 :=
  ⟨lists_1, trivial, launch0.admits_env _ _ _, launch0.least_env, fairChoices_fair.cas, fairChoices_fair.clock, w_frames, w_args, w_heap, w_applies, trivial, trivial, w_case⟩
end start1
theorem witness_1 : WitnessClaimed_1 := ⟨start1.p0, start1.e0, start1.about1, start1.theMethod, start1.args0, start1.below0, start1.atStart⟩
end Jvm.Pilot.@@N@@
