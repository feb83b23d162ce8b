import JvmDerived
import JvmDerived.Pilot.@@N@@Statement
import JvmDerived.Pilot.@@N@@Code
set_option linter.unusedVariables false
set_option linter.unusedSimpArgs false
namespace Jvm.Pilot.@@N@@
open Jvm Jvm.ClassFile Sem Op Lib Jvm.Free Jvm.Stand Jvm.LawKit Jvm.RoadKit Bundle Jvm.Pilot.@@N@@.Jvm.D
section Own
variable {p : Program} {l : Launch} {e : Env} {R : Room} {s : State} {m : MethodId} {args : Array Value} {below : List Frame} {meth : Method} {c : Code} {T : State} {locs : List Loc} {cells slots : Nat} {P : Option Value → Heap → List Loc → Prop} {kk nn : Nat}
/-- from U a run comes to an end at which P holds, within kk cells and nn slots -/
def Go (p : Program) (e : Env) (below : List Frame) (s : State) (P : Option Value → Heap → List Loc → Prop) (kk nn : Nat) (U : State) : Prop :=
  ∃ s₂ o, Steps p.tables e below U s₂ ∧ s₂.status = .running ∧ Ended s₂ below o ∧ ∃ v L, o = .returned v ∧ P v s₂.heap L ∧ FrameEnd s o s₂ L kk nn
theorem Go.pull {U V : State} (h : ∀ t, Steps p.tables e below V t → Steps p.tables e below U t) (g : Go p e below s P kk nn V) : Go p e below s P kk nn U := by
  obtain ⟨s2, o, h1, h2⟩ := g
  exact ⟨s2, o, h _ h1, h2⟩
theorem Go.fin (X : Stand p l e R s m args below meth c T locs cells slots) {f : JFrame} {v : Option Value} (hlk : meth.locks = false) (hv : meth.sig.returnType = none → v = none)
    (hs : ∀ fs, (∀ (f : JFrame) (acts : List Action), f.method = m → f.locked = none → f.entered = [] → (doReturn e (T.setTop f) acts v).1 = T.setFrames fs) → Steps p.tables e below (T.setTop f) (T.setFrames fs))
    (hP : P v T.heap locs) (hk : cells ≤ kk) (hn : slots ≤ nn) : Go p e below s P kk nn (T.setTop f) := by
  obtain ⟨fs, hr, hrun, hended, hW, hsame⟩ := X.leave (v := v) hv hlk
  exact ⟨_, _, hs fs hr, hrun, hended, _, _, rfl, hP, ⟨_, rfl⟩, hW, hsame.mono hk hn⟩
theorem Go.retN (X : Stand p l e R s m args below meth c T locs cells slots) (hx : p.tables.exec = Jvm.exec) (hlk : meth.locks = false) {pc : Nat} {Ls : Array Slot} {z : Int32} {t : FieldType} {rest : List Value} (hret : meth.sig.returnType = some t) (ht : t = .boolean ∨ t = .byte ∨ t = .char ∨ t = .short)
    (hd : decode c.code pc = .ok (.ireturn, 1)) (hP : P (some (.int (nar t z))) T.heap locs) (hk : cells ≤ kk) (hn : slots ≤ nn) : Go p e below s P kk nn (T.setTop (mkF m pc Ls (.int z :: rest))) :=
  Go.fin X hlk (fun h => by rw [hret] at h; cases h) (fun fs hr => RoadKit.retN X hx hret ht hd hr) hP hk hn
theorem Go.retI (X : Stand p l e R s m args below meth c T locs cells slots) (hx : p.tables.exec = Jvm.exec) (hlk : meth.locks = false) {pc : Nat} {Ls : Array Slot} {z : Int32} {rest : List Value} (hret : meth.sig.returnType = some .int)
    (hd : decode c.code pc = .ok (.ireturn, 1)) (hP : P (some (.int z)) T.heap locs) (hk : cells ≤ kk) (hn : slots ≤ nn) : Go p e below s P kk nn (T.setTop (mkF m pc Ls (.int z :: rest))) :=
  Go.fin X hlk (fun h => by rw [hret] at h; cases h) (fun fs hr => retOut X hx hret rfl (Or.inl ⟨rfl, Or.inl rfl, z, rfl⟩) hd hr) hP hk hn
theorem Go.retJ (X : Stand p l e R s m args below meth c T locs cells slots) (hx : p.tables.exec = Jvm.exec) (hlk : meth.locks = false) {pc : Nat} {Ls : Array Slot} {z : Int64} {rest : List Value} (hret : meth.sig.returnType = some .long)
    (hd : decode c.code pc = .ok (.lreturn, 1)) (hP : P (some (.long z)) T.heap locs) (hk : cells ≤ kk) (hn : slots ≤ nn) : Go p e below s P kk nn (T.setTop (mkF m pc Ls (.long z :: rest))) :=
  Go.fin X hlk (fun h => by rw [hret] at h; cases h) (fun fs hr => retOut X hx hret rfl (Or.inr (Or.inl ⟨rfl, rfl, z, rfl⟩)) hd hr) hP hk hn
theorem Go.retR (X : Stand p l e R s m args below meth c T locs cells slots) (hx : p.tables.exec = Jvm.exec) (hlk : meth.locks = false) {pc : Nat} {Ls : Array Slot} {w : Value} {t : FieldType} {rest : List Value} (hret : meth.sig.returnType = some t) (hna : narrow t w = w) (ht : t.isReference = true) (hw : w.isRef = true)
    (hd : decode c.code pc = .ok (.areturn, 1)) (hP : P (some w) T.heap locs) (hk : cells ≤ kk) (hn : slots ≤ nn) : Go p e below s P kk nn (T.setTop (mkF m pc Ls (w :: rest))) :=
  Go.fin X hlk (fun h => by rw [hret] at h; cases h) (fun fs hr => retOut X hx hret hna (Or.inr (Or.inr (Or.inr (Or.inr ⟨rfl, ht, hw⟩)))) hd hr) hP hk hn
theorem Go.ret0 (X : Stand p l e R s m args below meth c T locs cells slots) (hx : p.tables.exec = Jvm.exec) (hlk : meth.locks = false) {pc : Nat} {Ls : Array Slot} (hret : meth.sig.returnType = none)
    (hd : decode c.code pc = .ok (.return_, 1)) (hP : P none T.heap locs) (hk : cells ≤ kk) (hn : slots ≤ nn) : Go p e below s P kk nn (T.setTop (mkF m pc Ls [])) :=
  Go.fin X hlk (fun _ => rfl) (fun fs hr => X.returnOut hx hret hd hr) hP hk hn
theorem own_lsw {tb : Tables} [Ours tb] {e : Env} {below : List Frame} {T target : State} {m : MethodId} {c : Code} {g : JFrame} (h : At T m c below) (hx : tb.exec = Jvm.exec) (hg : g.method = m) {dflt : Int} {prs : Array (Int × Int)} {len : Nat} {o : Int} {pc0 pc' : Nat} (hpc : g.pc = pc0)
    (hd : decode c.code g.pc = .ok (.lookupswitch dflt prs, len)) {i : Int32} {rest : List Value} (hs : g.stack = .int i :: rest) (hord : (prs.toList.zip (prs.toList.drop 1)).all (fun (a, next) => a.1 < next.1) = true) (hoff : lookupswitch.offset prs.toList dflt i.toInt = o)
    (ho : 0 ≤ (pc0 : Int) + o) (hp : ((pc0 : Int) + o).toNat = pc') (hr : Steps tb e below (T.setTop { g with pc := pc', stack := rest }) target) : Steps tb e below (T.setTop g) target := by
  subst hg hpc hp hoff
  jvm_step h [h.top, hx, hd, hs, ho, lookupswitch.wp_chain]
  exact ⟨by simpa using hord, hr⟩
theorem own_eq_i {t : Term} {n : Int32} {first : State} {o : Option Outcome} {idx : List Nat} (h : (Cond.eq t (.int n)).value args first o s idx = some true) : t.eval args first o idx s = some (.int n) := by
  obtain ⟨x, y, e1, e2, k1, k2⟩ := cmp_v (Or.inl h)
  cases (Term.int_eval n).symm.trans e2
  obtain ⟨z, rfl⟩ : ∃ z, x = .int z := k2
  rw [e1, gotT (Cond.eq_ints e1 e2) h]
theorem own_eq_l {t : Term} {n : Int64} {first : State} {o : Option Outcome} {idx : List Nat} (h : (Cond.eq t (.long n)).value args first o s idx = some true) : t.eval args first o idx s = some (.long n) := by
  obtain ⟨x, y, e1, e2, k1, k2⟩ := cmp_v (Or.inl h)
  have e3 : (Term.long n).eval args first o idx s = some (.long n) := rfl
  cases e3.symm.trans e2
  obtain ⟨z, rfl⟩ : ∃ z, x = .long z := k2
  rw [e1, gotT (eq_L e1 e2) h]
theorem own_eq_r {t u : Term} {a : Addr} {first : State} {o : Option Outcome} {idx : List Nat} (hu : u.eval args first o idx s = some (.ref a)) (h : (Cond.eq t u).value args first o s idx = some true) : t.eval args first o idx s = some (.ref a) := by
  obtain ⟨x, y, e1, e2, k1, k2⟩ := cmp_v (Or.inl h)
  cases hu.symm.trans e2
  have k3 : (Value.ref a).isRef = true ∧ x.isRef = true := k2
  rw [e1, gotT (eq_R e1 e2 k3.2 rfl) h]
theorem own_sta_keep {Z : State} {h h' : Heap} {C n d : String} {w : Value} {ws : List Addr} (F : Sta Z h C n d w) (K : Keep h h' ws) (q : ∀ x ∈ ws, ∃ c : Cell, h[x]? = some c ∧ ∀ q, c.vm ≠ .statics q) : Sta Z h' C n d w := by
  obtain ⟨cf, i, k, f, st, cell, h1, h2, h3, h4, h5, h6, h7⟩ := F
  refine ⟨cf, i, k, f, st, cell, h1, h2, h3, h4, K.2.1 st cell h5 (fun hm => ?_), h6, h7⟩
  obtain ⟨c, hc, hq⟩ := q st hm
  cases h5.symm.trans hc
  cases hv : cell.vm with
  | statics r => exact hq r hv
  | _ => rw [hv] at h6; cases h6
end Own
theorem pd_0 : parseMethodDescriptor "()V" = some ⟨[], none⟩ := by decide +kernel
theorem pd_1 : parseMethodDescriptor "(ZZ)V" = some ⟨[.boolean, .boolean], none⟩ := by decide +kernel
theorem pd_2 : parseMethodDescriptor "()Z" = some ⟨[], some .boolean⟩ := by decide +kernel
def own_any (pa pb : Int32) : Int32 := if pa = 0 then (if pb = 0 then 0 else 1) else 1
theorem own_and3 (x : Int32) {v : Int32} (h : (x &&& (3 : Int32)) = v) : v = 0 ∨ v = 1 ∨ v = 2 ∨ v = 3 := by
  subst h
  have h1 : (x &&& (3 : Int32)).toInt = x.toInt % (2 ^ 2 : Nat) := c_mask x 3 2 (by decide) (by decide)
  have h2 : x.toInt % (2 ^ 2 : Nat) = 0 ∨ x.toInt % (2 ^ 2 : Nat) = 1 ∨ x.toInt % (2 ^ 2 : Nat) = 2 ∨ x.toInt % (2 ^ 2 : Nat) = 3 := by omega
  rcases h2 with h2 | h2 | h2 | h2
  · exact (Or.inl (Int32.toInt_inj.mp (by rw [h1, h2] <;> rfl)))
  · exact (Or.inr (Or.inl (Int32.toInt_inj.mp (by rw [h1, h2] <;> rfl))))
  · exact (Or.inr (Or.inr (Or.inl (Int32.toInt_inj.mp (by rw [h1, h2] <;> rfl)))))
  · exact (Or.inr (Or.inr (Or.inr (Int32.toInt_inj.mp (by rw [h1, h2] <;> rfl)))))
theorem dR_0 : decode jdk_30_method_1_code 0 = .ok (.aload_n 0, 1) := by decide +kernel
theorem dR_1 : decode jdk_30_method_1_code 1 = .ok (.invokespecial 1, 3) := by decide +kernel
theorem dR_4 : decode jdk_30_method_1_code 4 = .ok (.return_, 1) := by decide +kernel
theorem efR (m : MethodId) (x0 : Addr) : entryFrame m #[(.ref x0)] 1 = mkF m 0 #[rv x0] [] := by first | (simp [entryFrame, mkF, argsToLocals, Value.category]; done) | rfl
theorem pn_java_lang_Record : plainName "java/lang/Record" = true := by first | (simp [plainName, overriddenIn]; done) | decide +kernel
def QR (Z : State) (a : Addr) (h0 : Heap) (n0 : Nat) (v : Option Value) (h : Heap) (L : List Loc) : Prop := v = none ∧ Fr n0 L ∧ h = h0
set_option maxRecDepth 65536 in
set_option maxHeartbeats 40000000 in
theorem rmR (l : Launch) (Z : State) (a0 : Array Value) (hw : ∀ d ∈ tables_1, d.before a0 Z = true) (ws : List Jvm.Cond) (a : Addr) (h0 : Heap) (n0 : Nat) :
    MetFree l (⟨"java/lang/Record", "<init>", "()V"⟩ : MethodName) (head1 (Jvm.Cond.code (⟨"java/lang/Record", "<init>", "()V"⟩ : MethodName) jdk_30_method_1_code 1 none :: ws) ({ frames := 1, cells := 0, slots := 0, locals := 12 } : Room)) (fun as' U => as' = #[(.ref a)] ∧ Z.Warmed39 U.vm ∧ U.heap = h0) (fun _ _ _ _ _ => True) (fun _ U o U' => ∃ v L, o = .returned v ∧ QR Z a h0 n0 v U'.heap L ∧ FrameEnd U o U' L ({ frames := 1, cells := 0, slots := 0, locals := 12 } : Room).cells ({ frames := 1, cells := 0, slots := 0, locals := 12 } : Room).slots) := by
  refine MetFree.of_bodySF (plainFor_of_name pn_java_lang_Record) hisR ?_
  intro p e s m args below meth c s₁ Bd hml0 hP hK
  obtain ⟨rfl, hZ, hh⟩ := hP
  have hx := Bd.exec
  have hby := Bd.bytes
  have hml : c.maxLocals = 1 := hml0
  have hown : s.vm.findClass "java/lang/Record" = some m.cls := findClass_of_methodNamed Bd.named
  have hnm := (name_of_methodNamed Bd.named Bd.method).1
  have X0 : Stand p l e ({ frames := 1, cells := 0, slots := 0, locals := 12 } : Room) s m #[(.ref a)] below meth c s₁ [] 0 0 := Stand.of_body Bd
  have e0 : s₁.heap = h0 := by rw [← hh, Bd.state]; rfl
  have N0 := Fr.nil n0
  show Go p e below s (fun v h L => QR Z a h0 n0 v h L) 0 0 _
  refine Go.pull (V := s₁.setTop (mkF m 0 #[rv a] [])) (fun t k => castTop (efR m a) k) ?_
  refine Go.pull (V := s₁.setTop (mkF m 1 #[rv a] [(.ref a)])) (fun t k => XS.aloadN X0.here hx rfl (hb hby dR_0) rfl rfl k) ?_
  obtain ⟨T1, X1, e1, st1⟩ := initO X0 hx hZ hown (hw _ (List.mem_of_getElem? (i := 11) rfl)) (hw _ (List.mem_of_getElem? (i := 12) rfl)) (hw _ (List.mem_of_getElem? (i := 13) rfl)) e0 (g := (mkF m 1 #[rv a] [(.ref a)])) rfl (by rw [hml]; rfl) rfl (hb hby dR_1) (by decide) (W := 0) (by show 2 * 0 + _ ≤ _; exact Nat.le_of_eq rfl) (by decide)
  refine Go.pull (V := T1.setTop (mkF m 4 #[rv a] [])) st1 ?_
  exact Go.ret0 X1 hx Bd.notSynchronized Bd.returns (hb hby dR_4) ⟨rfl, N0, e1⟩ (by decide) (by decide)
theorem dI_0 : decode prog_2_method_1_code 0 = .ok (.aload_n 0, 1) := by decide +kernel
theorem dI_1 : decode prog_2_method_1_code 1 = .ok (.invokespecial 1, 3) := by decide +kernel
theorem dI_4 : decode prog_2_method_1_code 4 = .ok (.aload_n 0, 1) := by decide +kernel
theorem dI_5 : decode prog_2_method_1_code 5 = .ok (.iload_n 1, 1) := by decide +kernel
theorem dI_6 : decode prog_2_method_1_code 6 = .ok (.putfield 7, 3) := by decide +kernel
theorem dI_9 : decode prog_2_method_1_code 9 = .ok (.aload_n 0, 1) := by decide +kernel
theorem dI_10 : decode prog_2_method_1_code 10 = .ok (.iload_n 2, 1) := by decide +kernel
theorem dI_11 : decode prog_2_method_1_code 11 = .ok (.putfield 13, 3) := by decide +kernel
theorem dI_14 : decode prog_2_method_1_code 14 = .ok (.return_, 1) := by decide +kernel
theorem efI (m : MethodId) (x0 : Addr) (x1 : Int32) (x2 : Int32) : entryFrame m #[(.ref x0), (.int x1), (.int x2)] 3 = mkF m 0 #[rv x0, iv x1, iv x2] [] := by first | (simp [entryFrame, mkF, argsToLocals, Value.category]; done) | rfl
theorem pn_com_example_disburse_disburse_core_Account_Holds : plainName "com/example/disburse/disburse/core/Account$Holds" = true := by first | (simp [plainName, overriddenIn]; done) | decide +kernel
def QI (Z : State) (a : Addr) (pa : Int32) (pb : Int32) (ua : Value) (ub : Value) (h0 : Heap) (n0 : Nat) (v : Option Value) (h : Heap) (L : List Loc) : Prop := v = none ∧ Fr n0 L ∧ Keep h0 h [a] ∧ Fld Z h a "com/example/disburse/disburse/core/Account$Holds" "frozen" "Z" (.int pa) ∧ Fld Z h a "com/example/disburse/disburse/core/Account$Holds" "verificationRequired" "Z" (.int pb)
set_option maxRecDepth 65536 in
set_option maxHeartbeats 40000000 in
theorem rmI (l : Launch) (Z : State) (a0 : Array Value) (hw : ∀ d ∈ tables_1, d.before a0 Z = true) (ws : List Jvm.Cond) (a : Addr) (pa : Int32) (pb : Int32) (ua : Value) (ub : Value) (h0 : Heap) (n0 : Nat) (g_a : n0 ≤ a) (Ea : Exa Z h0 a "com/example/disburse/disburse/core/Account$Holds") (Fu : Fld Z h0 a "com/example/disburse/disburse/core/Account$Holds" "frozen" "Z" ua) (Fv : Fld Z h0 a "com/example/disburse/disburse/core/Account$Holds" "verificationRequired" "Z" ub) (hpa : nar .boolean pa = pa) (hpb : nar .boolean pb = pb) :
    MetFree l (⟨"com/example/disburse/disburse/core/Account$Holds", "<init>", "(ZZ)V"⟩ : MethodName) (head1 (Jvm.Cond.code (⟨"com/example/disburse/disburse/core/Account$Holds", "<init>", "(ZZ)V"⟩ : MethodName) prog_2_method_1_code 3 none :: ws) ({ frames := 2, cells := 0, slots := 0, locals := 24 } : Room)) (fun as' U => as' = #[(.ref a), (.int pa), (.int pb)] ∧ Z.Warmed39 U.vm ∧ U.heap = h0) (fun _ _ _ _ _ => True) (fun _ U o U' => ∃ v L, o = .returned v ∧ QI Z a pa pb ua ub h0 n0 v U'.heap L ∧ FrameEnd U o U' L ({ frames := 2, cells := 0, slots := 0, locals := 24 } : Room).cells ({ frames := 2, cells := 0, slots := 0, locals := 24 } : Room).slots) := by
  refine MetFree.of_bodySF (plainFor_of_name pn_com_example_disburse_disburse_core_Account_Holds) hisR ?_
  intro p e s m args below meth c s₁ Bd hml0 hP hK
  obtain ⟨rfl, hZ, hh⟩ := hP
  have hx := Bd.exec
  have hby := Bd.bytes
  have hml : c.maxLocals = 3 := hml0
  have hown : s.vm.findClass "com/example/disburse/disburse/core/Account$Holds" = some m.cls := findClass_of_methodNamed Bd.named
  have hnm := (name_of_methodNamed Bd.named Bd.method).1
  have X0 : Stand p l e ({ frames := 2, cells := 0, slots := 0, locals := 24 } : Room) s m #[(.ref a), (.int pa), (.int pb)] below meth c s₁ [] 0 0 := Stand.of_body Bd
  have e0 : s₁.heap = h0 := by rw [← hh, Bd.state]; rfl
  have N0 := Fr.nil n0
  show Go p e below s (fun v h L => QI Z a pa pb ua ub h0 n0 v h L) 0 0 _
  refine Go.pull (V := s₁.setTop (mkF m 0 #[rv a, iv pa, iv pb] [])) (fun t k => castTop (efI m a pa pb) k) ?_
  refine Go.pull (V := s₁.setTop (mkF m 1 #[rv a, iv pa, iv pb] [(.ref a)])) (fun t k => XS.aloadN X0.here hx rfl (hb hby dI_0) rfl rfl k) ?_
  obtain ⟨_, _, ⟨T1, L1, k1, n1⟩, -, X1, ⟨Lc1, hQ1, l1, y1, z1⟩, st1⟩ := X0.specialBack hx (y := (⟨"java/lang/Record", "<init>", "()V"⟩ : MethodName)) rfl hown (mvT hZ (hw _ (List.mem_of_getElem? (i := 6) rfl))) (mvT hZ (hw _ (List.mem_of_getElem? (i := 7) rfl))) (mvT hZ (hw _ (List.mem_of_getElem? (i := 10) rfl))) (by decide) (backOf (W := 0) (rmR l Z a0 hw [] a h0 n0 ) hZ (hw _ (List.mem_of_getElem? (i := 10) rfl)) (hw _ (List.mem_of_getElem? (i := 9) rfl)) (by decide) (by decide)) (g := (mkF m 1 #[rv a, iv pa, iv pb] [(.ref a)])) rfl (by rw [hml]; rfl) (Steps.refl _) (a := a) (argsL := []) (rest := []) (lenOf pd_0 rfl) rfl (by show 2 * 0 + _ ≤ _; exact Nat.le_of_eq rfl) (hb hby dI_1) (fun _ _ => ⟨rfl, e0, (by decide : 0 + 0 ≤ _), (by decide : 0 + 0 ≤ _)⟩)
  dsimp only [Pt.U, Pt.locs, Pt.cells, Pt.slots] at X1 l1 y1 z1 st1 hQ1
  subst l1 y1 z1
  obtain ⟨rfl, N1q, e1⟩ := hQ1
  have N1 := Fr.app N0 N1q
  refine Go.pull (V := T1.setTop (mkF m 4 #[rv a, iv pa, iv pb] [])) (fun _ k => st1.trans k) ?_
  refine Go.pull (V := T1.setTop (mkF m 5 #[rv a, iv pa, iv pb] [(.ref a)])) (fun t k => XS.aloadN X1.here hx rfl (hb hby dI_4) rfl rfl k) ?_
  refine Go.pull (V := T1.setTop (mkF m 6 #[rv a, iv pa, iv pb] [(.int pa), (.ref a)])) (fun t k => XS.iloadN X1.here hx rfl (hb hby dI_5) rfl  k) ?_
  obtain ⟨T2, h2, X2, e2, W2, st2⟩ := putFN X1 hx hZ hown (hw _ (List.mem_of_getElem? (i := 14) rfl)) Via.refl e1 Fu Ea (Or.inr ⟨(hw _ (List.mem_of_getElem? (i := 15) rfl)), rfl, hnm⟩) (hw _ (List.mem_of_getElem? (i := 1) rfl)) (ty := .boolean) (v := (.int pa)) (v' := (.int pa)) (by decide) (congrArg Value.int hpa) (hpa ▸ fits_nar_bool _) (g := (mkF m 6 #[rv a, iv pa, iv pb] [(.int pa), (.ref a)])) rfl rfl (hb hby dI_6)
  have Fw2 : Fld Z h2 a "com/example/disburse/disburse/core/Account$Holds" "frozen" "Z" (.int pa) := Fu.same W2
  have K2 : Keep h0 h2 [a] := (Keep.refl h0 [a]).wr W2 (Or.inl (List.mem_of_getElem? (i := 0) rfl))
  have N2 := Fr.snoc X2 N1 g_a
  refine Go.pull (V := T2.setTop (mkF m 9 #[rv a, iv pa, iv pb] [])) st2 ?_
  refine Go.pull (V := T2.setTop (mkF m 10 #[rv a, iv pa, iv pb] [(.ref a)])) (fun t k => XS.aloadN X2.here hx rfl (hb hby dI_9) rfl rfl k) ?_
  refine Go.pull (V := T2.setTop (mkF m 11 #[rv a, iv pa, iv pb] [(.int pb), (.ref a)])) (fun t k => XS.iloadN X2.here hx rfl (hb hby dI_10) rfl  k) ?_
  obtain ⟨T3, h3, X3, e3, W3, st3⟩ := putFN X2 hx hZ hown (hw _ (List.mem_of_getElem? (i := 16) rfl)) Via.refl e2 (Fv.other W2 (Or.inr (slot_ne (Or.inr (hw _ (List.mem_of_getElem? (i := 17) rfl))) (Or.inr (hw _ (List.mem_of_getElem? (i := 15) rfl))) (by decide) (t := .boolean) (t' := .boolean) (by decide) (by decide)))) (Ea.wr W2) (Or.inr ⟨(hw _ (List.mem_of_getElem? (i := 17) rfl)), rfl, hnm⟩) (hw _ (List.mem_of_getElem? (i := 1) rfl)) (ty := .boolean) (v := (.int pb)) (v' := (.int pb)) (by decide) (congrArg Value.int hpb) (hpb ▸ fits_nar_bool _) (g := (mkF m 11 #[rv a, iv pa, iv pb] [(.int pb), (.ref a)])) rfl rfl (hb hby dI_11)
  have Fw3 : Fld Z h3 a "com/example/disburse/disburse/core/Account$Holds" "verificationRequired" "Z" (.int pb) := (Fv.other W2 (Or.inr (slot_ne (Or.inr (hw _ (List.mem_of_getElem? (i := 17) rfl))) (Or.inr (hw _ (List.mem_of_getElem? (i := 15) rfl))) (by decide) (t := .boolean) (t' := .boolean) (by decide) (by decide)))).same W3
  have K3 : Keep h0 h3 [a] := K2.wr W3 (Or.inl (List.mem_of_getElem? (i := 0) rfl))
  have N3 := Fr.snoc X3 N2 g_a
  refine Go.pull (V := T3.setTop (mkF m 14 #[rv a, iv pa, iv pb] [])) st3 ?_
  exact Go.ret0 X3 hx Bd.notSynchronized Bd.returns (hb hby dI_14) (by rw [e3]; exact ⟨rfl, N3, K3, (Fw2.other W3 (Or.inr (slot_ne (Or.inr (hw _ (List.mem_of_getElem? (i := 15) rfl))) (Or.inr (hw _ (List.mem_of_getElem? (i := 17) rfl))) (by decide) (t := .boolean) (t' := .boolean) (by decide) (by decide)))), Fw3⟩) (by decide) (by decide)
theorem dA_0 : decode prog_2_method_3_code 0 = .ok (.aload_n 0, 1) := by decide +kernel
theorem dA_1 : decode prog_2_method_3_code 1 = .ok (.getfield 7, 3) := by decide +kernel
theorem dA_4 : decode prog_2_method_3_code 4 = .ok (.ifCond .ne 10, 3) := by decide +kernel
theorem dA_7 : decode prog_2_method_3_code 7 = .ok (.aload_n 0, 1) := by decide +kernel
theorem dA_8 : decode prog_2_method_3_code 8 = .ok (.getfield 13, 3) := by decide +kernel
theorem dA_11 : decode prog_2_method_3_code 11 = .ok (.ifCond .eq 7, 3) := by decide +kernel
theorem dA_14 : decode prog_2_method_3_code 14 = .ok (.iconst 1, 1) := by decide +kernel
theorem dA_15 : decode prog_2_method_3_code 15 = .ok (.goto 4, 3) := by decide +kernel
theorem dA_18 : decode prog_2_method_3_code 18 = .ok (.iconst 0, 1) := by decide +kernel
theorem dA_19 : decode prog_2_method_3_code 19 = .ok (.ireturn, 1) := by decide +kernel
theorem efA (m : MethodId) (x0 : Addr) : entryFrame m #[(.ref x0)] 1 = mkF m 0 #[rv x0] [] := by first | (simp [entryFrame, mkF, argsToLocals, Value.category]; done) | rfl
def QA (Z : State) (a : Addr) (pa : Int32) (pb : Int32) (h0 : Heap) (n0 : Nat) (v : Option Value) (h : Heap) (L : List Loc) : Prop := v = some (.int (own_any pa pb)) ∧ Fr n0 L ∧ h = h0
set_option maxRecDepth 65536 in
set_option maxHeartbeats 40000000 in
theorem rmA (l : Launch) (Z : State) (a0 : Array Value) (hw : ∀ d ∈ tables_1, d.before a0 Z = true) (ws : List Jvm.Cond) (a : Addr) (pa : Int32) (pb : Int32) (h0 : Heap) (n0 : Nat) (Fp : Fld Z h0 a "com/example/disburse/disburse/core/Account$Holds" "frozen" "Z" (.int pa)) (Fq : Fld Z h0 a "com/example/disburse/disburse/core/Account$Holds" "verificationRequired" "Z" (.int pb)) :
    MetFree l (⟨"com/example/disburse/disburse/core/Account$Holds", "any", "()Z"⟩ : MethodName) (head1 (Jvm.Cond.code (⟨"com/example/disburse/disburse/core/Account$Holds", "any", "()Z"⟩ : MethodName) prog_2_method_3_code 1 (some .boolean) :: ws) ({ frames := 0, cells := 0, slots := 0, locals := 0 } : Room)) (fun as' U => as' = #[(.ref a)] ∧ Z.Warmed39 U.vm ∧ U.heap = h0) (fun _ _ _ _ _ => True) (fun _ U o U' => ∃ v L, o = .returned v ∧ QA Z a pa pb h0 n0 v U'.heap L ∧ FrameEnd U o U' L ({ frames := 0, cells := 0, slots := 0, locals := 0 } : Room).cells ({ frames := 0, cells := 0, slots := 0, locals := 0 } : Room).slots) := by
  refine MetFree.of_bodySF (plainFor_of_name pn_com_example_disburse_disburse_core_Account_Holds) hisR ?_
  intro p e s m args below meth c s₁ Bd hml0 hP hK
  obtain ⟨rfl, hZ, hh⟩ := hP
  have hx := Bd.exec
  have hby := Bd.bytes
  have hml : c.maxLocals = 1 := hml0
  have hown : s.vm.findClass "com/example/disburse/disburse/core/Account$Holds" = some m.cls := findClass_of_methodNamed Bd.named
  have hnm := (name_of_methodNamed Bd.named Bd.method).1
  have X0 : Stand p l e ({ frames := 0, cells := 0, slots := 0, locals := 0 } : Room) s m #[(.ref a)] below meth c s₁ [] 0 0 := Stand.of_body Bd
  have e0 : s₁.heap = h0 := by rw [← hh, Bd.state]; rfl
  have N0 := Fr.nil n0
  show Go p e below s (fun v h L => QA Z a pa pb h0 n0 v h L) 0 0 _
  refine Go.pull (V := s₁.setTop (mkF m 0 #[rv a] [])) (fun t k => castTop (efA m a) k) ?_
  refine Go.pull (V := s₁.setTop (mkF m 1 #[rv a] [(.ref a)])) (fun t k => XS.aloadN X0.here hx rfl (hb hby dA_0) rfl rfl k) ?_
  obtain ⟨T1, X1, e1, st1⟩ := getF X0 hx hZ hown (host := "") (Or.inl (hw _ (List.mem_of_getElem? (i := 14) rfl))) Via.refl e0 Fp (g := (mkF m 1 #[rv a] [(.ref a)])) rfl rfl (hb hby dA_1)
  refine Go.pull (V := T1.setTop (mkF m 4 #[rv a] [(.int pa)])) st1 ?_
  by_cases hc4_2 : pa = 0
  · skip
    refine Go.pull (V := T1.setTop (mkF m 7 #[rv a] [])) (fun t k => XS.ifNo X1.here hx rfl (hb hby dA_4) rfl (XT.i0_ne_f hc4_2) k) ?_
    refine Go.pull (V := T1.setTop (mkF m 8 #[rv a] [(.ref a)])) (fun t k => XS.aloadN X1.here hx rfl (hb hby dA_7) rfl rfl k) ?_
    obtain ⟨T3, X3, e3, st3⟩ := getF X1 hx hZ hown (host := "") (Or.inl (hw _ (List.mem_of_getElem? (i := 16) rfl))) Via.refl e1 Fq (g := (mkF m 8 #[rv a] [(.ref a)])) rfl rfl (hb hby dA_8)
    refine Go.pull (V := T3.setTop (mkF m 11 #[rv a] [(.int pb)])) st3 ?_
    by_cases hc11_4 : pb = 0
    · skip
      refine Go.pull (V := T3.setTop (mkF m 18 #[rv a] [])) (fun t k => XS.ifYes X3.here hx rfl (pc0 := 11) (pc' := 18) rfl (hb hby dA_11) rfl (XT.i0_eq_t hc11_4) (by decide) (by decide) k) ?_
      refine Go.pull (V := T3.setTop (mkF m 19 #[rv a] [(.int 0)])) (fun t k => XS.iconst X3.here hx rfl (hb hby dA_18) k) ?_
      exact Go.retN X3 hx Bd.notSynchronized (t := .boolean) Bd.returns (by simp) (hb hby dA_19) ⟨(by rw [own_any, if_pos hc4_2, if_pos hc11_4] <;> rfl), N0, e3⟩ (by decide) (by decide)
    · skip
      refine Go.pull (V := T3.setTop (mkF m 14 #[rv a] [])) (fun t k => XS.ifNo X3.here hx rfl (hb hby dA_11) rfl (XT.i0_eq_f hc11_4) k) ?_
      refine Go.pull (V := T3.setTop (mkF m 15 #[rv a] [(.int 1)])) (fun t k => XS.iconst X3.here hx rfl (hb hby dA_14) k) ?_
      refine Go.pull (V := T3.setTop (mkF m 19 #[rv a] [(.int 1)])) (fun t k => XS.goto X3.here hx rfl (pc0 := 15) (pc' := 19) rfl (hb hby dA_15) (by decide) (by decide) k) ?_
      exact Go.retN X3 hx Bd.notSynchronized (t := .boolean) Bd.returns (by simp) (hb hby dA_19) ⟨(by rw [own_any, if_pos hc4_2, if_neg hc11_4] <;> rfl), N0, e3⟩ (by decide) (by decide)
  · skip
    refine Go.pull (V := T1.setTop (mkF m 14 #[rv a] [])) (fun t k => XS.ifYes X1.here hx rfl (pc0 := 4) (pc' := 14) rfl (hb hby dA_4) rfl (XT.i0_ne_t hc4_2) (by decide) (by decide) k) ?_
    refine Go.pull (V := T1.setTop (mkF m 15 #[rv a] [(.int 1)])) (fun t k => XS.iconst X1.here hx rfl (hb hby dA_14) k) ?_
    refine Go.pull (V := T1.setTop (mkF m 19 #[rv a] [(.int 1)])) (fun t k => XS.goto X1.here hx rfl (pc0 := 15) (pc' := 19) rfl (hb hby dA_15) (by decide) (by decide) k) ?_
    exact Go.retN X1 hx Bd.notSynchronized (t := .boolean) Bd.returns (by simp) (hb hby dA_19) ⟨(by rw [own_any, if_neg hc4_2] <;> rfl), N0, e1⟩ (by decide) (by decide)
theorem ef0 (m : MethodId) (x0 : Int32) : entryFrame m #[(.int x0)] maxLocals = mkF m 0 #[iv x0, .unset, .unset, .unset, .unset, .unset] [] := by first | (simp [entryFrame, mkF, argsToLocals, Value.category, maxLocals]; done) | rfl
theorem pn_com_example_disburse_disburse_core_AccountAnyPinLaw : plainName "com/example/disburse/disburse/core/AccountAnyPinLaw" = true := by first | (simp [plainName, overriddenIn]; done) | decide +kernel
def Q0 (Z : State) (pa : Int32) (h0 : Heap) (n0 : Nat) (v : Option Value) (h : Heap) (L : List Loc) : Prop := v = some (.int 1) ∧ Fr n0 L
set_option maxRecDepth 65536 in
set_option maxHeartbeats 40000000 in
theorem rm0 (l : Launch) (Z : State) (a0 : Array Value) (hw : ∀ d ∈ tables_1, d.before a0 Z = true) (ws : List Jvm.Cond) (pa : Int32) (h0 : Heap) (n0 : Nat) (Z0 : n0 ≤ h0.size) :
    MetFree l x (head1 (Jvm.Cond.code x code maxLocals ret :: ws) room_1) (fun as' U => as' = #[(.int pa)] ∧ Z.Warmed39 U.vm ∧ U.heap = h0) (fun _ _ _ _ _ => True) (fun _ U o U' => ∃ v L, o = .returned v ∧ Q0 Z pa h0 n0 v U'.heap L ∧ FrameEnd U o U' L 16 128) := by
  refine MetFree.of_bodySF (plainFor_of_name pn_com_example_disburse_disburse_core_AccountAnyPinLaw) hisR ?_
  intro p e s m args below meth c s₁ Bd hml0 hP hK
  obtain ⟨rfl, hZ, hh⟩ := hP
  have hx := Bd.exec
  have hby := Bd.bytes
  have hml : c.maxLocals = 6 := hml0
  have hown : s.vm.findClass "com/example/disburse/disburse/core/AccountAnyPinLaw" = some m.cls := findClass_of_methodNamed Bd.named
  have hnm := (name_of_methodNamed Bd.named Bd.method).1
  have X0 : Stand p l e room_1 s m #[(.int pa)] below meth c s₁ [] 0 0 := Stand.of_body Bd
  have e0 : s₁.heap = h0 := by rw [← hh, Bd.state]; rfl
  have N0 := Fr.nil n0
  show Go p e below s (fun v h L => Q0 Z pa h0 n0 v h L) 16 128 _
  refine Go.pull (V := s₁.setTop (mkF m 0 #[iv pa, .unset, .unset, .unset, .unset, .unset] [])) (fun t k => castTop (ef0 m pa) k) ?_
  refine Go.pull (V := s₁.setTop (mkF m 1 #[iv pa, .unset, .unset, .unset, .unset, .unset] [(.int pa)])) (fun t k => XS.iloadN X0.here hx rfl (hb hby at_0) rfl  k) ?_
  refine Go.pull (V := s₁.setTop (mkF m 2 #[iv pa, .unset, .unset, .unset, .unset, .unset] [(.int 3), (.int pa)])) (fun t k => XS.iconst X0.here hx rfl (hb hby at_1) k) ?_
  refine Go.pull (V := s₁.setTop (mkF m 3 #[iv pa, .unset, .unset, .unset, .unset, .unset] [(.int (pa &&& (3 : Int32)))])) (fun t k => XS.iand X0.here hx rfl (hb hby at_2) rfl k) ?_
  refine Go.pull (V := s₁.setTop (mkF m 4 #[iv pa, iv (pa &&& (3 : Int32)), .unset, .unset, .unset, .unset] [])) (fun t k => XS.istoreN X0.here hx rfl (hb hby at_3) rfl (l' := #[iv pa, iv (pa &&& (3 : Int32)), .unset, .unset, .unset, .unset]) rfl k) ?_
  generalize gv1 : (pa &&& (3 : Int32)) = v1
  obtain hv1 | hv1 | hv1 | hv1 := own_and3 _ gv1
  · subst hv1
    refine Go.pull (V := s₁.setTop (mkF m 5 #[iv pa, iv 0, .unset, .unset, .unset, .unset] [(.int 0)])) (fun t k => XS.iloadN X0.here hx rfl (hb hby at_4) rfl  k) ?_
    refine Go.pull (V := s₁.setTop (mkF m 6 #[iv pa, iv 0, .unset, .unset, .unset, .unset] [(.int 1), (.int 0)])) (fun t k => XS.iconst X0.here hx rfl (hb hby at_5) k) ?_
    refine Go.pull (V := s₁.setTop (mkF m 7 #[iv pa, iv 0, .unset, .unset, .unset, .unset] [(.int 0)])) (fun t k => XS.iand X0.here hx rfl (hb hby at_6) rfl k) ?_
    refine Go.pull (V := s₁.setTop (mkF m 14 #[iv pa, iv 0, .unset, .unset, .unset, .unset] [])) (fun t k => XS.ifYes X0.here hx rfl (pc0 := 7) (pc' := 14) rfl (hb hby at_7) rfl (XT.i0_eq_t (by decide)) (by decide) (by decide) k) ?_
    refine Go.pull (V := s₁.setTop (mkF m 15 #[iv pa, iv 0, .unset, .unset, .unset, .unset] [(.int 0)])) (fun t k => XS.iconst X0.here hx rfl (hb hby at_14) k) ?_
    refine Go.pull (V := s₁.setTop (mkF m 16 #[iv pa, iv 0, iv 0, .unset, .unset, .unset] [])) (fun t k => XS.istoreN X0.here hx rfl (hb hby at_15) rfl (l' := #[iv pa, iv 0, iv 0, .unset, .unset, .unset]) rfl k) ?_
    refine Go.pull (V := s₁.setTop (mkF m 17 #[iv pa, iv 0, iv 0, .unset, .unset, .unset] [(.int 0)])) (fun t k => XS.iloadN X0.here hx rfl (hb hby at_16) rfl  k) ?_
    refine Go.pull (V := s₁.setTop (mkF m 18 #[iv pa, iv 0, iv 0, .unset, .unset, .unset] [(.int 2), (.int 0)])) (fun t k => XS.iconst X0.here hx rfl (hb hby at_17) k) ?_
    refine Go.pull (V := s₁.setTop (mkF m 19 #[iv pa, iv 0, iv 0, .unset, .unset, .unset] [(.int 0)])) (fun t k => XS.iand X0.here hx rfl (hb hby at_18) rfl k) ?_
    refine Go.pull (V := s₁.setTop (mkF m 26 #[iv pa, iv 0, iv 0, .unset, .unset, .unset] [])) (fun t k => XS.ifYes X0.here hx rfl (pc0 := 19) (pc' := 26) rfl (hb hby at_19) rfl (XT.i0_eq_t (by decide)) (by decide) (by decide) k) ?_
    refine Go.pull (V := s₁.setTop (mkF m 27 #[iv pa, iv 0, iv 0, .unset, .unset, .unset] [(.int 0)])) (fun t k => XS.iconst X0.here hx rfl (hb hby at_26) k) ?_
    refine Go.pull (V := s₁.setTop (mkF m 28 #[iv pa, iv 0, iv 0, iv 0, .unset, .unset] [])) (fun t k => XS.istoreN X0.here hx rfl (hb hby at_27) rfl (l' := #[iv pa, iv 0, iv 0, iv 0, .unset, .unset]) rfl k) ?_
    obtain ⟨T2, h2, X2, e2, E2, A2, D2, -, st2⟩ := newO X0 hx hZ hown (hw _ (List.mem_of_getElem? (i := 0) rfl)) (hw _ (List.mem_of_getElem? (i := 1) rfl)) (hw _ (List.mem_of_getElem? (i := 2) rfl)) e0 (g := (mkF m 28 #[iv pa, iv 0, iv 0, iv 0, .unset, .unset] [])) rfl (hb hby at_28) (by decide) (by decide)
    obtain ⟨b2, g2⟩ : ∃ z, z = h0.size := ⟨_, rfl⟩
    rw [← g2] at A2 D2 st2
    have sz_b2 : h0.size ≤ b2 := Nat.le_trans ((Keep.refl h0 [])).1 (Nat.le_of_eq g2.symm)
    have g_b2 : n0 ≤ b2 := Nat.le_trans Z0 sz_b2
    have K2 : Keep h0 h2 [] := (Keep.refl h0 []).ext E2
    have F3 : Fld Z h2 b2 "com/example/disburse/disburse/core/Account$Holds" "frozen" "Z" (.int 0) := D2 (Or.inr (hw _ (List.mem_of_getElem? (i := 15) rfl))) (ty := .boolean) (by decide)
    have F4 : Fld Z h2 b2 "com/example/disburse/disburse/core/Account$Holds" "verificationRequired" "Z" (.int 0) := D2 (Or.inr (hw _ (List.mem_of_getElem? (i := 17) rfl))) (ty := .boolean) (by decide)
    refine Go.pull (V := T2.setTop (mkF m 31 #[iv pa, iv 0, iv 0, iv 0, .unset, .unset] [(.ref b2)])) st2 ?_
    refine Go.pull (V := T2.setTop (mkF m 32 #[iv pa, iv 0, iv 0, iv 0, .unset, .unset] [(.ref b2), (.ref b2)])) (fun t k => XS.dup X2.here hx rfl (hb hby at_31) rfl rfl k) ?_
    refine Go.pull (V := T2.setTop (mkF m 33 #[iv pa, iv 0, iv 0, iv 0, .unset, .unset] [(.int 0), (.ref b2), (.ref b2)])) (fun t k => XS.iloadN X2.here hx rfl (hb hby at_32) rfl  k) ?_
    refine Go.pull (V := T2.setTop (mkF m 34 #[iv pa, iv 0, iv 0, iv 0, .unset, .unset] [(.int 0), (.int 0), (.ref b2), (.ref b2)])) (fun t k => XS.iloadN X2.here hx rfl (hb hby at_33) rfl  k) ?_
    obtain ⟨_, _, ⟨T5, L5, k5, n5⟩, -, X5, ⟨Lc5, hQ5, l5, y5, z5⟩, st5⟩ := X2.specialBack hx (y := (⟨"com/example/disburse/disburse/core/Account$Holds", "<init>", "(ZZ)V"⟩ : MethodName)) rfl hown (mvT hZ (hw _ (List.mem_of_getElem? (i := 3) rfl))) (mvT hZ (hw _ (List.mem_of_getElem? (i := 4) rfl))) (mvT hZ (hw _ (List.mem_of_getElem? (i := 5) rfl))) (by decide) (backOf (W := 1) (rmI l Z a0 hw [] b2 (0 : Int32) (0 : Int32) (.int 0) (.int 0) h2 n0 (g_b2) A2 F3 F4 (by decide) (by decide)) hZ (hw _ (List.mem_of_getElem? (i := 5) rfl)) (hw _ (List.mem_of_getElem? (i := 2) rfl)) (by decide) (by decide)) (g := (mkF m 34 #[iv pa, iv 0, iv 0, iv 0, .unset, .unset] [(.int 0), (.int 0), (.ref b2), (.ref b2)])) rfl (by rw [hml]; rfl) (Steps.refl _) (a := b2) (argsL := [(.int 0), (.int 0)]) (rest := [(.ref b2)]) (lenOf pd_1 rfl) rfl (by show 2 * 0 + _ ≤ _; exact Nat.le_of_eq rfl) (hb hby at_34) (fun _ _ => ⟨rfl, e2, (by decide : 1 + 0 ≤ _), (by decide : 2 + 0 ≤ _)⟩)
    dsimp only [Pt.U, Pt.locs, Pt.cells, Pt.slots] at X5 l5 y5 z5 st5 hQ5
    subst l5 y5 z5
    obtain ⟨rfl, N5q, Kc5, Fc5_0, Fc5_1⟩ := hQ5
    have K5 : Keep h0 T5.heap [] := K2.trans Kc5 ((allS (Or.inr sz_b2) all0))
    have N5 := Fr.app N0 N5q
    refine Go.pull (V := T5.setTop (mkF m 37 #[iv pa, iv 0, iv 0, iv 0, .unset, .unset] [(.ref b2)])) (fun _ k => st5.trans k) ?_
    refine Go.pull (V := T5.setTop (mkF m 39 #[iv pa, iv 0, iv 0, iv 0, rv b2, .unset] [])) (fun t k => XS.astore X5.here hx rfl (hb hby at_37) rfl rfl (l' := #[iv pa, iv 0, iv 0, iv 0, rv b2, .unset]) rfl k) ?_
    refine Go.pull (V := T5.setTop (mkF m 40 #[iv pa, iv 0, iv 0, iv 0, rv b2, .unset] [(.int 0)])) (fun t k => XS.iloadN X5.here hx rfl (hb hby at_39) rfl  k) ?_
    refine Go.pull (V := T5.setTop (mkF m 47 #[iv pa, iv 0, iv 0, iv 0, rv b2, .unset] [])) (fun t k => XS.ifYes X5.here hx rfl (pc0 := 40) (pc' := 47) rfl (hb hby at_40) rfl (XT.i0_eq_t (by decide)) (by decide) (by decide) k) ?_
    refine Go.pull (V := T5.setTop (mkF m 48 #[iv pa, iv 0, iv 0, iv 0, rv b2, .unset] [(.int 0)])) (fun t k => XS.iconst X5.here hx rfl (hb hby at_47) k) ?_
    refine Go.pull (V := T5.setTop (mkF m 50 #[iv pa, iv 0, iv 0, iv 0, rv b2, iv 0] [])) (fun t k => XS.istore X5.here hx rfl (hb hby at_48) rfl (l' := #[iv pa, iv 0, iv 0, iv 0, rv b2, iv 0]) rfl k) ?_
    refine Go.pull (V := T5.setTop (mkF m 52 #[iv pa, iv 0, iv 0, iv 0, rv b2, iv 0] [(.ref b2)])) (fun t k => XS.aload X5.here hx rfl (hb hby at_50) rfl rfl k) ?_
    obtain ⟨cq6, kq6, q6a, q6b, q6c⟩ := isOf hZ rfl (A2.keep Kc5)
    obtain ⟨_, _, ⟨T6, L6, k6, n6⟩, -, X6, ⟨Lc6, hQ6, l6, y6, z6⟩, st6⟩ := X5.virtualBack hx (y := (⟨"com/example/disburse/disburse/core/Account$Holds", "any", "()Z"⟩ : MethodName)) (z := (⟨"com/example/disburse/disburse/core/Account$Holds", "any", "()Z"⟩ : MethodName)) hown (mvT hZ (hw _ (List.mem_of_getElem? (i := 18) rfl))) (mvT hZ (hw _ (List.mem_of_getElem? (i := 19) rfl))) (notFace_of_selects (args := #[]) (mvT hZ (hw _ (List.mem_of_getElem? (i := 21) rfl)))) (mvT hZ (hw _ (List.mem_of_getElem? (i := 21) rfl))) (mvT hZ (hw _ (List.mem_of_getElem? (i := 20) rfl))) (by decide) (backOf (W := 0) (rmA l Z a0 hw [] b2 (0 : Int32) (0 : Int32) T5.heap n0 Fc5_0 Fc5_1) hZ (hw _ (List.mem_of_getElem? (i := 22) rfl)) (hw _ (List.mem_of_getElem? (i := 2) rfl)) (by decide) (by decide)) q6a q6c (g := (mkF m 52 #[iv pa, iv 0, iv 0, iv 0, rv b2, iv 0] [(.ref b2)])) rfl (by rw [hml]; rfl) (Steps.refl _) (argsL := []) (rest := []) (lenOf pd_2 rfl) rfl (by show 2 * 0 + _ ≤ _; exact Nat.le_of_eq rfl) (hb hby at_52) (fun _ _ => ⟨rfl, rfl, (by decide : 1 + 0 ≤ _), (by decide : 2 + 0 ≤ _)⟩)
    dsimp only [Pt.U, Pt.locs, Pt.cells, Pt.slots] at X6 l6 y6 z6 st6 hQ6
    subst l6 y6 z6
    obtain ⟨hv6, N6q, e6⟩ := hQ6
    rw [(by decide : (own_any (0 : Int32) (0 : Int32)) = (0 : Int32))] at hv6; subst hv6
    have N6 := Fr.app N5 N6q
    refine Go.pull (V := T6.setTop (mkF m 55 #[iv pa, iv 0, iv 0, iv 0, rv b2, iv 0] [(.int 0)])) (fun _ k => st6.trans k) ?_
    refine Go.pull (V := T6.setTop (mkF m 57 #[iv pa, iv 0, iv 0, iv 0, rv b2, iv 0] [(.int 0), (.int 0)])) (fun t k => XS.iload X6.here hx rfl (hb hby at_55) rfl  k) ?_
    refine Go.pull (V := T6.setTop (mkF m 60 #[iv pa, iv 0, iv 0, iv 0, rv b2, iv 0] [])) (fun t k => XS.icmpNo X6.here hx rfl (hb hby at_57) rfl (XT.ii_ne_f (by decide)) k) ?_
    refine Go.pull (V := T6.setTop (mkF m 61 #[iv pa, iv 0, iv 0, iv 0, rv b2, iv 0] [(.int 1)])) (fun t k => XS.iconst X6.here hx rfl (hb hby at_60) k) ?_
    refine Go.pull (V := T6.setTop (mkF m 65 #[iv pa, iv 0, iv 0, iv 0, rv b2, iv 0] [(.int 1)])) (fun t k => XS.goto X6.here hx rfl (pc0 := 61) (pc' := 65) rfl (hb hby at_61) (by decide) (by decide) k) ?_
    exact Go.retN X6 hx Bd.notSynchronized (t := .boolean) Bd.returns (by simp) (hb hby at_65) ⟨rfl, N6⟩ (by decide) (by decide)
  · subst hv1
    refine Go.pull (V := s₁.setTop (mkF m 5 #[iv pa, iv 1, .unset, .unset, .unset, .unset] [(.int 1)])) (fun t k => XS.iloadN X0.here hx rfl (hb hby at_4) rfl  k) ?_
    refine Go.pull (V := s₁.setTop (mkF m 6 #[iv pa, iv 1, .unset, .unset, .unset, .unset] [(.int 1), (.int 1)])) (fun t k => XS.iconst X0.here hx rfl (hb hby at_5) k) ?_
    refine Go.pull (V := s₁.setTop (mkF m 7 #[iv pa, iv 1, .unset, .unset, .unset, .unset] [(.int 1)])) (fun t k => XS.iand X0.here hx rfl (hb hby at_6) rfl k) ?_
    refine Go.pull (V := s₁.setTop (mkF m 10 #[iv pa, iv 1, .unset, .unset, .unset, .unset] [])) (fun t k => XS.ifNo X0.here hx rfl (hb hby at_7) rfl (XT.i0_eq_f (by decide)) k) ?_
    refine Go.pull (V := s₁.setTop (mkF m 11 #[iv pa, iv 1, .unset, .unset, .unset, .unset] [(.int 1)])) (fun t k => XS.iconst X0.here hx rfl (hb hby at_10) k) ?_
    refine Go.pull (V := s₁.setTop (mkF m 15 #[iv pa, iv 1, .unset, .unset, .unset, .unset] [(.int 1)])) (fun t k => XS.goto X0.here hx rfl (pc0 := 11) (pc' := 15) rfl (hb hby at_11) (by decide) (by decide) k) ?_
    refine Go.pull (V := s₁.setTop (mkF m 16 #[iv pa, iv 1, iv 1, .unset, .unset, .unset] [])) (fun t k => XS.istoreN X0.here hx rfl (hb hby at_15) rfl (l' := #[iv pa, iv 1, iv 1, .unset, .unset, .unset]) rfl k) ?_
    refine Go.pull (V := s₁.setTop (mkF m 17 #[iv pa, iv 1, iv 1, .unset, .unset, .unset] [(.int 1)])) (fun t k => XS.iloadN X0.here hx rfl (hb hby at_16) rfl  k) ?_
    refine Go.pull (V := s₁.setTop (mkF m 18 #[iv pa, iv 1, iv 1, .unset, .unset, .unset] [(.int 2), (.int 1)])) (fun t k => XS.iconst X0.here hx rfl (hb hby at_17) k) ?_
    refine Go.pull (V := s₁.setTop (mkF m 19 #[iv pa, iv 1, iv 1, .unset, .unset, .unset] [(.int 0)])) (fun t k => XS.iand X0.here hx rfl (hb hby at_18) rfl k) ?_
    refine Go.pull (V := s₁.setTop (mkF m 26 #[iv pa, iv 1, iv 1, .unset, .unset, .unset] [])) (fun t k => XS.ifYes X0.here hx rfl (pc0 := 19) (pc' := 26) rfl (hb hby at_19) rfl (XT.i0_eq_t (by decide)) (by decide) (by decide) k) ?_
    refine Go.pull (V := s₁.setTop (mkF m 27 #[iv pa, iv 1, iv 1, .unset, .unset, .unset] [(.int 0)])) (fun t k => XS.iconst X0.here hx rfl (hb hby at_26) k) ?_
    refine Go.pull (V := s₁.setTop (mkF m 28 #[iv pa, iv 1, iv 1, iv 0, .unset, .unset] [])) (fun t k => XS.istoreN X0.here hx rfl (hb hby at_27) rfl (l' := #[iv pa, iv 1, iv 1, iv 0, .unset, .unset]) rfl k) ?_
    obtain ⟨T7, h7, X7, e7, E7, A7, D7, -, st7⟩ := newO X0 hx hZ hown (hw _ (List.mem_of_getElem? (i := 0) rfl)) (hw _ (List.mem_of_getElem? (i := 1) rfl)) (hw _ (List.mem_of_getElem? (i := 2) rfl)) e0 (g := (mkF m 28 #[iv pa, iv 1, iv 1, iv 0, .unset, .unset] [])) rfl (hb hby at_28) (by decide) (by decide)
    obtain ⟨b7, g7⟩ : ∃ z, z = h0.size := ⟨_, rfl⟩
    rw [← g7] at A7 D7 st7
    have sz_b7 : h0.size ≤ b7 := Nat.le_trans ((Keep.refl h0 [])).1 (Nat.le_of_eq g7.symm)
    have g_b7 : n0 ≤ b7 := Nat.le_trans Z0 sz_b7
    have K7 : Keep h0 h7 [] := (Keep.refl h0 []).ext E7
    have F8 : Fld Z h7 b7 "com/example/disburse/disburse/core/Account$Holds" "frozen" "Z" (.int 0) := D7 (Or.inr (hw _ (List.mem_of_getElem? (i := 15) rfl))) (ty := .boolean) (by decide)
    have F9 : Fld Z h7 b7 "com/example/disburse/disburse/core/Account$Holds" "verificationRequired" "Z" (.int 0) := D7 (Or.inr (hw _ (List.mem_of_getElem? (i := 17) rfl))) (ty := .boolean) (by decide)
    refine Go.pull (V := T7.setTop (mkF m 31 #[iv pa, iv 1, iv 1, iv 0, .unset, .unset] [(.ref b7)])) st7 ?_
    refine Go.pull (V := T7.setTop (mkF m 32 #[iv pa, iv 1, iv 1, iv 0, .unset, .unset] [(.ref b7), (.ref b7)])) (fun t k => XS.dup X7.here hx rfl (hb hby at_31) rfl rfl k) ?_
    refine Go.pull (V := T7.setTop (mkF m 33 #[iv pa, iv 1, iv 1, iv 0, .unset, .unset] [(.int 1), (.ref b7), (.ref b7)])) (fun t k => XS.iloadN X7.here hx rfl (hb hby at_32) rfl  k) ?_
    refine Go.pull (V := T7.setTop (mkF m 34 #[iv pa, iv 1, iv 1, iv 0, .unset, .unset] [(.int 0), (.int 1), (.ref b7), (.ref b7)])) (fun t k => XS.iloadN X7.here hx rfl (hb hby at_33) rfl  k) ?_
    obtain ⟨_, _, ⟨T10, L10, k10, n10⟩, -, X10, ⟨Lc10, hQ10, l10, y10, z10⟩, st10⟩ := X7.specialBack hx (y := (⟨"com/example/disburse/disburse/core/Account$Holds", "<init>", "(ZZ)V"⟩ : MethodName)) rfl hown (mvT hZ (hw _ (List.mem_of_getElem? (i := 3) rfl))) (mvT hZ (hw _ (List.mem_of_getElem? (i := 4) rfl))) (mvT hZ (hw _ (List.mem_of_getElem? (i := 5) rfl))) (by decide) (backOf (W := 1) (rmI l Z a0 hw [] b7 (1 : Int32) (0 : Int32) (.int 0) (.int 0) h7 n0 (g_b7) A7 F8 F9 (by decide) (by decide)) hZ (hw _ (List.mem_of_getElem? (i := 5) rfl)) (hw _ (List.mem_of_getElem? (i := 2) rfl)) (by decide) (by decide)) (g := (mkF m 34 #[iv pa, iv 1, iv 1, iv 0, .unset, .unset] [(.int 0), (.int 1), (.ref b7), (.ref b7)])) rfl (by rw [hml]; rfl) (Steps.refl _) (a := b7) (argsL := [(.int 1), (.int 0)]) (rest := [(.ref b7)]) (lenOf pd_1 rfl) rfl (by show 2 * 0 + _ ≤ _; exact Nat.le_of_eq rfl) (hb hby at_34) (fun _ _ => ⟨rfl, e7, (by decide : 1 + 0 ≤ _), (by decide : 2 + 0 ≤ _)⟩)
    dsimp only [Pt.U, Pt.locs, Pt.cells, Pt.slots] at X10 l10 y10 z10 st10 hQ10
    subst l10 y10 z10
    obtain ⟨rfl, N10q, Kc10, Fc10_0, Fc10_1⟩ := hQ10
    have K10 : Keep h0 T10.heap [] := K7.trans Kc10 ((allS (Or.inr sz_b7) all0))
    have N10 := Fr.app N0 N10q
    refine Go.pull (V := T10.setTop (mkF m 37 #[iv pa, iv 1, iv 1, iv 0, .unset, .unset] [(.ref b7)])) (fun _ k => st10.trans k) ?_
    refine Go.pull (V := T10.setTop (mkF m 39 #[iv pa, iv 1, iv 1, iv 0, rv b7, .unset] [])) (fun t k => XS.astore X10.here hx rfl (hb hby at_37) rfl rfl (l' := #[iv pa, iv 1, iv 1, iv 0, rv b7, .unset]) rfl k) ?_
    refine Go.pull (V := T10.setTop (mkF m 40 #[iv pa, iv 1, iv 1, iv 0, rv b7, .unset] [(.int 1)])) (fun t k => XS.iloadN X10.here hx rfl (hb hby at_39) rfl  k) ?_
    refine Go.pull (V := T10.setTop (mkF m 43 #[iv pa, iv 1, iv 1, iv 0, rv b7, .unset] [])) (fun t k => XS.ifNo X10.here hx rfl (hb hby at_40) rfl (XT.i0_eq_f (by decide)) k) ?_
    refine Go.pull (V := T10.setTop (mkF m 44 #[iv pa, iv 1, iv 1, iv 0, rv b7, .unset] [(.int 1)])) (fun t k => XS.iconst X10.here hx rfl (hb hby at_43) k) ?_
    refine Go.pull (V := T10.setTop (mkF m 48 #[iv pa, iv 1, iv 1, iv 0, rv b7, .unset] [(.int 1)])) (fun t k => XS.goto X10.here hx rfl (pc0 := 44) (pc' := 48) rfl (hb hby at_44) (by decide) (by decide) k) ?_
    refine Go.pull (V := T10.setTop (mkF m 50 #[iv pa, iv 1, iv 1, iv 0, rv b7, iv 1] [])) (fun t k => XS.istore X10.here hx rfl (hb hby at_48) rfl (l' := #[iv pa, iv 1, iv 1, iv 0, rv b7, iv 1]) rfl k) ?_
    refine Go.pull (V := T10.setTop (mkF m 52 #[iv pa, iv 1, iv 1, iv 0, rv b7, iv 1] [(.ref b7)])) (fun t k => XS.aload X10.here hx rfl (hb hby at_50) rfl rfl k) ?_
    obtain ⟨cq11, kq11, q11a, q11b, q11c⟩ := isOf hZ rfl (A7.keep Kc10)
    obtain ⟨_, _, ⟨T11, L11, k11, n11⟩, -, X11, ⟨Lc11, hQ11, l11, y11, z11⟩, st11⟩ := X10.virtualBack hx (y := (⟨"com/example/disburse/disburse/core/Account$Holds", "any", "()Z"⟩ : MethodName)) (z := (⟨"com/example/disburse/disburse/core/Account$Holds", "any", "()Z"⟩ : MethodName)) hown (mvT hZ (hw _ (List.mem_of_getElem? (i := 18) rfl))) (mvT hZ (hw _ (List.mem_of_getElem? (i := 19) rfl))) (notFace_of_selects (args := #[]) (mvT hZ (hw _ (List.mem_of_getElem? (i := 21) rfl)))) (mvT hZ (hw _ (List.mem_of_getElem? (i := 21) rfl))) (mvT hZ (hw _ (List.mem_of_getElem? (i := 20) rfl))) (by decide) (backOf (W := 0) (rmA l Z a0 hw [] b7 (1 : Int32) (0 : Int32) T10.heap n0 Fc10_0 Fc10_1) hZ (hw _ (List.mem_of_getElem? (i := 22) rfl)) (hw _ (List.mem_of_getElem? (i := 2) rfl)) (by decide) (by decide)) q11a q11c (g := (mkF m 52 #[iv pa, iv 1, iv 1, iv 0, rv b7, iv 1] [(.ref b7)])) rfl (by rw [hml]; rfl) (Steps.refl _) (argsL := []) (rest := []) (lenOf pd_2 rfl) rfl (by show 2 * 0 + _ ≤ _; exact Nat.le_of_eq rfl) (hb hby at_52) (fun _ _ => ⟨rfl, rfl, (by decide : 1 + 0 ≤ _), (by decide : 2 + 0 ≤ _)⟩)
    dsimp only [Pt.U, Pt.locs, Pt.cells, Pt.slots] at X11 l11 y11 z11 st11 hQ11
    subst l11 y11 z11
    obtain ⟨hv11, N11q, e11⟩ := hQ11
    rw [(by decide : (own_any (1 : Int32) (0 : Int32)) = (1 : Int32))] at hv11; subst hv11
    have N11 := Fr.app N10 N11q
    refine Go.pull (V := T11.setTop (mkF m 55 #[iv pa, iv 1, iv 1, iv 0, rv b7, iv 1] [(.int 1)])) (fun _ k => st11.trans k) ?_
    refine Go.pull (V := T11.setTop (mkF m 57 #[iv pa, iv 1, iv 1, iv 0, rv b7, iv 1] [(.int 1), (.int 1)])) (fun t k => XS.iload X11.here hx rfl (hb hby at_55) rfl  k) ?_
    refine Go.pull (V := T11.setTop (mkF m 60 #[iv pa, iv 1, iv 1, iv 0, rv b7, iv 1] [])) (fun t k => XS.icmpNo X11.here hx rfl (hb hby at_57) rfl (XT.ii_ne_f (by decide)) k) ?_
    refine Go.pull (V := T11.setTop (mkF m 61 #[iv pa, iv 1, iv 1, iv 0, rv b7, iv 1] [(.int 1)])) (fun t k => XS.iconst X11.here hx rfl (hb hby at_60) k) ?_
    refine Go.pull (V := T11.setTop (mkF m 65 #[iv pa, iv 1, iv 1, iv 0, rv b7, iv 1] [(.int 1)])) (fun t k => XS.goto X11.here hx rfl (pc0 := 61) (pc' := 65) rfl (hb hby at_61) (by decide) (by decide) k) ?_
    exact Go.retN X11 hx Bd.notSynchronized (t := .boolean) Bd.returns (by simp) (hb hby at_65) ⟨rfl, N11⟩ (by decide) (by decide)
  · subst hv1
    refine Go.pull (V := s₁.setTop (mkF m 5 #[iv pa, iv 2, .unset, .unset, .unset, .unset] [(.int 2)])) (fun t k => XS.iloadN X0.here hx rfl (hb hby at_4) rfl  k) ?_
    refine Go.pull (V := s₁.setTop (mkF m 6 #[iv pa, iv 2, .unset, .unset, .unset, .unset] [(.int 1), (.int 2)])) (fun t k => XS.iconst X0.here hx rfl (hb hby at_5) k) ?_
    refine Go.pull (V := s₁.setTop (mkF m 7 #[iv pa, iv 2, .unset, .unset, .unset, .unset] [(.int 0)])) (fun t k => XS.iand X0.here hx rfl (hb hby at_6) rfl k) ?_
    refine Go.pull (V := s₁.setTop (mkF m 14 #[iv pa, iv 2, .unset, .unset, .unset, .unset] [])) (fun t k => XS.ifYes X0.here hx rfl (pc0 := 7) (pc' := 14) rfl (hb hby at_7) rfl (XT.i0_eq_t (by decide)) (by decide) (by decide) k) ?_
    refine Go.pull (V := s₁.setTop (mkF m 15 #[iv pa, iv 2, .unset, .unset, .unset, .unset] [(.int 0)])) (fun t k => XS.iconst X0.here hx rfl (hb hby at_14) k) ?_
    refine Go.pull (V := s₁.setTop (mkF m 16 #[iv pa, iv 2, iv 0, .unset, .unset, .unset] [])) (fun t k => XS.istoreN X0.here hx rfl (hb hby at_15) rfl (l' := #[iv pa, iv 2, iv 0, .unset, .unset, .unset]) rfl k) ?_
    refine Go.pull (V := s₁.setTop (mkF m 17 #[iv pa, iv 2, iv 0, .unset, .unset, .unset] [(.int 2)])) (fun t k => XS.iloadN X0.here hx rfl (hb hby at_16) rfl  k) ?_
    refine Go.pull (V := s₁.setTop (mkF m 18 #[iv pa, iv 2, iv 0, .unset, .unset, .unset] [(.int 2), (.int 2)])) (fun t k => XS.iconst X0.here hx rfl (hb hby at_17) k) ?_
    refine Go.pull (V := s₁.setTop (mkF m 19 #[iv pa, iv 2, iv 0, .unset, .unset, .unset] [(.int 2)])) (fun t k => XS.iand X0.here hx rfl (hb hby at_18) rfl k) ?_
    refine Go.pull (V := s₁.setTop (mkF m 22 #[iv pa, iv 2, iv 0, .unset, .unset, .unset] [])) (fun t k => XS.ifNo X0.here hx rfl (hb hby at_19) rfl (XT.i0_eq_f (by decide)) k) ?_
    refine Go.pull (V := s₁.setTop (mkF m 23 #[iv pa, iv 2, iv 0, .unset, .unset, .unset] [(.int 1)])) (fun t k => XS.iconst X0.here hx rfl (hb hby at_22) k) ?_
    refine Go.pull (V := s₁.setTop (mkF m 27 #[iv pa, iv 2, iv 0, .unset, .unset, .unset] [(.int 1)])) (fun t k => XS.goto X0.here hx rfl (pc0 := 23) (pc' := 27) rfl (hb hby at_23) (by decide) (by decide) k) ?_
    refine Go.pull (V := s₁.setTop (mkF m 28 #[iv pa, iv 2, iv 0, iv 1, .unset, .unset] [])) (fun t k => XS.istoreN X0.here hx rfl (hb hby at_27) rfl (l' := #[iv pa, iv 2, iv 0, iv 1, .unset, .unset]) rfl k) ?_
    obtain ⟨T12, h12, X12, e12, E12, A12, D12, -, st12⟩ := newO X0 hx hZ hown (hw _ (List.mem_of_getElem? (i := 0) rfl)) (hw _ (List.mem_of_getElem? (i := 1) rfl)) (hw _ (List.mem_of_getElem? (i := 2) rfl)) e0 (g := (mkF m 28 #[iv pa, iv 2, iv 0, iv 1, .unset, .unset] [])) rfl (hb hby at_28) (by decide) (by decide)
    obtain ⟨b12, g12⟩ : ∃ z, z = h0.size := ⟨_, rfl⟩
    rw [← g12] at A12 D12 st12
    have sz_b12 : h0.size ≤ b12 := Nat.le_trans ((Keep.refl h0 [])).1 (Nat.le_of_eq g12.symm)
    have g_b12 : n0 ≤ b12 := Nat.le_trans Z0 sz_b12
    have K12 : Keep h0 h12 [] := (Keep.refl h0 []).ext E12
    have F13 : Fld Z h12 b12 "com/example/disburse/disburse/core/Account$Holds" "frozen" "Z" (.int 0) := D12 (Or.inr (hw _ (List.mem_of_getElem? (i := 15) rfl))) (ty := .boolean) (by decide)
    have F14 : Fld Z h12 b12 "com/example/disburse/disburse/core/Account$Holds" "verificationRequired" "Z" (.int 0) := D12 (Or.inr (hw _ (List.mem_of_getElem? (i := 17) rfl))) (ty := .boolean) (by decide)
    refine Go.pull (V := T12.setTop (mkF m 31 #[iv pa, iv 2, iv 0, iv 1, .unset, .unset] [(.ref b12)])) st12 ?_
    refine Go.pull (V := T12.setTop (mkF m 32 #[iv pa, iv 2, iv 0, iv 1, .unset, .unset] [(.ref b12), (.ref b12)])) (fun t k => XS.dup X12.here hx rfl (hb hby at_31) rfl rfl k) ?_
    refine Go.pull (V := T12.setTop (mkF m 33 #[iv pa, iv 2, iv 0, iv 1, .unset, .unset] [(.int 0), (.ref b12), (.ref b12)])) (fun t k => XS.iloadN X12.here hx rfl (hb hby at_32) rfl  k) ?_
    refine Go.pull (V := T12.setTop (mkF m 34 #[iv pa, iv 2, iv 0, iv 1, .unset, .unset] [(.int 1), (.int 0), (.ref b12), (.ref b12)])) (fun t k => XS.iloadN X12.here hx rfl (hb hby at_33) rfl  k) ?_
    obtain ⟨_, _, ⟨T15, L15, k15, n15⟩, -, X15, ⟨Lc15, hQ15, l15, y15, z15⟩, st15⟩ := X12.specialBack hx (y := (⟨"com/example/disburse/disburse/core/Account$Holds", "<init>", "(ZZ)V"⟩ : MethodName)) rfl hown (mvT hZ (hw _ (List.mem_of_getElem? (i := 3) rfl))) (mvT hZ (hw _ (List.mem_of_getElem? (i := 4) rfl))) (mvT hZ (hw _ (List.mem_of_getElem? (i := 5) rfl))) (by decide) (backOf (W := 1) (rmI l Z a0 hw [] b12 (0 : Int32) (1 : Int32) (.int 0) (.int 0) h12 n0 (g_b12) A12 F13 F14 (by decide) (by decide)) hZ (hw _ (List.mem_of_getElem? (i := 5) rfl)) (hw _ (List.mem_of_getElem? (i := 2) rfl)) (by decide) (by decide)) (g := (mkF m 34 #[iv pa, iv 2, iv 0, iv 1, .unset, .unset] [(.int 1), (.int 0), (.ref b12), (.ref b12)])) rfl (by rw [hml]; rfl) (Steps.refl _) (a := b12) (argsL := [(.int 0), (.int 1)]) (rest := [(.ref b12)]) (lenOf pd_1 rfl) rfl (by show 2 * 0 + _ ≤ _; exact Nat.le_of_eq rfl) (hb hby at_34) (fun _ _ => ⟨rfl, e12, (by decide : 1 + 0 ≤ _), (by decide : 2 + 0 ≤ _)⟩)
    dsimp only [Pt.U, Pt.locs, Pt.cells, Pt.slots] at X15 l15 y15 z15 st15 hQ15
    subst l15 y15 z15
    obtain ⟨rfl, N15q, Kc15, Fc15_0, Fc15_1⟩ := hQ15
    have K15 : Keep h0 T15.heap [] := K12.trans Kc15 ((allS (Or.inr sz_b12) all0))
    have N15 := Fr.app N0 N15q
    refine Go.pull (V := T15.setTop (mkF m 37 #[iv pa, iv 2, iv 0, iv 1, .unset, .unset] [(.ref b12)])) (fun _ k => st15.trans k) ?_
    refine Go.pull (V := T15.setTop (mkF m 39 #[iv pa, iv 2, iv 0, iv 1, rv b12, .unset] [])) (fun t k => XS.astore X15.here hx rfl (hb hby at_37) rfl rfl (l' := #[iv pa, iv 2, iv 0, iv 1, rv b12, .unset]) rfl k) ?_
    refine Go.pull (V := T15.setTop (mkF m 40 #[iv pa, iv 2, iv 0, iv 1, rv b12, .unset] [(.int 2)])) (fun t k => XS.iloadN X15.here hx rfl (hb hby at_39) rfl  k) ?_
    refine Go.pull (V := T15.setTop (mkF m 43 #[iv pa, iv 2, iv 0, iv 1, rv b12, .unset] [])) (fun t k => XS.ifNo X15.here hx rfl (hb hby at_40) rfl (XT.i0_eq_f (by decide)) k) ?_
    refine Go.pull (V := T15.setTop (mkF m 44 #[iv pa, iv 2, iv 0, iv 1, rv b12, .unset] [(.int 1)])) (fun t k => XS.iconst X15.here hx rfl (hb hby at_43) k) ?_
    refine Go.pull (V := T15.setTop (mkF m 48 #[iv pa, iv 2, iv 0, iv 1, rv b12, .unset] [(.int 1)])) (fun t k => XS.goto X15.here hx rfl (pc0 := 44) (pc' := 48) rfl (hb hby at_44) (by decide) (by decide) k) ?_
    refine Go.pull (V := T15.setTop (mkF m 50 #[iv pa, iv 2, iv 0, iv 1, rv b12, iv 1] [])) (fun t k => XS.istore X15.here hx rfl (hb hby at_48) rfl (l' := #[iv pa, iv 2, iv 0, iv 1, rv b12, iv 1]) rfl k) ?_
    refine Go.pull (V := T15.setTop (mkF m 52 #[iv pa, iv 2, iv 0, iv 1, rv b12, iv 1] [(.ref b12)])) (fun t k => XS.aload X15.here hx rfl (hb hby at_50) rfl rfl k) ?_
    obtain ⟨cq16, kq16, q16a, q16b, q16c⟩ := isOf hZ rfl (A12.keep Kc15)
    obtain ⟨_, _, ⟨T16, L16, k16, n16⟩, -, X16, ⟨Lc16, hQ16, l16, y16, z16⟩, st16⟩ := X15.virtualBack hx (y := (⟨"com/example/disburse/disburse/core/Account$Holds", "any", "()Z"⟩ : MethodName)) (z := (⟨"com/example/disburse/disburse/core/Account$Holds", "any", "()Z"⟩ : MethodName)) hown (mvT hZ (hw _ (List.mem_of_getElem? (i := 18) rfl))) (mvT hZ (hw _ (List.mem_of_getElem? (i := 19) rfl))) (notFace_of_selects (args := #[]) (mvT hZ (hw _ (List.mem_of_getElem? (i := 21) rfl)))) (mvT hZ (hw _ (List.mem_of_getElem? (i := 21) rfl))) (mvT hZ (hw _ (List.mem_of_getElem? (i := 20) rfl))) (by decide) (backOf (W := 0) (rmA l Z a0 hw [] b12 (0 : Int32) (1 : Int32) T15.heap n0 Fc15_0 Fc15_1) hZ (hw _ (List.mem_of_getElem? (i := 22) rfl)) (hw _ (List.mem_of_getElem? (i := 2) rfl)) (by decide) (by decide)) q16a q16c (g := (mkF m 52 #[iv pa, iv 2, iv 0, iv 1, rv b12, iv 1] [(.ref b12)])) rfl (by rw [hml]; rfl) (Steps.refl _) (argsL := []) (rest := []) (lenOf pd_2 rfl) rfl (by show 2 * 0 + _ ≤ _; exact Nat.le_of_eq rfl) (hb hby at_52) (fun _ _ => ⟨rfl, rfl, (by decide : 1 + 0 ≤ _), (by decide : 2 + 0 ≤ _)⟩)
    dsimp only [Pt.U, Pt.locs, Pt.cells, Pt.slots] at X16 l16 y16 z16 st16 hQ16
    subst l16 y16 z16
    obtain ⟨hv16, N16q, e16⟩ := hQ16
    rw [(by decide : (own_any (0 : Int32) (1 : Int32)) = (1 : Int32))] at hv16; subst hv16
    have N16 := Fr.app N15 N16q
    refine Go.pull (V := T16.setTop (mkF m 55 #[iv pa, iv 2, iv 0, iv 1, rv b12, iv 1] [(.int 1)])) (fun _ k => st16.trans k) ?_
    refine Go.pull (V := T16.setTop (mkF m 57 #[iv pa, iv 2, iv 0, iv 1, rv b12, iv 1] [(.int 1), (.int 1)])) (fun t k => XS.iload X16.here hx rfl (hb hby at_55) rfl  k) ?_
    refine Go.pull (V := T16.setTop (mkF m 60 #[iv pa, iv 2, iv 0, iv 1, rv b12, iv 1] [])) (fun t k => XS.icmpNo X16.here hx rfl (hb hby at_57) rfl (XT.ii_ne_f (by decide)) k) ?_
    refine Go.pull (V := T16.setTop (mkF m 61 #[iv pa, iv 2, iv 0, iv 1, rv b12, iv 1] [(.int 1)])) (fun t k => XS.iconst X16.here hx rfl (hb hby at_60) k) ?_
    refine Go.pull (V := T16.setTop (mkF m 65 #[iv pa, iv 2, iv 0, iv 1, rv b12, iv 1] [(.int 1)])) (fun t k => XS.goto X16.here hx rfl (pc0 := 61) (pc' := 65) rfl (hb hby at_61) (by decide) (by decide) k) ?_
    exact Go.retN X16 hx Bd.notSynchronized (t := .boolean) Bd.returns (by simp) (hb hby at_65) ⟨rfl, N16⟩ (by decide) (by decide)
  · subst hv1
    refine Go.pull (V := s₁.setTop (mkF m 5 #[iv pa, iv 3, .unset, .unset, .unset, .unset] [(.int 3)])) (fun t k => XS.iloadN X0.here hx rfl (hb hby at_4) rfl  k) ?_
    refine Go.pull (V := s₁.setTop (mkF m 6 #[iv pa, iv 3, .unset, .unset, .unset, .unset] [(.int 1), (.int 3)])) (fun t k => XS.iconst X0.here hx rfl (hb hby at_5) k) ?_
    refine Go.pull (V := s₁.setTop (mkF m 7 #[iv pa, iv 3, .unset, .unset, .unset, .unset] [(.int 1)])) (fun t k => XS.iand X0.here hx rfl (hb hby at_6) rfl k) ?_
    refine Go.pull (V := s₁.setTop (mkF m 10 #[iv pa, iv 3, .unset, .unset, .unset, .unset] [])) (fun t k => XS.ifNo X0.here hx rfl (hb hby at_7) rfl (XT.i0_eq_f (by decide)) k) ?_
    refine Go.pull (V := s₁.setTop (mkF m 11 #[iv pa, iv 3, .unset, .unset, .unset, .unset] [(.int 1)])) (fun t k => XS.iconst X0.here hx rfl (hb hby at_10) k) ?_
    refine Go.pull (V := s₁.setTop (mkF m 15 #[iv pa, iv 3, .unset, .unset, .unset, .unset] [(.int 1)])) (fun t k => XS.goto X0.here hx rfl (pc0 := 11) (pc' := 15) rfl (hb hby at_11) (by decide) (by decide) k) ?_
    refine Go.pull (V := s₁.setTop (mkF m 16 #[iv pa, iv 3, iv 1, .unset, .unset, .unset] [])) (fun t k => XS.istoreN X0.here hx rfl (hb hby at_15) rfl (l' := #[iv pa, iv 3, iv 1, .unset, .unset, .unset]) rfl k) ?_
    refine Go.pull (V := s₁.setTop (mkF m 17 #[iv pa, iv 3, iv 1, .unset, .unset, .unset] [(.int 3)])) (fun t k => XS.iloadN X0.here hx rfl (hb hby at_16) rfl  k) ?_
    refine Go.pull (V := s₁.setTop (mkF m 18 #[iv pa, iv 3, iv 1, .unset, .unset, .unset] [(.int 2), (.int 3)])) (fun t k => XS.iconst X0.here hx rfl (hb hby at_17) k) ?_
    refine Go.pull (V := s₁.setTop (mkF m 19 #[iv pa, iv 3, iv 1, .unset, .unset, .unset] [(.int 2)])) (fun t k => XS.iand X0.here hx rfl (hb hby at_18) rfl k) ?_
    refine Go.pull (V := s₁.setTop (mkF m 22 #[iv pa, iv 3, iv 1, .unset, .unset, .unset] [])) (fun t k => XS.ifNo X0.here hx rfl (hb hby at_19) rfl (XT.i0_eq_f (by decide)) k) ?_
    refine Go.pull (V := s₁.setTop (mkF m 23 #[iv pa, iv 3, iv 1, .unset, .unset, .unset] [(.int 1)])) (fun t k => XS.iconst X0.here hx rfl (hb hby at_22) k) ?_
    refine Go.pull (V := s₁.setTop (mkF m 27 #[iv pa, iv 3, iv 1, .unset, .unset, .unset] [(.int 1)])) (fun t k => XS.goto X0.here hx rfl (pc0 := 23) (pc' := 27) rfl (hb hby at_23) (by decide) (by decide) k) ?_
    refine Go.pull (V := s₁.setTop (mkF m 28 #[iv pa, iv 3, iv 1, iv 1, .unset, .unset] [])) (fun t k => XS.istoreN X0.here hx rfl (hb hby at_27) rfl (l' := #[iv pa, iv 3, iv 1, iv 1, .unset, .unset]) rfl k) ?_
    obtain ⟨T17, h17, X17, e17, E17, A17, D17, -, st17⟩ := newO X0 hx hZ hown (hw _ (List.mem_of_getElem? (i := 0) rfl)) (hw _ (List.mem_of_getElem? (i := 1) rfl)) (hw _ (List.mem_of_getElem? (i := 2) rfl)) e0 (g := (mkF m 28 #[iv pa, iv 3, iv 1, iv 1, .unset, .unset] [])) rfl (hb hby at_28) (by decide) (by decide)
    obtain ⟨b17, g17⟩ : ∃ z, z = h0.size := ⟨_, rfl⟩
    rw [← g17] at A17 D17 st17
    have sz_b17 : h0.size ≤ b17 := Nat.le_trans ((Keep.refl h0 [])).1 (Nat.le_of_eq g17.symm)
    have g_b17 : n0 ≤ b17 := Nat.le_trans Z0 sz_b17
    have K17 : Keep h0 h17 [] := (Keep.refl h0 []).ext E17
    have F18 : Fld Z h17 b17 "com/example/disburse/disburse/core/Account$Holds" "frozen" "Z" (.int 0) := D17 (Or.inr (hw _ (List.mem_of_getElem? (i := 15) rfl))) (ty := .boolean) (by decide)
    have F19 : Fld Z h17 b17 "com/example/disburse/disburse/core/Account$Holds" "verificationRequired" "Z" (.int 0) := D17 (Or.inr (hw _ (List.mem_of_getElem? (i := 17) rfl))) (ty := .boolean) (by decide)
    refine Go.pull (V := T17.setTop (mkF m 31 #[iv pa, iv 3, iv 1, iv 1, .unset, .unset] [(.ref b17)])) st17 ?_
    refine Go.pull (V := T17.setTop (mkF m 32 #[iv pa, iv 3, iv 1, iv 1, .unset, .unset] [(.ref b17), (.ref b17)])) (fun t k => XS.dup X17.here hx rfl (hb hby at_31) rfl rfl k) ?_
    refine Go.pull (V := T17.setTop (mkF m 33 #[iv pa, iv 3, iv 1, iv 1, .unset, .unset] [(.int 1), (.ref b17), (.ref b17)])) (fun t k => XS.iloadN X17.here hx rfl (hb hby at_32) rfl  k) ?_
    refine Go.pull (V := T17.setTop (mkF m 34 #[iv pa, iv 3, iv 1, iv 1, .unset, .unset] [(.int 1), (.int 1), (.ref b17), (.ref b17)])) (fun t k => XS.iloadN X17.here hx rfl (hb hby at_33) rfl  k) ?_
    obtain ⟨_, _, ⟨T20, L20, k20, n20⟩, -, X20, ⟨Lc20, hQ20, l20, y20, z20⟩, st20⟩ := X17.specialBack hx (y := (⟨"com/example/disburse/disburse/core/Account$Holds", "<init>", "(ZZ)V"⟩ : MethodName)) rfl hown (mvT hZ (hw _ (List.mem_of_getElem? (i := 3) rfl))) (mvT hZ (hw _ (List.mem_of_getElem? (i := 4) rfl))) (mvT hZ (hw _ (List.mem_of_getElem? (i := 5) rfl))) (by decide) (backOf (W := 1) (rmI l Z a0 hw [] b17 (1 : Int32) (1 : Int32) (.int 0) (.int 0) h17 n0 (g_b17) A17 F18 F19 (by decide) (by decide)) hZ (hw _ (List.mem_of_getElem? (i := 5) rfl)) (hw _ (List.mem_of_getElem? (i := 2) rfl)) (by decide) (by decide)) (g := (mkF m 34 #[iv pa, iv 3, iv 1, iv 1, .unset, .unset] [(.int 1), (.int 1), (.ref b17), (.ref b17)])) rfl (by rw [hml]; rfl) (Steps.refl _) (a := b17) (argsL := [(.int 1), (.int 1)]) (rest := [(.ref b17)]) (lenOf pd_1 rfl) rfl (by show 2 * 0 + _ ≤ _; exact Nat.le_of_eq rfl) (hb hby at_34) (fun _ _ => ⟨rfl, e17, (by decide : 1 + 0 ≤ _), (by decide : 2 + 0 ≤ _)⟩)
    dsimp only [Pt.U, Pt.locs, Pt.cells, Pt.slots] at X20 l20 y20 z20 st20 hQ20
    subst l20 y20 z20
    obtain ⟨rfl, N20q, Kc20, Fc20_0, Fc20_1⟩ := hQ20
    have K20 : Keep h0 T20.heap [] := K17.trans Kc20 ((allS (Or.inr sz_b17) all0))
    have N20 := Fr.app N0 N20q
    refine Go.pull (V := T20.setTop (mkF m 37 #[iv pa, iv 3, iv 1, iv 1, .unset, .unset] [(.ref b17)])) (fun _ k => st20.trans k) ?_
    refine Go.pull (V := T20.setTop (mkF m 39 #[iv pa, iv 3, iv 1, iv 1, rv b17, .unset] [])) (fun t k => XS.astore X20.here hx rfl (hb hby at_37) rfl rfl (l' := #[iv pa, iv 3, iv 1, iv 1, rv b17, .unset]) rfl k) ?_
    refine Go.pull (V := T20.setTop (mkF m 40 #[iv pa, iv 3, iv 1, iv 1, rv b17, .unset] [(.int 3)])) (fun t k => XS.iloadN X20.here hx rfl (hb hby at_39) rfl  k) ?_
    refine Go.pull (V := T20.setTop (mkF m 43 #[iv pa, iv 3, iv 1, iv 1, rv b17, .unset] [])) (fun t k => XS.ifNo X20.here hx rfl (hb hby at_40) rfl (XT.i0_eq_f (by decide)) k) ?_
    refine Go.pull (V := T20.setTop (mkF m 44 #[iv pa, iv 3, iv 1, iv 1, rv b17, .unset] [(.int 1)])) (fun t k => XS.iconst X20.here hx rfl (hb hby at_43) k) ?_
    refine Go.pull (V := T20.setTop (mkF m 48 #[iv pa, iv 3, iv 1, iv 1, rv b17, .unset] [(.int 1)])) (fun t k => XS.goto X20.here hx rfl (pc0 := 44) (pc' := 48) rfl (hb hby at_44) (by decide) (by decide) k) ?_
    refine Go.pull (V := T20.setTop (mkF m 50 #[iv pa, iv 3, iv 1, iv 1, rv b17, iv 1] [])) (fun t k => XS.istore X20.here hx rfl (hb hby at_48) rfl (l' := #[iv pa, iv 3, iv 1, iv 1, rv b17, iv 1]) rfl k) ?_
    refine Go.pull (V := T20.setTop (mkF m 52 #[iv pa, iv 3, iv 1, iv 1, rv b17, iv 1] [(.ref b17)])) (fun t k => XS.aload X20.here hx rfl (hb hby at_50) rfl rfl k) ?_
    obtain ⟨cq21, kq21, q21a, q21b, q21c⟩ := isOf hZ rfl (A17.keep Kc20)
    obtain ⟨_, _, ⟨T21, L21, k21, n21⟩, -, X21, ⟨Lc21, hQ21, l21, y21, z21⟩, st21⟩ := X20.virtualBack hx (y := (⟨"com/example/disburse/disburse/core/Account$Holds", "any", "()Z"⟩ : MethodName)) (z := (⟨"com/example/disburse/disburse/core/Account$Holds", "any", "()Z"⟩ : MethodName)) hown (mvT hZ (hw _ (List.mem_of_getElem? (i := 18) rfl))) (mvT hZ (hw _ (List.mem_of_getElem? (i := 19) rfl))) (notFace_of_selects (args := #[]) (mvT hZ (hw _ (List.mem_of_getElem? (i := 21) rfl)))) (mvT hZ (hw _ (List.mem_of_getElem? (i := 21) rfl))) (mvT hZ (hw _ (List.mem_of_getElem? (i := 20) rfl))) (by decide) (backOf (W := 0) (rmA l Z a0 hw [] b17 (1 : Int32) (1 : Int32) T20.heap n0 Fc20_0 Fc20_1) hZ (hw _ (List.mem_of_getElem? (i := 22) rfl)) (hw _ (List.mem_of_getElem? (i := 2) rfl)) (by decide) (by decide)) q21a q21c (g := (mkF m 52 #[iv pa, iv 3, iv 1, iv 1, rv b17, iv 1] [(.ref b17)])) rfl (by rw [hml]; rfl) (Steps.refl _) (argsL := []) (rest := []) (lenOf pd_2 rfl) rfl (by show 2 * 0 + _ ≤ _; exact Nat.le_of_eq rfl) (hb hby at_52) (fun _ _ => ⟨rfl, rfl, (by decide : 1 + 0 ≤ _), (by decide : 2 + 0 ≤ _)⟩)
    dsimp only [Pt.U, Pt.locs, Pt.cells, Pt.slots] at X21 l21 y21 z21 st21 hQ21
    subst l21 y21 z21
    obtain ⟨hv21, N21q, e21⟩ := hQ21
    rw [(by decide : (own_any (1 : Int32) (1 : Int32)) = (1 : Int32))] at hv21; subst hv21
    have N21 := Fr.app N20 N21q
    refine Go.pull (V := T21.setTop (mkF m 55 #[iv pa, iv 3, iv 1, iv 1, rv b17, iv 1] [(.int 1)])) (fun _ k => st21.trans k) ?_
    refine Go.pull (V := T21.setTop (mkF m 57 #[iv pa, iv 3, iv 1, iv 1, rv b17, iv 1] [(.int 1), (.int 1)])) (fun t k => XS.iload X21.here hx rfl (hb hby at_55) rfl  k) ?_
    refine Go.pull (V := T21.setTop (mkF m 60 #[iv pa, iv 3, iv 1, iv 1, rv b17, iv 1] [])) (fun t k => XS.icmpNo X21.here hx rfl (hb hby at_57) rfl (XT.ii_ne_f (by decide)) k) ?_
    refine Go.pull (V := T21.setTop (mkF m 61 #[iv pa, iv 3, iv 1, iv 1, rv b17, iv 1] [(.int 1)])) (fun t k => XS.iconst X21.here hx rfl (hb hby at_60) k) ?_
    refine Go.pull (V := T21.setTop (mkF m 65 #[iv pa, iv 3, iv 1, iv 1, rv b17, iv 1] [(.int 1)])) (fun t k => XS.goto X21.here hx rfl (pc0 := 61) (pc' := 65) rfl (hb hby at_61) (by decide) (by decide) k) ?_
    exact Go.retN X21 hx Bd.notSynchronized (t := .boolean) Bd.returns (by simp) (hb hby at_65) ⟨rfl, N21⟩ (by decide) (by decide)
set_option maxRecDepth 65536 in
set_option maxHeartbeats 40000000 in
theorem comes_1 {Post : Tables → Env → Array Value → State → Outcome → State → Prop} (hpost : ∀ tb e args s v u, (limb_1_1.after args s (.returned v) u = true ∧ limb_1_2.after args s (.returned v) u = true ∧ True) → FrameEnd s (.returned v) u (Jvm.fieldLocs frame_1_writes args s ++ Jvm.arrayLocs frame_1_arrays args s ++ Jvm.staticLocs frame_1_statics s) 16 128 → Post tb e args s (.returned v) u) :
    ArmFor flags0 classFile x code maxLocals ret World_1 tables_1 room_1 Calls_1 rest_1 Pre_1 Post := by
  intro l hfl _ _ p e ha hc hk s m args below hf hA hF happ hP
  obtain ⟨hcalls, hrest, hpre⟩ := hP
  obtain ⟨-, -, -, hnamed, -, -, -, hat⟩ := (Spec.applies_iff hf).mp happ
  obtain ⟨hg, hn⟩ := and_e (Cond.before_iff.mp (show (Jvm.Cond.and given_1 narrow_1).before args s = true from hpre))
  obtain ⟨y1, y2⟩ := and_e hg
  obtain ⟨w0, rfl⟩ : ∃ w0 : Value, args = #[w0] := by
    have hs : args.size = 1 := by simpa [Cond.value, given_1] using y1
    obtain ⟨L⟩ := args
    match L, hs with
    | [w0], _ => exact ⟨w0, rfl⟩
  have hw := fun d (hd : d ∈ tables_1) => atoms_spec (ws := Jvm.Cond.code x code maxLocals ret :: tables_1) hat d (List.mem_cons_of_mem _ hd)
  have hfit : Fit s := fun {y c} hc i hi => by
    obtain ⟨ha, rfl⟩ := Array.getElem?_eq_some_iff.mp hc
    have q := List.all_eq_true.mp ((Array.all_eq_true_iff_forall_mem.mp hF) _ (Array.getElem_mem ha)) i (List.mem_range.mpr hi)
    simpa [Array.getElem?_eq_getElem hi] using q
  obtain ⟨i0, ei0⟩ := is_v y2
  obtain rfl : w0 = (.int i0) := Option.some.inj ei0
  obtain ⟨n, o, h1, h2, h3, _, L, rfl, ⟨rfl, N⟩, hq⟩ := rm0 l s _ hw tables_1 i0 s.heap s.heap.size (Nat.le_refl _)  p e ha hc hk s m _ below hf ((Spec.applies_iff_loose hf).mp happ).1 ⟨rfl, State.Warmed39.refl s, rfl⟩ trivial
  refine ⟨n, _, h1, h2, h3, hpost _ _ _ _ _ _ ⟨Cond.after_iff.mpr rfl, Cond.after_iff.mpr (eq_i res_at (Term.int_eval (1)) rfl), trivial⟩ ⟨hq.1, hq.2.1, (hq.2.2.sift fun y hy => Or.inr (N y hy)).mono (by decide) (by decide)⟩⟩
theorem main_1_1 : Claimed_1_1 := comes_1 fun _ _ _ _ _ _ h hF => ⟨h.1, hF⟩
theorem main_1_2 : Claimed_1_2 := comes_1 fun _ _ _ _ _ _ h hF => ⟨h.2.1, hF⟩
end Jvm.Pilot.@@N@@
namespace Jvm.Pilot.@@N@@
open Jvm Jvm.ClassFile Sem Op Lib Jvm.Free Jvm.Stand Jvm.Pilot.@@N@@.Jvm.D
/-! MADE BY PROGRAM (witnessworld.py) out of the Statement's table words and the real class files: 10 classes; the members and pool entries that the words name. The judged class is class 1, her method 1. -/
namespace start1
open Jvm.ClassFile
def u (s : String) : CpInfo := .utf8 (stringToUtf16 s)
/-- a pool by its gaps: so many unusable entries, then the entry; so many at the end -/
def gap : Nat → List CpInfo → List CpInfo
  | 0, r => r
  | n + 1, r => .unusable :: gap n r
def poolList (es : List (Nat × CpInfo)) (last : Nat) : List CpInfo := es.foldr (fun e r => gap e.1 (e.2 :: r)) (gap last [])
def pool (es : List (Nat × CpInfo)) (last : Nat) : Array CpInfo := ⟨poolList es last⟩
def fileOf (pool : Array CpInfo) (this : Nat) (attrs : Array Attribute := #[]) (ms : Array MethodInfo := #[]) (fl : Nat := 33) (sup : Nat := 0) (ifs : Array Nat := #[]) (fds : Array FieldInfo := #[]) : ClassFile where
  minorVersion := 0
  majorVersion := 65
  constantPool := pool
  accessFlags := fl
  thisClass := this
  superClass := sup
  interfaces := ifs
  fields := fds
  methods := ms
  attributes := attrs
def plain (name : String) (sup : Option ClassId) : Class where
  name := name
  kind := .ordinary
  loader := none
  accessFlags := 33
  super := sup
  interfaces := #[]
  cf := none
  fields := #[]
  methods := #[]
  instanceTypes := #[]
  staticTypes := #[]
  resolved := #[]
  callSites := []
  init := .initialized
  statics := none
  mirror := none

def pool0 : Array CpInfo := pool [(5, u "<init>"), (0, u "()V"), (1, .class_ 10), (1, u "java/lang/Object")] 113

def k0c0 : Code := { maxStack := 0, maxLocals := 1, code := object_method_1_code, exceptionTable := #[], attributes := #[] }
def k0m0 : Method := { name := "<init>", desc := "()V", sig := { parameters := [], returnType := none }, accessFlags := 1, code := some k0c0 }
/-- java/lang/Object -/
def k0 : Class := { plain "java/lang/Object" none with
  accessFlags := 33
  interfaces := #[]
  cf := some (fileOf pool0 8 #[] #[{ accessFlags := 1, nameIndex := 5, descriptorIndex := 6, attributes := #[] }] 33 0 #[] #[])
  fields := #[]
  methods := #[k0m0]
  instanceTypes := #[]
  staticTypes := #[]
  resolved := Array.replicate 124 none
  statics := none }

def pool1 : Array CpInfo := pool [(2, .class_ 4), (1, u "java/lang/Object"), (0, u "<init>"), (0, u "()V"), (0, .class_ 8), (0, u "com/example/disburse/disburse/core/Account$Holds"), (0, .methodref 7 10), (0, .nameAndType 5 11), (0, u "(ZZ)V"), (0, .methodref 7 13), (0, .nameAndType 14 15), (0, u "any"), (0, u "()Z"), (0, .class_ 17), (0, u "com/example/disburse/disburse/core/AccountAnyPinLaw"), (2, u "law"), (0, u "(I)Z")] 7

def k1m0 : Method := { name := "<init>", desc := "()V", sig := { parameters := [], returnType := none }, accessFlags := 2, code := none }
def k1c1 : Code := { maxStack := 4, maxLocals := 6, code := code, exceptionTable := #[], attributes := #[] }
def k1m1 : Method := { name := "law", desc := "(I)Z", sig := { parameters := [.int], returnType := some .boolean }, accessFlags := 9, code := some k1c1 }
/-- com/example/disburse/disburse/core/AccountAnyPinLaw -/
def k1 : Class := { plain "com/example/disburse/disburse/core/AccountAnyPinLaw" (some 0) with
  accessFlags := 49
  interfaces := #[]
  cf := some (fileOf pool1 16 #[] #[{ accessFlags := 2, nameIndex := 5, descriptorIndex := 6, attributes := #[] }, { accessFlags := 9, nameIndex := 20, descriptorIndex := 21, attributes := #[] }] 49 2 #[] #[])
  fields := #[]
  methods := #[k1m0, k1m1]
  instanceTypes := #[]
  staticTypes := #[]
  resolved := Array.replicate 29 none
  statics := none }

def pool2 : Array CpInfo := pool [(1, .methodref 2 3), (0, .class_ 4), (0, .nameAndType 5 6), (0, u "java/lang/Object"), (0, u "<init>"), (0, u "()V"), (0, .class_ 8), (0, u "java/lang/Record")] 13

def k2c0 : Code := { maxStack := 1, maxLocals := 1, code := jdk_30_method_1_code, exceptionTable := #[], attributes := #[] }
def k2m0 : Method := { name := "<init>", desc := "()V", sig := { parameters := [], returnType := none }, accessFlags := 4, code := some k2c0 }
/-- java/lang/Record -/
def k2 : Class := { plain "java/lang/Record" (some 0) with
  accessFlags := 1057
  interfaces := #[]
  cf := some (fileOf pool2 7 #[] #[{ accessFlags := 4, nameIndex := 5, descriptorIndex := 6, attributes := #[] }] 1057 2 #[] #[])
  fields := #[]
  methods := #[k2m0]
  instanceTypes := #[]
  staticTypes := #[]
  resolved := Array.replicate 22 none
  statics := none }

def pool3 : Array CpInfo := pool [(1, .methodref 2 3), (0, .class_ 4), (0, .nameAndType 5 6), (0, u "java/lang/Record"), (0, u "<init>"), (0, u "()V"), (0, .fieldref 8 9), (0, .class_ 10), (0, .nameAndType 11 12), (0, u "com/example/disburse/disburse/core/Account$Holds"), (0, u "frozen"), (0, u "Z"), (0, .fieldref 8 14), (0, .nameAndType 15 12), (0, u "verificationRequired"), (5, u "()Z"), (2, u "(ZZ)V"), (32, u "NONE"), (0, u "Lcom/example/disburse/disburse/core/Account$Holds;"), (6, u "any"), (8, .class_ 75), (0, u "com/example/disburse/disburse/core/Account")] 21

def k3c0 : Code := { maxStack := 2, maxLocals := 3, code := prog_2_method_1_code, exceptionTable := #[], attributes := #[] }
def k3m0 : Method := { name := "<init>", desc := "(ZZ)V", sig := { parameters := [.boolean, .boolean], returnType := none }, accessFlags := 1, code := some k3c0 }
def k3c1 : Code := { maxStack := 1, maxLocals := 1, code := prog_2_method_3_code, exceptionTable := #[], attributes := #[] }
def k3m1 : Method := { name := "any", desc := "()Z", sig := { parameters := [], returnType := some .boolean }, accessFlags := 0, code := some k3c1 }
/-- com/example/disburse/disburse/core/Account$Holds -/
def k3 : Class := { plain "com/example/disburse/disburse/core/Account$Holds" (some 2) with
  accessFlags := 49
  interfaces := #[]
  cf := some (fileOf pool3 8 #[.nestHost 74] #[{ accessFlags := 1, nameIndex := 5, descriptorIndex := 24, attributes := #[] }, { accessFlags := 0, nameIndex := 65, descriptorIndex := 21, attributes := #[] }] 49 2 #[] #[{ accessFlags := 18, nameIndex := 11, descriptorIndex := 12, attributes := #[] }, { accessFlags := 18, nameIndex := 15, descriptorIndex := 12, attributes := #[] }, { accessFlags := 25, nameIndex := 57, descriptorIndex := 58, attributes := #[] }])
  fields := #[{ name := "frozen", type := .boolean, accessFlags := 18, slot := 0, constantValue := 0 }, { name := "verificationRequired", type := .boolean, accessFlags := 18, slot := 1, constantValue := 0 }, { name := "NONE", type := (.object "com/example/disburse/disburse/core/Account$Holds"), accessFlags := 25, slot := 0, constantValue := 0 }]
  methods := #[k3m0, k3m1]
  instanceTypes := #[.boolean, .boolean]
  staticTypes := #[(.object "com/example/disburse/disburse/core/Account$Holds")]
  resolved := Array.replicate 97 none
  statics := none }

def pool4 : Array CpInfo := pool [(1, u "java/lang/Cloneable"), (0, .class_ 1), (0, u "java/lang/Object"), (0, .class_ 3)] 3

/-- java/lang/Cloneable -/
def k4 : Class := { plain "java/lang/Cloneable" (some 0) with
  accessFlags := 1537
  interfaces := #[]
  cf := some (fileOf pool4 2 #[] #[] 1537 4 #[] #[])
  fields := #[]
  methods := #[]
  instanceTypes := #[]
  staticTypes := #[]
  resolved := Array.replicate 8 none
  statics := none }

def pool5 : Array CpInfo := pool [(1, u "java/io/Serializable"), (0, .class_ 1), (0, u "java/lang/Object"), (0, .class_ 3)] 3

/-- java/io/Serializable -/
def k5 : Class := { plain "java/io/Serializable" (some 0) with
  accessFlags := 1537
  interfaces := #[]
  cf := some (fileOf pool5 2 #[] #[] 1537 4 #[] #[])
  fields := #[]
  methods := #[]
  instanceTypes := #[]
  staticTypes := #[]
  resolved := Array.replicate 8 none
  statics := none }

/-- the primitive byte -/
def k6 : Class := { plain "byte" none with kind := .primitive 'B', accessFlags := 0x411 }
/-- [B -/
def k7 : Class := { plain "[B" (some 0) with kind := .array 6 .byte, interfaces := #[4, 5], accessFlags := 1041 }

/-- the primitive int -/
def k8 : Class := { plain "int" none with kind := .primitive 'I', accessFlags := 0x411 }
/-- [I -/
def k9 : Class := { plain "[I" (some 0) with kind := .array 8 .int, interfaces := #[4, 5], accessFlags := 1041 }

def heap : Heap := #[]
def classes : Array Class := #[k0, k1, k2, k3, k4, k5, k6, k7, k8, k9]
def interned : List (Array UInt16 × Addr) := []
def slotsUsed : Nat := 0
def theMethod : MethodId := ⟨1, 1⟩
def args0 : Array Value := #[.int 5]
def aboutOver (below : List Frame) : State where
  vm := { classes := classes, interned := interned.toArray }
  heap := heap
  slotsUsed := slotsUsed
  threads := #[{ frames := .invoking theMethod args0 :: below }]
def below0 : List Frame := [.native { method := ⟨0, 0⟩, args := #[] }]
def about1 : State := aboutOver below0
def p0 : Program := .bare "" "" ""
def e0 : Env := launch0.env 0 0 0
theorem w_frames : about1.frames = Frame.invoking theMethod args0 :: below0 := rfl
set_option maxRecDepth 65536 in
theorem w_args : argsFit about1.vm theMethod args0 = true := by decide +kernel
set_option maxRecDepth 65536 in
theorem w_heap : heapFits about1 = true := by decide +kernel
set_option maxRecDepth 65536 in
theorem w_runnable : about1.curStatus? = some .runnable := by decide +kernel
set_option maxRecDepth 65536 in
theorem w_alone : about1.alone = true := by decide +kernel
set_option maxRecDepth 65536 in
theorem w_named : about1.methodNamed? x = some theMethod := by decide +kernel
set_option maxRecDepth 65536 in
theorem w_hears : about1.hears theMethod below0 = true := by decide +kernel
set_option maxRecDepth 65536 in
theorem w_ripe : about1.ripe theMethod args0 below0 = true := by decide +kernel
theorem w_running : about1.status = .running := rfl
set_option maxRecDepth 65536 in
theorem w_room : about1.hasRoom e0.platform room_1 = true :=
  launch0.hasRoom_least _ room_1 (by decide +kernel) (by decide +kernel) (by decide +kernel) (by decide +kernel) (by decide +kernel) (by decide +kernel)
theorem allAtoms_all (ts : List Jvm.Cond) (a : Array Jvm.Value) (st : Jvm.State) : (allAtoms ts).before a st = ts.all (fun c => c.before a st) := by
  induction ts with
  | nil => rfl
  | cons c t ih =>
    show (Jvm.Cond.and c (allAtoms t)).before a st = _
    rw [Jvm.Cond.before_and, ih, List.all_cons]
def words1 : List Jvm.Cond := Jvm.Cond.code x code maxLocals ret :: tables_1
/-- a 'code' word, met by the world's own term for the bytes: nothing is compared byte by byte -/
theorem code_word {y : MethodName} {bytes : ByteArray} {mx : Nat} {rt : Option FieldType} {a : Array Value} {s : State} {m : MethodId} {meth : Method} {c : Code} (h1 : s.methodNamed? y = some m) (h2 : s.vm.method? m = some meth) (h3 : meth.code = some c) (h4 : c.code = bytes)
    (h5 : (c.maxLocals == mx && c.exceptionTable.isEmpty && decide (c.maxStack ≤ mostOperands) && decide (meth.sig.returnType = rt) && !meth.locks && decide (parseMethodDescriptor y.desc = some meth.sig)) = true) : (Jvm.Cond.code y bytes mx rt).before a s = true := by
  simp only [Bool.and_eq_true, beq_iff_eq, Bool.not_eq_true', decide_eq_true_eq] at h5
  obtain ⟨⟨⟨⟨⟨g1, g2⟩, g3⟩, g4⟩, g5⟩, g6⟩ := h5
  simp [Cond.before, Cond.holds, Cond.value, h1, h2, h3, h4, g1, g2, g3, g4, g5, g6]
def isCode : Jvm.Cond → Bool
  | .code _ _ _ _ => true
  | _ => false
theorem all_split {L : List Jvm.Cond} {P : Jvm.Cond → Bool} (h1 : L.all (fun c => isCode c || P c) = true) (h2 : ∀ c ∈ L.filter isCode, P c = true) : L.all P = true := by
  refine List.all_eq_true.mpr fun c hc => ?_
  have h := List.all_eq_true.mp h1 c hc
  rcases Bool.eq_false_or_eq_true (isCode c) with hi | hi
  · exact h2 c (List.mem_filter.mpr ⟨hc, hi⟩)
  · simpa [hi] using h
set_option maxRecDepth 65536 in
theorem w_c0 : (Jvm.Cond.code x code maxLocals ret).before args0 about1 = true := code_word (m := ⟨1, 1⟩) (meth := k1m1) (c := k1c1) (by decide +kernel) rfl rfl rfl (by decide +kernel)
set_option maxRecDepth 65536 in
theorem w_c1 : (Jvm.Cond.code ({ cls := "com/example/disburse/disburse/core/Account$Holds", name := "<init>", desc := "(ZZ)V" } : Jvm.MethodName) prog_2_method_1_code (3 : Nat) (Option.none : Option Jvm.ClassFile.FieldType)).before args0 about1 = true := code_word (m := ⟨3, 0⟩) (meth := k3m0) (c := k3c0) (by decide +kernel) rfl rfl rfl (by decide +kernel)
set_option maxRecDepth 65536 in
theorem w_c2 : (Jvm.Cond.code ({ cls := "java/lang/Record", name := "<init>", desc := "()V" } : Jvm.MethodName) jdk_30_method_1_code (1 : Nat) (Option.none : Option Jvm.ClassFile.FieldType)).before args0 about1 = true := code_word (m := ⟨2, 0⟩) (meth := k2m0) (c := k2c0) (by decide +kernel) rfl rfl rfl (by decide +kernel)
set_option maxRecDepth 65536 in
theorem w_c3 : (Jvm.Cond.code ({ cls := "java/lang/Object", name := "<init>", desc := "()V" } : Jvm.MethodName) object_method_1_code (1 : Nat) (Option.none : Option Jvm.ClassFile.FieldType)).before args0 about1 = true := code_word (m := ⟨0, 0⟩) (meth := k0m0) (c := k0c0) (by decide +kernel) rfl rfl rfl (by decide +kernel)
set_option maxRecDepth 65536 in
theorem w_c4 : (Jvm.Cond.code ({ cls := "com/example/disburse/disburse/core/Account$Holds", name := "any", desc := "()Z" } : Jvm.MethodName) prog_2_method_3_code (1 : Nat) (Option.some Jvm.ClassFile.FieldType.boolean)).before args0 about1 = true := code_word (m := ⟨3, 1⟩) (meth := k3m1) (c := k3c1) (by decide +kernel) rfl rfl rfl (by decide +kernel)
def codes1 : List Jvm.Cond := [Jvm.Cond.code x code maxLocals ret, Jvm.Cond.code ({ cls := "com/example/disburse/disburse/core/Account$Holds", name := "<init>", desc := "(ZZ)V" } : Jvm.MethodName) prog_2_method_1_code (3 : Nat) (Option.none : Option Jvm.ClassFile.FieldType), Jvm.Cond.code ({ cls := "java/lang/Record", name := "<init>", desc := "()V" } : Jvm.MethodName) jdk_30_method_1_code (1 : Nat) (Option.none : Option Jvm.ClassFile.FieldType), Jvm.Cond.code ({ cls := "java/lang/Object", name := "<init>", desc := "()V" } : Jvm.MethodName) object_method_1_code (1 : Nat) (Option.none : Option Jvm.ClassFile.FieldType), Jvm.Cond.code ({ cls := "com/example/disburse/disburse/core/Account$Holds", name := "any", desc := "()Z" } : Jvm.MethodName) prog_2_method_3_code (1 : Nat) (Option.some Jvm.ClassFile.FieldType.boolean)]
set_option maxRecDepth 65536 in
theorem codes_eq : words1.filter isCode = codes1 := rfl
theorem w_codes : ∀ c ∈ words1.filter isCode, c.before args0 about1 = true := by
  rw [codes_eq]
  intro c hc
  simp only [codes1, List.mem_cons, List.not_mem_nil, or_false] at hc
  rcases hc with rfl | rfl | rfl | rfl | rfl
  · exact w_c0
  · exact w_c1
  · exact w_c2
  · exact w_c3
  · exact w_c4
set_option maxRecDepth 65536 in
theorem w_t1 : words1.all (fun c => isCode c || c.before args0 about1) = true := by decide +kernel
theorem w_tables : (allAtoms (Jvm.Cond.code x code maxLocals ret :: tables_1)).before args0 about1 = true := by
  rw [allAtoms_all]
  show words1.all (fun c => c.before args0 about1) = true
  refine all_split ?_ w_codes
  rw [w_t1]
set_option maxRecDepth 65536 in
theorem w_case : (Jvm.Cond.and given_1 narrow_1).before args0 about1 = true := by decide +kernel
theorem w_applies : (headSpec (Jvm.Cond.code x code maxLocals ret :: tables_1) room_1).applies x e0.platform about1 = true :=
  (Spec.applies_iff w_frames).mpr ⟨w_running, w_runnable, w_alone, w_named, w_hears, w_ripe, w_room, w_tables⟩
theorem atStart : AtStart classFile x code maxLocals ret World_1 tables_1 room_1 Calls_1 rest_1 Pre_1 launch0 p0 e0 about1 theMethod args0 below0 :=
  ⟨lists_1, trivial, launch0.admits_env _ _ _, launch0.least_env, fairChoices_fair.cas, fairChoices_fair.clock, w_frames, w_args, w_heap, w_applies, trivial, trivial, w_case⟩
end start1
theorem witness_1 : WitnessClaimed_1 := ⟨start1.p0, start1.e0, start1.about1, start1.theMethod, start1.args0, start1.below0, start1.atStart⟩
end Jvm.Pilot.@@N@@
