import JvmDerived
import JvmDerived.Pilot.@@N@@Statement
import JvmDerived.Pilot.@@N@@Code
set_option linter.unusedVariables false
set_option linter.unusedSimpArgs false
namespace Jvm.Pilot.@@N@@
open Jvm Jvm.ClassFile Sem Op Lib Jvm.Free Jvm.Stand Jvm.LawKit Jvm.RoadKit Bundle Jvm.Pilot.@@N@@.Jvm.D
section Own
variable {p : Program} {l : Launch} {e : Env} {R : Room} {s : State} {m : MethodId} {args : Array Value} {below : List Frame} {meth : Method} {c : Code} {T : State} {locs : List Loc} {cells slots : Nat} {P : Option Value → Heap → List Loc → Prop} {kk nn : Nat}
/-- from U a run comes to an end at which P holds, within kk cells and nn slots -/
def Go (p : Program) (e : Env) (below : List Frame) (s : State) (P : Option Value → Heap → List Loc → Prop) (kk nn : Nat) (U : State) : Prop :=
  ∃ s₂ o, Steps p.tables e below U s₂ ∧ s₂.status = .running ∧ Ended s₂ below o ∧ ∃ v L, o = .returned v ∧ P v s₂.heap L ∧ FrameEnd s o s₂ L kk nn
theorem Go.pull {U V : State} (h : ∀ t, Steps p.tables e below V t → Steps p.tables e below U t) (g : Go p e below s P kk nn V) : Go p e below s P kk nn U := by
  obtain ⟨s2, o, h1, h2⟩ := g
  exact ⟨s2, o, h _ h1, h2⟩
theorem Go.fin (X : Stand p l e R s m args below meth c T locs cells slots) {f : JFrame} {v : Option Value} (hlk : meth.locks = false) (hv : meth.sig.returnType = none → v = none)
    (hs : ∀ fs, (∀ (f : JFrame) (acts : List Action), f.method = m → f.locked = none → f.entered = [] → (doReturn e (T.setTop f) acts v).1 = T.setFrames fs) → Steps p.tables e below (T.setTop f) (T.setFrames fs))
    (hP : P v T.heap locs) (hk : cells ≤ kk) (hn : slots ≤ nn) : Go p e below s P kk nn (T.setTop f) := by
  obtain ⟨fs, hr, hrun, hended, hW, hsame⟩ := X.leave (v := v) hv hlk
  exact ⟨_, _, hs fs hr, hrun, hended, _, _, rfl, hP, ⟨_, rfl⟩, hW, hsame.mono hk hn⟩
theorem Go.retN (X : Stand p l e R s m args below meth c T locs cells slots) (hx : p.tables.exec = Jvm.exec) (hlk : meth.locks = false) {pc : Nat} {Ls : Array Slot} {z : Int32} {t : FieldType} {rest : List Value} (hret : meth.sig.returnType = some t) (ht : t = .boolean ∨ t = .byte ∨ t = .char ∨ t = .short)
    (hd : decode c.code pc = .ok (.ireturn, 1)) (hP : P (some (.int (nar t z))) T.heap locs) (hk : cells ≤ kk) (hn : slots ≤ nn) : Go p e below s P kk nn (T.setTop (mkF m pc Ls (.int z :: rest))) :=
  Go.fin X hlk (fun h => by rw [hret] at h; cases h) (fun fs hr => RoadKit.retN X hx hret ht hd hr) hP hk hn
theorem Go.retI (X : Stand p l e R s m args below meth c T locs cells slots) (hx : p.tables.exec = Jvm.exec) (hlk : meth.locks = false) {pc : Nat} {Ls : Array Slot} {z : Int32} {rest : List Value} (hret : meth.sig.returnType = some .int)
    (hd : decode c.code pc = .ok (.ireturn, 1)) (hP : P (some (.int z)) T.heap locs) (hk : cells ≤ kk) (hn : slots ≤ nn) : Go p e below s P kk nn (T.setTop (mkF m pc Ls (.int z :: rest))) :=
  Go.fin X hlk (fun h => by rw [hret] at h; cases h) (fun fs hr => retOut X hx hret rfl (Or.inl ⟨rfl, Or.inl rfl, z, rfl⟩) hd hr) hP hk hn
theorem Go.retJ (X : Stand p l e R s m args below meth c T locs cells slots) (hx : p.tables.exec = Jvm.exec) (hlk : meth.locks = false) {pc : Nat} {Ls : Array Slot} {z : Int64} {rest : List Value} (hret : meth.sig.returnType = some .long)
    (hd : decode c.code pc = .ok (.lreturn, 1)) (hP : P (some (.long z)) T.heap locs) (hk : cells ≤ kk) (hn : slots ≤ nn) : Go p e below s P kk nn (T.setTop (mkF m pc Ls (.long z :: rest))) :=
  Go.fin X hlk (fun h => by rw [hret] at h; cases h) (fun fs hr => retOut X hx hret rfl (Or.inr (Or.inl ⟨rfl, rfl, z, rfl⟩)) hd hr) hP hk hn
theorem Go.retR (X : Stand p l e R s m args below meth c T locs cells slots) (hx : p.tables.exec = Jvm.exec) (hlk : meth.locks = false) {pc : Nat} {Ls : Array Slot} {w : Value} {t : FieldType} {rest : List Value} (hret : meth.sig.returnType = some t) (hna : narrow t w = w) (ht : t.isReference = true) (hw : w.isRef = true)
    (hd : decode c.code pc = .ok (.areturn, 1)) (hP : P (some w) T.heap locs) (hk : cells ≤ kk) (hn : slots ≤ nn) : Go p e below s P kk nn (T.setTop (mkF m pc Ls (w :: rest))) :=
  Go.fin X hlk (fun h => by rw [hret] at h; cases h) (fun fs hr => retOut X hx hret hna (Or.inr (Or.inr (Or.inr (Or.inr ⟨rfl, ht, hw⟩)))) hd hr) hP hk hn
theorem Go.ret0 (X : Stand p l e R s m args below meth c T locs cells slots) (hx : p.tables.exec = Jvm.exec) (hlk : meth.locks = false) {pc : Nat} {Ls : Array Slot} (hret : meth.sig.returnType = none)
    (hd : decode c.code pc = .ok (.return_, 1)) (hP : P none T.heap locs) (hk : cells ≤ kk) (hn : slots ≤ nn) : Go p e below s P kk nn (T.setTop (mkF m pc Ls [])) :=
  Go.fin X hlk (fun _ => rfl) (fun fs hr => X.returnOut hx hret hd hr) hP hk hn
theorem own_lsw {tb : Tables} [Ours tb] {e : Env} {below : List Frame} {T target : State} {m : MethodId} {c : Code} {g : JFrame} (h : At T m c below) (hx : tb.exec = Jvm.exec) (hg : g.method = m) {dflt : Int} {prs : Array (Int × Int)} {len : Nat} {o : Int} {pc0 pc' : Nat} (hpc : g.pc = pc0)
    (hd : decode c.code g.pc = .ok (.lookupswitch dflt prs, len)) {i : Int32} {rest : List Value} (hs : g.stack = .int i :: rest) (hord : (prs.toList.zip (prs.toList.drop 1)).all (fun (a, next) => a.1 < next.1) = true) (hoff : lookupswitch.offset prs.toList dflt i.toInt = o)
    (ho : 0 ≤ (pc0 : Int) + o) (hp : ((pc0 : Int) + o).toNat = pc') (hr : Steps tb e below (T.setTop { g with pc := pc', stack := rest }) target) : Steps tb e below (T.setTop g) target := by
  subst hg hpc hp hoff
  jvm_step h [h.top, hx, hd, hs, ho, lookupswitch.wp_chain]
  exact ⟨by simpa using hord, hr⟩
theorem own_eq_i {t : Term} {n : Int32} {first : State} {o : Option Outcome} {idx : List Nat} (h : (Cond.eq t (.int n)).value args first o s idx = some true) : t.eval args first o idx s = some (.int n) := by
  obtain ⟨x, y, e1, e2, k1, k2⟩ := cmp_v (Or.inl h)
  cases (Term.int_eval n).symm.trans e2
  obtain ⟨z, rfl⟩ : ∃ z, x = .int z := k2
  rw [e1, gotT (Cond.eq_ints e1 e2) h]
theorem own_eq_l {t : Term} {n : Int64} {first : State} {o : Option Outcome} {idx : List Nat} (h : (Cond.eq t (.long n)).value args first o s idx = some true) : t.eval args first o idx s = some (.long n) := by
  obtain ⟨x, y, e1, e2, k1, k2⟩ := cmp_v (Or.inl h)
  have e3 : (Term.long n).eval args first o idx s = some (.long n) := rfl
  cases e3.symm.trans e2
  obtain ⟨z, rfl⟩ : ∃ z, x = .long z := k2
  rw [e1, gotT (eq_L e1 e2) h]
theorem own_eq_r {t u : Term} {a : Addr} {first : State} {o : Option Outcome} {idx : List Nat} (hu : u.eval args first o idx s = some (.ref a)) (h : (Cond.eq t u).value args first o s idx = some true) : t.eval args first o idx s = some (.ref a) := by
  obtain ⟨x, y, e1, e2, k1, k2⟩ := cmp_v (Or.inl h)
  cases hu.symm.trans e2
  have k3 : (Value.ref a).isRef = true ∧ x.isRef = true := k2
  rw [e1, gotT (eq_R e1 e2 k3.2 rfl) h]
theorem own_sta_keep {Z : State} {h h' : Heap} {C n d : String} {w : Value} {ws : List Addr} (F : Sta Z h C n d w) (K : Keep h h' ws) (q : ∀ x ∈ ws, ∃ c : Cell, h[x]? = some c ∧ ∀ q, c.vm ≠ .statics q) : Sta Z h' C n d w := by
  obtain ⟨cf, i, k, f, st, cell, h1, h2, h3, h4, h5, h6, h7⟩ := F
  refine ⟨cf, i, k, f, st, cell, h1, h2, h3, h4, K.2.1 st cell h5 (fun hm => ?_), h6, h7⟩
  obtain ⟨c, hc, hq⟩ := q st hm
  cases h5.symm.trans hc
  cases hv : cell.vm with
  | statics r => exact hq r hv
  | _ => rw [hv] at h6; cases h6
end Own
theorem pd_0 : parseMethodDescriptor "()Lcom/example/disburse/disburse/core/Payout$Status;" = some ⟨[], some (.object "com/example/disburse/disburse/core/Payout$Status")⟩ := by decide +kernel
theorem pd_1 : parseMethodDescriptor "()Z" = some ⟨[], some .boolean⟩ := by decide +kernel
def own_isf (a w : Addr) : Int32 := if a = w then 0 else 1
theorem own_rem3 (x : Int32) {v : Int32} (h : ((x &&& (2147483647 : Int32)) % (3 : Int32)) = v) : v = 0 ∨ v = 1 ∨ v = 2 := by
  subst h
  have h0 : (x &&& (2147483647 : Int32)).toInt = x.toInt % (2 ^ 31 : Nat) := c_mask x 2147483647 31 (by decide) (by decide)
  have h1 : ((x &&& (2147483647 : Int32)) % (3 : Int32)).toInt = (x.toInt % (2 ^ 31 : Nat)) % 3 := by
    rw [← h0]; exact (c_irem _ _ 3 (by decide)).1 (by rw [h0]; omega)
  have h2 : (x.toInt % (2 ^ 31 : Nat)) % 3 = 0 ∨ (x.toInt % (2 ^ 31 : Nat)) % 3 = 1 ∨ (x.toInt % (2 ^ 31 : Nat)) % 3 = 2 := by omega
  rcases h2 with h2 | h2 | h2
  · exact (Or.inl (Int32.toInt_inj.mp (by rw [h1, h2] <;> rfl)))
  · exact (Or.inr (Or.inl (Int32.toInt_inj.mp (by rw [h1, h2] <;> rfl))))
  · exact (Or.inr (Or.inr (Int32.toInt_inj.mp (by rw [h1, h2] <;> rfl))))
theorem dA_0 : decode prog_46_method_4_code 0 = .ok (.aload_n 0, 1) := by decide +kernel
theorem dA_1 : decode prog_46_method_4_code 1 = .ok (.getfield 32, 3) := by decide +kernel
theorem dA_4 : decode prog_46_method_4_code 4 = .ok (.areturn, 1) := by decide +kernel
theorem efA (m : MethodId) (x0 : Addr) : entryFrame m #[(.ref x0)] 1 = mkF m 0 #[rv x0] [] := by first | (simp [entryFrame, mkF, argsToLocals, Value.category]; done) | rfl
theorem pn_com_example_disburse_disburse_core_Payout_Outcome : plainName "com/example/disburse/disburse/core/Payout$Outcome" = true := by first | (simp [plainName, overriddenIn]; done) | decide +kernel
def QA (Z : State) (a : Addr) (w : Addr) (h0 : Heap) (n0 : Nat) (v : Option Value) (h : Heap) (L : List Loc) : Prop := v = some (.ref w) ∧ Fr n0 L ∧ h = h0
set_option maxRecDepth 65536 in
set_option maxHeartbeats 40000000 in
theorem rmA (l : Launch) (Z : State) (a0 : Array Value) (hw : ∀ d ∈ tables_1, d.before a0 Z = true) (ws : List Jvm.Cond) (a : Addr) (w : Addr) (h0 : Heap) (n0 : Nat) (Fs : Fld Z h0 a "com/example/disburse/disburse/core/Payout$Outcome" "status" "Lcom/example/disburse/disburse/core/Payout$Status;" (.ref w)) :
    MetFree l (⟨"com/example/disburse/disburse/core/Payout$Outcome", "status", "()Lcom/example/disburse/disburse/core/Payout$Status;"⟩ : MethodName) (head1 (Jvm.Cond.code (⟨"com/example/disburse/disburse/core/Payout$Outcome", "status", "()Lcom/example/disburse/disburse/core/Payout$Status;"⟩ : MethodName) prog_46_method_4_code 1 (some (.object "com/example/disburse/disburse/core/Payout$Status")) :: ws) ({ frames := 0, cells := 0, slots := 0, locals := 0 } : Room)) (fun as' U => as' = #[(.ref a)] ∧ Z.Warmed39 U.vm ∧ U.heap = h0) (fun _ _ _ _ _ => True) (fun _ U o U' => ∃ v L, o = .returned v ∧ QA Z a w h0 n0 v U'.heap L ∧ FrameEnd U o U' L ({ frames := 0, cells := 0, slots := 0, locals := 0 } : Room).cells ({ frames := 0, cells := 0, slots := 0, locals := 0 } : Room).slots) := by
  refine MetFree.of_bodySF (plainFor_of_name pn_com_example_disburse_disburse_core_Payout_Outcome) hisR ?_
  intro p e s m args below meth c s₁ Bd hml0 hP hK
  obtain ⟨rfl, hZ, hh⟩ := hP
  have hx := Bd.exec
  have hby := Bd.bytes
  have hml : c.maxLocals = 1 := hml0
  have hown : s.vm.findClass "com/example/disburse/disburse/core/Payout$Outcome" = some m.cls := findClass_of_methodNamed Bd.named
  have hnm := (name_of_methodNamed Bd.named Bd.method).1
  have X0 : Stand p l e ({ frames := 0, cells := 0, slots := 0, locals := 0 } : Room) s m #[(.ref a)] below meth c s₁ [] 0 0 := Stand.of_body Bd
  have e0 : s₁.heap = h0 := by rw [← hh, Bd.state]; rfl
  have N0 := Fr.nil n0
  show Go p e below s (fun v h L => QA Z a w h0 n0 v h L) 0 0 _
  refine Go.pull (V := s₁.setTop (mkF m 0 #[rv a] [])) (fun t k => castTop (efA m a) k) ?_
  refine Go.pull (V := s₁.setTop (mkF m 1 #[rv a] [(.ref a)])) (fun t k => XS.aloadN X0.here hx rfl (hb hby dA_0) rfl rfl k) ?_
  obtain ⟨T1, X1, e1, st1⟩ := getF X0 hx hZ hown (host := "") (Or.inl (hw _ (List.mem_of_getElem? (i := 9) rfl))) Via.refl e0 Fs (g := (mkF m 1 #[rv a] [(.ref a)])) rfl rfl (hb hby dA_1)
  refine Go.pull (V := T1.setTop (mkF m 4 #[rv a] [(.ref w)])) st1 ?_
  exact Go.retR X1 hx Bd.notSynchronized Bd.returns rfl rfl rfl (hb hby dA_4) ⟨rfl, N0, e1⟩ (by decide) (by decide)
theorem dB_0 : decode prog_46_method_5_code 0 = .ok (.aload_n 0, 1) := by decide +kernel
theorem dB_1 : decode prog_46_method_5_code 1 = .ok (.getstatic 3, 3) := by decide +kernel
theorem dB_4 : decode prog_46_method_5_code 4 = .ok (.if_acmp .eq 7, 3) := by decide +kernel
theorem dB_7 : decode prog_46_method_5_code 7 = .ok (.iconst 1, 1) := by decide +kernel
theorem dB_8 : decode prog_46_method_5_code 8 = .ok (.goto 4, 3) := by decide +kernel
theorem dB_11 : decode prog_46_method_5_code 11 = .ok (.iconst 0, 1) := by decide +kernel
theorem dB_12 : decode prog_46_method_5_code 12 = .ok (.ireturn, 1) := by decide +kernel
theorem efB (m : MethodId) (x0 : Addr) : entryFrame m #[(.ref x0)] 1 = mkF m 0 #[rv x0] [] := by first | (simp [entryFrame, mkF, argsToLocals, Value.category]; done) | rfl
def QB (Z : State) (a : Addr) (w : Addr) (h0 : Heap) (n0 : Nat) (v : Option Value) (h : Heap) (L : List Loc) : Prop := v = some (.int (own_isf a w)) ∧ Fr n0 L ∧ h = h0
set_option maxRecDepth 65536 in
set_option maxHeartbeats 40000000 in
theorem rmB (l : Launch) (Z : State) (a0 : Array Value) (hw : ∀ d ∈ tables_1, d.before a0 Z = true) (ws : List Jvm.Cond) (a : Addr) (w : Addr) (h0 : Heap) (n0 : Nat) (Sp : Sta Z h0 "com/example/disburse/disburse/core/Payout$Outcome" "PAID" "Lcom/example/disburse/disburse/core/Payout$Outcome;" (.ref w)) :
    MetFree l (⟨"com/example/disburse/disburse/core/Payout$Outcome", "isFailure", "()Z"⟩ : MethodName) (head1 (Jvm.Cond.code (⟨"com/example/disburse/disburse/core/Payout$Outcome", "isFailure", "()Z"⟩ : MethodName) prog_46_method_5_code 1 (some .boolean) :: ws) ({ frames := 0, cells := 0, slots := 0, locals := 0 } : Room)) (fun as' U => as' = #[(.ref a)] ∧ Z.Warmed39 U.vm ∧ U.heap = h0) (fun _ _ _ _ _ => True) (fun _ U o U' => ∃ v L, o = .returned v ∧ QB Z a w h0 n0 v U'.heap L ∧ FrameEnd U o U' L ({ frames := 0, cells := 0, slots := 0, locals := 0 } : Room).cells ({ frames := 0, cells := 0, slots := 0, locals := 0 } : Room).slots) := by
  refine MetFree.of_bodySF (plainFor_of_name pn_com_example_disburse_disburse_core_Payout_Outcome) hisR ?_
  intro p e s m args below meth c s₁ Bd hml0 hP hK
  obtain ⟨rfl, hZ, hh⟩ := hP
  have hx := Bd.exec
  have hby := Bd.bytes
  have hml : c.maxLocals = 1 := hml0
  have hown : s.vm.findClass "com/example/disburse/disburse/core/Payout$Outcome" = some m.cls := findClass_of_methodNamed Bd.named
  have hnm := (name_of_methodNamed Bd.named Bd.method).1
  have X0 : Stand p l e ({ frames := 0, cells := 0, slots := 0, locals := 0 } : Room) s m #[(.ref a)] below meth c s₁ [] 0 0 := Stand.of_body Bd
  have e0 : s₁.heap = h0 := by rw [← hh, Bd.state]; rfl
  have N0 := Fr.nil n0
  show Go p e below s (fun v h L => QB Z a w h0 n0 v h L) 0 0 _
  refine Go.pull (V := s₁.setTop (mkF m 0 #[rv a] [])) (fun t k => castTop (efB m a) k) ?_
  refine Go.pull (V := s₁.setTop (mkF m 1 #[rv a] [(.ref a)])) (fun t k => XS.aloadN X0.here hx rfl (hb hby dB_0) rfl rfl k) ?_
  obtain ⟨T1, X1, e1, st1⟩ := getS2 X0 hx hZ hown (host := "") (Or.inl (hw _ (List.mem_of_getElem? (i := 22) rfl))) Via.refl e0 Sp (g := (mkF m 1 #[rv a] [(.ref a)])) rfl (hb hby dB_1)
  refine Go.pull (V := T1.setTop (mkF m 4 #[rv a] [(.ref w), (.ref a)])) st1 ?_
  by_cases hc4_2 : a = w
  · skip
    refine Go.pull (V := T1.setTop (mkF m 11 #[rv a] [])) (fun t k => XT.acmpYes X1.here hx rfl (pc0 := 4) (pc' := 11) rfl (hb hby dB_4) rfl rfl rfl (XT.aa_eq_t (congrArg Value.ref hc4_2)) (by decide) (by decide) k) ?_
    refine Go.pull (V := T1.setTop (mkF m 12 #[rv a] [(.int 0)])) (fun t k => XS.iconst X1.here hx rfl (hb hby dB_11) k) ?_
    exact Go.retN X1 hx Bd.notSynchronized (t := .boolean) Bd.returns (by simp) (hb hby dB_12) ⟨(by rw [own_isf, if_pos hc4_2] <;> rfl), N0, e1⟩ (by decide) (by decide)
  · skip
    refine Go.pull (V := T1.setTop (mkF m 7 #[rv a] [])) (fun t k => XT.acmpNo X1.here hx rfl (hb hby dB_4) rfl rfl rfl (XT.aa_eq_f (fun q => hc4_2 (Value.ref.inj q))) k) ?_
    refine Go.pull (V := T1.setTop (mkF m 8 #[rv a] [(.int 1)])) (fun t k => XS.iconst X1.here hx rfl (hb hby dB_7) k) ?_
    refine Go.pull (V := T1.setTop (mkF m 12 #[rv a] [(.int 1)])) (fun t k => XS.goto X1.here hx rfl (pc0 := 8) (pc' := 12) rfl (hb hby dB_8) (by decide) (by decide) k) ?_
    exact Go.retN X1 hx Bd.notSynchronized (t := .boolean) Bd.returns (by simp) (hb hby dB_12) ⟨(by rw [own_isf, if_neg hc4_2] <;> rfl), N0, e1⟩ (by decide) (by decide)
theorem ef0 (m : MethodId) (x0 : Int32) : entryFrame m #[(.int x0)] maxLocals = mkF m 0 #[iv x0, .unset, .unset, .unset, .unset, .unset] [] := by first | (simp [entryFrame, mkF, argsToLocals, Value.category, maxLocals]; done) | rfl
theorem pn_com_example_disburse_disburse_core_OutcomeIsFailurePinLaw : plainName "com/example/disburse/disburse/core/OutcomeIsFailurePinLaw" = true := by first | (simp [plainName, overriddenIn]; done) | decide +kernel
def Q0 (Z : State) (pk : Int32) (r_Payout_Outcome_PAID : Addr) (r_Payout_Status_PAID : Addr) (r_Payout_Status_FAILED : Addr) (r_Payout_Status_RETURNED : Addr) (r_Payout_Outcome_RETURNED : Addr) (r_Payout_Outcome_FAILED : Addr) (h0 : Heap) (n0 : Nat) (v : Option Value) (h : Heap) (L : List Loc) : Prop := v = some (.int 1) ∧ Fr n0 L
set_option maxRecDepth 65536 in
set_option maxHeartbeats 40000000 in
theorem rm0 (l : Launch) (Z : State) (a0 : Array Value) (hw : ∀ d ∈ tables_1, d.before a0 Z = true) (ws : List Jvm.Cond) (pk : Int32) (r_Payout_Outcome_PAID : Addr) (r_Payout_Status_PAID : Addr) (r_Payout_Status_FAILED : Addr) (r_Payout_Status_RETURNED : Addr) (r_Payout_Outcome_RETURNED : Addr) (r_Payout_Outcome_FAILED : Addr) (h0 : Heap) (n0 : Nat) (Z0 : n0 ≤ h0.size) (S_r_Payout_Outcome_PAID : Sta Z h0 "com/example/disburse/disburse/core/Payout$Outcome" "PAID" "Lcom/example/disburse/disburse/core/Payout$Outcome;" (.ref r_Payout_Outcome_PAID)) (E_r_Payout_Outcome_PAID : Exa Z h0 r_Payout_Outcome_PAID "com/example/disburse/disburse/core/Payout$Outcome") (S_r_Payout_Status_PAID : Sta Z h0 "com/example/disburse/disburse/core/Payout$Status" "PAID" "Lcom/example/disburse/disburse/core/Payout$Status;" (.ref r_Payout_Status_PAID)) (E_r_Payout_Status_PAID : Exa Z h0 r_Payout_Status_PAID "com/example/disburse/disburse/core/Payout$Status") (S_r_Payout_Status_FAILED : Sta Z h0 "com/example/disburse/disburse/core/Payout$Status" "FAILED" "Lcom/example/disburse/disburse/core/Payout$Status;" (.ref r_Payout_Status_FAILED)) (E_r_Payout_Status_FAILED : Exa Z h0 r_Payout_Status_FAILED "com/example/disburse/disburse/core/Payout$Status") (S_r_Payout_Status_RETURNED : Sta Z h0 "com/example/disburse/disburse/core/Payout$Status" "RETURNED" "Lcom/example/disburse/disburse/core/Payout$Status;" (.ref r_Payout_Status_RETURNED)) (E_r_Payout_Status_RETURNED : Exa Z h0 r_Payout_Status_RETURNED "com/example/disburse/disburse/core/Payout$Status") (S_r_Payout_Outcome_RETURNED : Sta Z h0 "com/example/disburse/disburse/core/Payout$Outcome" "RETURNED" "Lcom/example/disburse/disburse/core/Payout$Outcome;" (.ref r_Payout_Outcome_RETURNED)) (E_r_Payout_Outcome_RETURNED : Exa Z h0 r_Payout_Outcome_RETURNED "com/example/disburse/disburse/core/Payout$Outcome") (S_r_Payout_Outcome_FAILED : Sta Z h0 "com/example/disburse/disburse/core/Payout$Outcome" "FAILED" "Lcom/example/disburse/disburse/core/Payout$Outcome;" (.ref r_Payout_Outcome_FAILED)) (E_r_Payout_Outcome_FAILED : Exa Z h0 r_Payout_Outcome_FAILED "com/example/disburse/disburse/core/Payout$Outcome") (F_r_Payout_Outcome_PAID_status : Fld Z h0 r_Payout_Outcome_PAID "com/example/disburse/disburse/core/Payout$Outcome" "status" "Lcom/example/disburse/disburse/core/Payout$Status;" (.ref r_Payout_Status_PAID)) (F_r_Payout_Status_PAID_ordinal : Fld Z h0 r_Payout_Status_PAID "java/lang/Enum" "ordinal" "I" (.int 2)) (F_r_Payout_Status_FAILED_ordinal : Fld Z h0 r_Payout_Status_FAILED "java/lang/Enum" "ordinal" "I" (.int 3)) (F_r_Payout_Status_RETURNED_ordinal : Fld Z h0 r_Payout_Status_RETURNED "java/lang/Enum" "ordinal" "I" (.int 5)) (F_r_Payout_Outcome_RETURNED_status : Fld Z h0 r_Payout_Outcome_RETURNED "com/example/disburse/disburse/core/Payout$Outcome" "status" "Lcom/example/disburse/disburse/core/Payout$Status;" (.ref r_Payout_Status_RETURNED)) (F_r_Payout_Outcome_RETURNED_ordinal : Fld Z h0 r_Payout_Outcome_RETURNED "java/lang/Enum" "ordinal" "I" (.int 2)) (F_r_Payout_Outcome_PAID_ordinal : Fld Z h0 r_Payout_Outcome_PAID "java/lang/Enum" "ordinal" "I" (.int 0)) (F_r_Payout_Outcome_FAILED_status : Fld Z h0 r_Payout_Outcome_FAILED "com/example/disburse/disburse/core/Payout$Outcome" "status" "Lcom/example/disburse/disburse/core/Payout$Status;" (.ref r_Payout_Status_FAILED)) (F_r_Payout_Outcome_FAILED_ordinal : Fld Z h0 r_Payout_Outcome_FAILED "java/lang/Enum" "ordinal" "I" (.int 1)) :
    MetFree l x (head1 (Jvm.Cond.code x code maxLocals ret :: ws) room_1) (fun as' U => as' = #[(.int pk)] ∧ Z.Warmed39 U.vm ∧ U.heap = h0) (fun _ _ _ _ _ => True) (fun _ U o U' => ∃ v L, o = .returned v ∧ Q0 Z pk r_Payout_Outcome_PAID r_Payout_Status_PAID r_Payout_Status_FAILED r_Payout_Status_RETURNED r_Payout_Outcome_RETURNED r_Payout_Outcome_FAILED h0 n0 v U'.heap L ∧ FrameEnd U o U' L 0 0) := by
  refine MetFree.of_bodySF (plainFor_of_name pn_com_example_disburse_disburse_core_OutcomeIsFailurePinLaw) hisR ?_
  intro p e s m args below meth c s₁ Bd hml0 hP hK
  obtain ⟨rfl, hZ, hh⟩ := hP
  have hx := Bd.exec
  have hby := Bd.bytes
  have hml : c.maxLocals = 6 := hml0
  have hown : s.vm.findClass "com/example/disburse/disburse/core/OutcomeIsFailurePinLaw" = some m.cls := findClass_of_methodNamed Bd.named
  have hnm := (name_of_methodNamed Bd.named Bd.method).1
  have X0 : Stand p l e room_1 s m #[(.int pk)] below meth c s₁ [] 0 0 := Stand.of_body Bd
  have e0 : s₁.heap = h0 := by rw [← hh, Bd.state]; rfl
  have N0 := Fr.nil n0
  show Go p e below s (fun v h L => Q0 Z pk r_Payout_Outcome_PAID r_Payout_Status_PAID r_Payout_Status_FAILED r_Payout_Status_RETURNED r_Payout_Outcome_RETURNED r_Payout_Outcome_FAILED h0 n0 v h L) 0 0 _
  refine Go.pull (V := s₁.setTop (mkF m 0 #[iv pk, .unset, .unset, .unset, .unset, .unset] [])) (fun t k => castTop (ef0 m pk) k) ?_
  refine Go.pull (V := s₁.setTop (mkF m 1 #[iv pk, .unset, .unset, .unset, .unset, .unset] [(.int pk)])) (fun t k => XS.iloadN X0.here hx rfl (hb hby at_0) rfl  k) ?_
  refine Go.pull (V := s₁.setTop (mkF m 3 #[iv pk, .unset, .unset, .unset, .unset, .unset] [(.int 2147483647), (.int pk)])) (fun t k => X0.ldcInt hx hown (mvT hZ (hw _ (List.mem_of_getElem? (i := 0) rfl))) (g := (mkF m 1 #[iv pk, .unset, .unset, .unset, .unset, .unset] [(.int pk)])) rfl (hb hby at_1) _ k) ?_
  refine Go.pull (V := s₁.setTop (mkF m 4 #[iv pk, .unset, .unset, .unset, .unset, .unset] [(.int (pk &&& (2147483647 : Int32)))])) (fun t k => XS.iand X0.here hx rfl (hb hby at_3) rfl k) ?_
  refine Go.pull (V := s₁.setTop (mkF m 5 #[iv pk, .unset, .unset, .unset, .unset, .unset] [(.int 3), (.int (pk &&& (2147483647 : Int32)))])) (fun t k => XS.iconst X0.here hx rfl (hb hby at_4) k) ?_
  refine Go.pull (V := s₁.setTop (mkF m 6 #[iv pk, .unset, .unset, .unset, .unset, .unset] [(.int ((pk &&& (2147483647 : Int32)) % (3 : Int32)))])) (fun t k => iremM X0 hx rfl (hb hby at_5) rfl (by decide) k) ?_
  refine Go.pull (V := s₁.setTop (mkF m 7 #[iv pk, iv ((pk &&& (2147483647 : Int32)) % (3 : Int32)), .unset, .unset, .unset, .unset] [])) (fun t k => XS.istoreN X0.here hx rfl (hb hby at_6) rfl (l' := #[iv pk, iv ((pk &&& (2147483647 : Int32)) % (3 : Int32)), .unset, .unset, .unset, .unset]) rfl k) ?_
  generalize gv1 : ((pk &&& (2147483647 : Int32)) % (3 : Int32)) = v1
  obtain hv1 | hv1 | hv1 := own_rem3 _ gv1
  · subst hv1
    refine Go.pull (V := s₁.setTop (mkF m 8 #[iv pk, iv 0, .unset, .unset, .unset, .unset] [(.int 0)])) (fun t k => XS.iloadN X0.here hx rfl (hb hby at_7) rfl  k) ?_
    refine Go.pull (V := s₁.setTop (mkF m 11 #[iv pk, iv 0, .unset, .unset, .unset, .unset] [])) (fun t k => XS.ifNo X0.here hx rfl (hb hby at_8) rfl (XT.i0_ne_f (by decide)) k) ?_
    obtain ⟨T2, X2, e2, st2⟩ := getS2 X0 hx hZ hown (host := "") (Or.inl (hw _ (List.mem_of_getElem? (i := 1) rfl))) Via.refl e0 S_r_Payout_Outcome_PAID (g := (mkF m 11 #[iv pk, iv 0, .unset, .unset, .unset, .unset] [])) rfl (hb hby at_11)
    refine Go.pull (V := T2.setTop (mkF m 14 #[iv pk, iv 0, .unset, .unset, .unset, .unset] [(.ref r_Payout_Outcome_PAID)])) st2 ?_
    refine Go.pull (V := T2.setTop (mkF m 15 #[iv pk, iv 0, rv r_Payout_Outcome_PAID, .unset, .unset, .unset] [])) (fun t k => XS.astoreN X2.here hx rfl (hb hby at_14) rfl rfl (l' := #[iv pk, iv 0, rv r_Payout_Outcome_PAID, .unset, .unset, .unset]) rfl k) ?_
    refine Go.pull (V := T2.setTop (mkF m 34 #[iv pk, iv 0, rv r_Payout_Outcome_PAID, .unset, .unset, .unset] [])) (fun t k => XS.goto X2.here hx rfl (pc0 := 15) (pc' := 34) rfl (hb hby at_15) (by decide) (by decide) k) ?_
    refine Go.pull (V := T2.setTop (mkF m 35 #[iv pk, iv 0, rv r_Payout_Outcome_PAID, .unset, .unset, .unset] [(.int 0)])) (fun t k => XS.iloadN X2.here hx rfl (hb hby at_34) rfl  k) ?_
    refine Go.pull (V := T2.setTop (mkF m 42 #[iv pk, iv 0, rv r_Payout_Outcome_PAID, .unset, .unset, .unset] [])) (fun t k => XS.ifYes X2.here hx rfl (pc0 := 35) (pc' := 42) rfl (hb hby at_35) rfl (XT.i0_eq_t (by decide)) (by decide) (by decide) k) ?_
    refine Go.pull (V := T2.setTop (mkF m 43 #[iv pk, iv 0, rv r_Payout_Outcome_PAID, .unset, .unset, .unset] [(.int 0)])) (fun t k => XS.iconst X2.here hx rfl (hb hby at_42) k) ?_
    refine Go.pull (V := T2.setTop (mkF m 44 #[iv pk, iv 0, rv r_Payout_Outcome_PAID, iv 0, .unset, .unset] [])) (fun t k => XS.istoreN X2.here hx rfl (hb hby at_43) rfl (l' := #[iv pk, iv 0, rv r_Payout_Outcome_PAID, iv 0, .unset, .unset]) rfl k) ?_
    refine Go.pull (V := T2.setTop (mkF m 45 #[iv pk, iv 0, rv r_Payout_Outcome_PAID, iv 0, .unset, .unset] [(.ref r_Payout_Outcome_PAID)])) (fun t k => XS.aloadN X2.here hx rfl (hb hby at_44) rfl rfl k) ?_
    obtain ⟨cq3, kq3, q3a, q3b, q3c⟩ := isOf hZ e2 E_r_Payout_Outcome_PAID
    obtain ⟨_, _, ⟨T3, L3, k3, n3⟩, -, X3, ⟨Lc3, hQ3, l3, y3, z3⟩, st3⟩ := X2.virtualBack hx (y := (⟨"com/example/disburse/disburse/core/Payout$Outcome", "status", "()Lcom/example/disburse/disburse/core/Payout$Status;"⟩ : MethodName)) (z := (⟨"com/example/disburse/disburse/core/Payout$Outcome", "status", "()Lcom/example/disburse/disburse/core/Payout$Status;"⟩ : MethodName)) hown (mvT hZ (hw _ (List.mem_of_getElem? (i := 4) rfl))) (mvT hZ (hw _ (List.mem_of_getElem? (i := 5) rfl))) (notFace_of_selects (args := #[]) (mvT hZ (hw _ (List.mem_of_getElem? (i := 7) rfl)))) (mvT hZ (hw _ (List.mem_of_getElem? (i := 7) rfl))) (mvT hZ (hw _ (List.mem_of_getElem? (i := 6) rfl))) (by decide) (backOf (W := 0) (rmA l Z a0 hw [] r_Payout_Outcome_PAID r_Payout_Status_PAID h0 n0 F_r_Payout_Outcome_PAID_status) hZ (hw _ (List.mem_of_getElem? (i := 8) rfl)) (hw _ (List.mem_of_getElem? (i := 2) rfl)) (by decide) (by decide)) q3a q3c (g := (mkF m 45 #[iv pk, iv 0, rv r_Payout_Outcome_PAID, iv 0, .unset, .unset] [(.ref r_Payout_Outcome_PAID)])) rfl (by rw [hml]; rfl) (Steps.refl _) (argsL := []) (rest := []) (lenOf pd_0 rfl) rfl (by show 2 * 0 + _ ≤ _; exact Nat.le_of_eq rfl) (hb hby at_45) (fun _ _ => ⟨rfl, e2, (by decide : 0 + 0 ≤ _), (by decide : 0 + 0 ≤ _)⟩)
    dsimp only [Pt.U, Pt.locs, Pt.cells, Pt.slots] at X3 l3 y3 z3 st3 hQ3
    subst l3 y3 z3
    obtain ⟨rfl, N3q, e3⟩ := hQ3
    have N3 := Fr.app N0 N3q
    refine Go.pull (V := T3.setTop (mkF m 48 #[iv pk, iv 0, rv r_Payout_Outcome_PAID, iv 0, .unset, .unset] [(.ref r_Payout_Status_PAID)])) (fun _ k => st3.trans k) ?_
    refine Go.pull (V := T3.setTop (mkF m 50 #[iv pk, iv 0, rv r_Payout_Outcome_PAID, iv 0, rv r_Payout_Status_PAID, .unset] [])) (fun t k => XS.astore X3.here hx rfl (hb hby at_48) rfl rfl (l' := #[iv pk, iv 0, rv r_Payout_Outcome_PAID, iv 0, rv r_Payout_Status_PAID, .unset]) rfl k) ?_
    refine Go.pull (V := T3.setTop (mkF m 52 #[iv pk, iv 0, rv r_Payout_Outcome_PAID, iv 0, rv r_Payout_Status_PAID, .unset] [(.ref r_Payout_Status_PAID)])) (fun t k => XS.aload X3.here hx rfl (hb hby at_50) rfl rfl k) ?_
    obtain ⟨T4, X4, e4, st4⟩ := getS2 X3 hx hZ hown (host := "") (Or.inl (hw _ (List.mem_of_getElem? (i := 13) rfl))) Via.refl e3 S_r_Payout_Status_FAILED (g := (mkF m 52 #[iv pk, iv 0, rv r_Payout_Outcome_PAID, iv 0, rv r_Payout_Status_PAID, .unset] [(.ref r_Payout_Status_PAID)])) rfl (hb hby at_52)
    refine Go.pull (V := T4.setTop (mkF m 55 #[iv pk, iv 0, rv r_Payout_Outcome_PAID, iv 0, rv r_Payout_Status_PAID, .unset] [(.ref r_Payout_Status_FAILED), (.ref r_Payout_Status_PAID)])) st4 ?_
    refine Go.pull (V := T4.setTop (mkF m 58 #[iv pk, iv 0, rv r_Payout_Outcome_PAID, iv 0, rv r_Payout_Status_PAID, .unset] [])) (fun t k => XT.acmpNo X4.here hx rfl (hb hby at_55) rfl rfl rfl (XT.aa_eq_f (fun q => (Ne.symm (F_r_Payout_Status_FAILED_ordinal.ne F_r_Payout_Status_PAID_ordinal (fun q => absurd (Value.int.inj q) (by decide)))) (Value.ref.inj q))) k) ?_
    refine Go.pull (V := T4.setTop (mkF m 60 #[iv pk, iv 0, rv r_Payout_Outcome_PAID, iv 0, rv r_Payout_Status_PAID, .unset] [(.ref r_Payout_Status_PAID)])) (fun t k => XS.aload X4.here hx rfl (hb hby at_58) rfl rfl k) ?_
    obtain ⟨T5, X5, e5, st5⟩ := getS2 X4 hx hZ hown (host := "") (Or.inl (hw _ (List.mem_of_getElem? (i := 15) rfl))) Via.refl e4 S_r_Payout_Status_RETURNED (g := (mkF m 60 #[iv pk, iv 0, rv r_Payout_Outcome_PAID, iv 0, rv r_Payout_Status_PAID, .unset] [(.ref r_Payout_Status_PAID)])) rfl (hb hby at_60)
    refine Go.pull (V := T5.setTop (mkF m 63 #[iv pk, iv 0, rv r_Payout_Outcome_PAID, iv 0, rv r_Payout_Status_PAID, .unset] [(.ref r_Payout_Status_RETURNED), (.ref r_Payout_Status_PAID)])) st5 ?_
    refine Go.pull (V := T5.setTop (mkF m 70 #[iv pk, iv 0, rv r_Payout_Outcome_PAID, iv 0, rv r_Payout_Status_PAID, .unset] [])) (fun t k => XT.acmpYes X5.here hx rfl (pc0 := 63) (pc' := 70) rfl (hb hby at_63) rfl rfl rfl (XT.aa_ne_t (fun q => (Ne.symm (F_r_Payout_Status_RETURNED_ordinal.ne F_r_Payout_Status_PAID_ordinal (fun q => absurd (Value.int.inj q) (by decide)))) (Value.ref.inj q))) (by decide) (by decide) k) ?_
    refine Go.pull (V := T5.setTop (mkF m 71 #[iv pk, iv 0, rv r_Payout_Outcome_PAID, iv 0, rv r_Payout_Status_PAID, .unset] [(.int 0)])) (fun t k => XS.iconst X5.here hx rfl (hb hby at_70) k) ?_
    refine Go.pull (V := T5.setTop (mkF m 73 #[iv pk, iv 0, rv r_Payout_Outcome_PAID, iv 0, rv r_Payout_Status_PAID, iv 0] [])) (fun t k => XS.istore X5.here hx rfl (hb hby at_71) rfl (l' := #[iv pk, iv 0, rv r_Payout_Outcome_PAID, iv 0, rv r_Payout_Status_PAID, iv 0]) rfl k) ?_
    refine Go.pull (V := T5.setTop (mkF m 74 #[iv pk, iv 0, rv r_Payout_Outcome_PAID, iv 0, rv r_Payout_Status_PAID, iv 0] [(.ref r_Payout_Outcome_PAID)])) (fun t k => XS.aloadN X5.here hx rfl (hb hby at_73) rfl rfl k) ?_
    obtain ⟨cq6, kq6, q6a, q6b, q6c⟩ := isOf hZ e5 E_r_Payout_Outcome_PAID
    obtain ⟨_, _, ⟨T6, L6, k6, n6⟩, -, X6, ⟨Lc6, hQ6, l6, y6, z6⟩, st6⟩ := X5.virtualBack hx (y := (⟨"com/example/disburse/disburse/core/Payout$Outcome", "isFailure", "()Z"⟩ : MethodName)) (z := (⟨"com/example/disburse/disburse/core/Payout$Outcome", "isFailure", "()Z"⟩ : MethodName)) hown (mvT hZ (hw _ (List.mem_of_getElem? (i := 17) rfl))) (mvT hZ (hw _ (List.mem_of_getElem? (i := 18) rfl))) (notFace_of_selects (args := #[]) (mvT hZ (hw _ (List.mem_of_getElem? (i := 20) rfl)))) (mvT hZ (hw _ (List.mem_of_getElem? (i := 20) rfl))) (mvT hZ (hw _ (List.mem_of_getElem? (i := 19) rfl))) (by decide) (backOf (W := 0) (rmB l Z a0 hw [] r_Payout_Outcome_PAID r_Payout_Outcome_PAID h0 n0 S_r_Payout_Outcome_PAID) hZ (hw _ (List.mem_of_getElem? (i := 21) rfl)) (hw _ (List.mem_of_getElem? (i := 2) rfl)) (by decide) (by decide)) q6a q6c (g := (mkF m 74 #[iv pk, iv 0, rv r_Payout_Outcome_PAID, iv 0, rv r_Payout_Status_PAID, iv 0] [(.ref r_Payout_Outcome_PAID)])) rfl (by rw [hml]; rfl) (Steps.refl _) (argsL := []) (rest := []) (lenOf pd_1 rfl) rfl (by show 2 * 0 + _ ≤ _; exact Nat.le_of_eq rfl) (hb hby at_74) (fun _ _ => ⟨rfl, e5, (by decide : 0 + 0 ≤ _), (by decide : 0 + 0 ≤ _)⟩)
    dsimp only [Pt.U, Pt.locs, Pt.cells, Pt.slots] at X6 l6 y6 z6 st6 hQ6
    subst l6 y6 z6
    obtain ⟨hv6, N6q, e6⟩ := hQ6
    rw [(show (own_isf r_Payout_Outcome_PAID r_Payout_Outcome_PAID) = (0 : Int32) from if_pos rfl)] at hv6; subst hv6
    have N6 := Fr.app N3 N6q
    refine Go.pull (V := T6.setTop (mkF m 77 #[iv pk, iv 0, rv r_Payout_Outcome_PAID, iv 0, rv r_Payout_Status_PAID, iv 0] [(.int 0)])) (fun _ k => st6.trans k) ?_
    refine Go.pull (V := T6.setTop (mkF m 78 #[iv pk, iv 0, rv r_Payout_Outcome_PAID, iv 0, rv r_Payout_Status_PAID, iv 0] [(.int 0), (.int 0)])) (fun t k => XS.iloadN X6.here hx rfl (hb hby at_77) rfl  k) ?_
    refine Go.pull (V := T6.setTop (mkF m 81 #[iv pk, iv 0, rv r_Payout_Outcome_PAID, iv 0, rv r_Payout_Status_PAID, iv 0] [])) (fun t k => XS.icmpNo X6.here hx rfl (hb hby at_78) rfl (XT.ii_ne_f (by decide)) k) ?_
    refine Go.pull (V := T6.setTop (mkF m 83 #[iv pk, iv 0, rv r_Payout_Outcome_PAID, iv 0, rv r_Payout_Status_PAID, iv 0] [(.int 0)])) (fun t k => XS.iload X6.here hx rfl (hb hby at_81) rfl  k) ?_
    refine Go.pull (V := T6.setTop (mkF m 84 #[iv pk, iv 0, rv r_Payout_Outcome_PAID, iv 0, rv r_Payout_Status_PAID, iv 0] [(.int 0), (.int 0)])) (fun t k => XS.iloadN X6.here hx rfl (hb hby at_83) rfl  k) ?_
    refine Go.pull (V := T6.setTop (mkF m 87 #[iv pk, iv 0, rv r_Payout_Outcome_PAID, iv 0, rv r_Payout_Status_PAID, iv 0] [])) (fun t k => XS.icmpNo X6.here hx rfl (hb hby at_84) rfl (XT.ii_ne_f (by decide)) k) ?_
    refine Go.pull (V := T6.setTop (mkF m 88 #[iv pk, iv 0, rv r_Payout_Outcome_PAID, iv 0, rv r_Payout_Status_PAID, iv 0] [(.int 1)])) (fun t k => XS.iconst X6.here hx rfl (hb hby at_87) k) ?_
    refine Go.pull (V := T6.setTop (mkF m 92 #[iv pk, iv 0, rv r_Payout_Outcome_PAID, iv 0, rv r_Payout_Status_PAID, iv 0] [(.int 1)])) (fun t k => XS.goto X6.here hx rfl (pc0 := 88) (pc' := 92) rfl (hb hby at_88) (by decide) (by decide) k) ?_
    exact Go.retN X6 hx Bd.notSynchronized (t := .boolean) Bd.returns (by simp) (hb hby at_92) ⟨rfl, N6⟩ (by decide) (by decide)
  · subst hv1
    refine Go.pull (V := s₁.setTop (mkF m 8 #[iv pk, iv 1, .unset, .unset, .unset, .unset] [(.int 1)])) (fun t k => XS.iloadN X0.here hx rfl (hb hby at_7) rfl  k) ?_
    refine Go.pull (V := s₁.setTop (mkF m 18 #[iv pk, iv 1, .unset, .unset, .unset, .unset] [])) (fun t k => XS.ifYes X0.here hx rfl (pc0 := 8) (pc' := 18) rfl (hb hby at_8) rfl (XT.i0_ne_t (by decide)) (by decide) (by decide) k) ?_
    refine Go.pull (V := s₁.setTop (mkF m 19 #[iv pk, iv 1, .unset, .unset, .unset, .unset] [(.int 1)])) (fun t k => XS.iloadN X0.here hx rfl (hb hby at_18) rfl  k) ?_
    refine Go.pull (V := s₁.setTop (mkF m 20 #[iv pk, iv 1, .unset, .unset, .unset, .unset] [(.int 1), (.int 1)])) (fun t k => XS.iconst X0.here hx rfl (hb hby at_19) k) ?_
    refine Go.pull (V := s₁.setTop (mkF m 23 #[iv pk, iv 1, .unset, .unset, .unset, .unset] [])) (fun t k => XS.icmpNo X0.here hx rfl (hb hby at_20) rfl (XT.ii_ne_f (by decide)) k) ?_
    obtain ⟨T7, X7, e7, st7⟩ := getS2 X0 hx hZ hown (host := "") (Or.inl (hw _ (List.mem_of_getElem? (i := 25) rfl))) Via.refl e0 S_r_Payout_Outcome_FAILED (g := (mkF m 23 #[iv pk, iv 1, .unset, .unset, .unset, .unset] [])) rfl (hb hby at_23)
    refine Go.pull (V := T7.setTop (mkF m 26 #[iv pk, iv 1, .unset, .unset, .unset, .unset] [(.ref r_Payout_Outcome_FAILED)])) st7 ?_
    refine Go.pull (V := T7.setTop (mkF m 27 #[iv pk, iv 1, rv r_Payout_Outcome_FAILED, .unset, .unset, .unset] [])) (fun t k => XS.astoreN X7.here hx rfl (hb hby at_26) rfl rfl (l' := #[iv pk, iv 1, rv r_Payout_Outcome_FAILED, .unset, .unset, .unset]) rfl k) ?_
    refine Go.pull (V := T7.setTop (mkF m 34 #[iv pk, iv 1, rv r_Payout_Outcome_FAILED, .unset, .unset, .unset] [])) (fun t k => XS.goto X7.here hx rfl (pc0 := 27) (pc' := 34) rfl (hb hby at_27) (by decide) (by decide) k) ?_
    refine Go.pull (V := T7.setTop (mkF m 35 #[iv pk, iv 1, rv r_Payout_Outcome_FAILED, .unset, .unset, .unset] [(.int 1)])) (fun t k => XS.iloadN X7.here hx rfl (hb hby at_34) rfl  k) ?_
    refine Go.pull (V := T7.setTop (mkF m 38 #[iv pk, iv 1, rv r_Payout_Outcome_FAILED, .unset, .unset, .unset] [])) (fun t k => XS.ifNo X7.here hx rfl (hb hby at_35) rfl (XT.i0_eq_f (by decide)) k) ?_
    refine Go.pull (V := T7.setTop (mkF m 39 #[iv pk, iv 1, rv r_Payout_Outcome_FAILED, .unset, .unset, .unset] [(.int 1)])) (fun t k => XS.iconst X7.here hx rfl (hb hby at_38) k) ?_
    refine Go.pull (V := T7.setTop (mkF m 43 #[iv pk, iv 1, rv r_Payout_Outcome_FAILED, .unset, .unset, .unset] [(.int 1)])) (fun t k => XS.goto X7.here hx rfl (pc0 := 39) (pc' := 43) rfl (hb hby at_39) (by decide) (by decide) k) ?_
    refine Go.pull (V := T7.setTop (mkF m 44 #[iv pk, iv 1, rv r_Payout_Outcome_FAILED, iv 1, .unset, .unset] [])) (fun t k => XS.istoreN X7.here hx rfl (hb hby at_43) rfl (l' := #[iv pk, iv 1, rv r_Payout_Outcome_FAILED, iv 1, .unset, .unset]) rfl k) ?_
    refine Go.pull (V := T7.setTop (mkF m 45 #[iv pk, iv 1, rv r_Payout_Outcome_FAILED, iv 1, .unset, .unset] [(.ref r_Payout_Outcome_FAILED)])) (fun t k => XS.aloadN X7.here hx rfl (hb hby at_44) rfl rfl k) ?_
    obtain ⟨cq8, kq8, q8a, q8b, q8c⟩ := isOf hZ e7 E_r_Payout_Outcome_FAILED
    obtain ⟨_, _, ⟨T8, L8, k8, n8⟩, -, X8, ⟨Lc8, hQ8, l8, y8, z8⟩, st8⟩ := X7.virtualBack hx (y := (⟨"com/example/disburse/disburse/core/Payout$Outcome", "status", "()Lcom/example/disburse/disburse/core/Payout$Status;"⟩ : MethodName)) (z := (⟨"com/example/disburse/disburse/core/Payout$Outcome", "status", "()Lcom/example/disburse/disburse/core/Payout$Status;"⟩ : MethodName)) hown (mvT hZ (hw _ (List.mem_of_getElem? (i := 4) rfl))) (mvT hZ (hw _ (List.mem_of_getElem? (i := 5) rfl))) (notFace_of_selects (args := #[]) (mvT hZ (hw _ (List.mem_of_getElem? (i := 7) rfl)))) (mvT hZ (hw _ (List.mem_of_getElem? (i := 7) rfl))) (mvT hZ (hw _ (List.mem_of_getElem? (i := 6) rfl))) (by decide) (backOf (W := 0) (rmA l Z a0 hw [] r_Payout_Outcome_FAILED r_Payout_Status_FAILED h0 n0 F_r_Payout_Outcome_FAILED_status) hZ (hw _ (List.mem_of_getElem? (i := 8) rfl)) (hw _ (List.mem_of_getElem? (i := 2) rfl)) (by decide) (by decide)) q8a q8c (g := (mkF m 45 #[iv pk, iv 1, rv r_Payout_Outcome_FAILED, iv 1, .unset, .unset] [(.ref r_Payout_Outcome_FAILED)])) rfl (by rw [hml]; rfl) (Steps.refl _) (argsL := []) (rest := []) (lenOf pd_0 rfl) rfl (by show 2 * 0 + _ ≤ _; exact Nat.le_of_eq rfl) (hb hby at_45) (fun _ _ => ⟨rfl, e7, (by decide : 0 + 0 ≤ _), (by decide : 0 + 0 ≤ _)⟩)
    dsimp only [Pt.U, Pt.locs, Pt.cells, Pt.slots] at X8 l8 y8 z8 st8 hQ8
    subst l8 y8 z8
    obtain ⟨rfl, N8q, e8⟩ := hQ8
    have N8 := Fr.app N0 N8q
    refine Go.pull (V := T8.setTop (mkF m 48 #[iv pk, iv 1, rv r_Payout_Outcome_FAILED, iv 1, .unset, .unset] [(.ref r_Payout_Status_FAILED)])) (fun _ k => st8.trans k) ?_
    refine Go.pull (V := T8.setTop (mkF m 50 #[iv pk, iv 1, rv r_Payout_Outcome_FAILED, iv 1, rv r_Payout_Status_FAILED, .unset] [])) (fun t k => XS.astore X8.here hx rfl (hb hby at_48) rfl rfl (l' := #[iv pk, iv 1, rv r_Payout_Outcome_FAILED, iv 1, rv r_Payout_Status_FAILED, .unset]) rfl k) ?_
    refine Go.pull (V := T8.setTop (mkF m 52 #[iv pk, iv 1, rv r_Payout_Outcome_FAILED, iv 1, rv r_Payout_Status_FAILED, .unset] [(.ref r_Payout_Status_FAILED)])) (fun t k => XS.aload X8.here hx rfl (hb hby at_50) rfl rfl k) ?_
    obtain ⟨T9, X9, e9, st9⟩ := getS2 X8 hx hZ hown (host := "") (Or.inl (hw _ (List.mem_of_getElem? (i := 13) rfl))) Via.refl e8 S_r_Payout_Status_FAILED (g := (mkF m 52 #[iv pk, iv 1, rv r_Payout_Outcome_FAILED, iv 1, rv r_Payout_Status_FAILED, .unset] [(.ref r_Payout_Status_FAILED)])) rfl (hb hby at_52)
    refine Go.pull (V := T9.setTop (mkF m 55 #[iv pk, iv 1, rv r_Payout_Outcome_FAILED, iv 1, rv r_Payout_Status_FAILED, .unset] [(.ref r_Payout_Status_FAILED), (.ref r_Payout_Status_FAILED)])) st9 ?_
    refine Go.pull (V := T9.setTop (mkF m 66 #[iv pk, iv 1, rv r_Payout_Outcome_FAILED, iv 1, rv r_Payout_Status_FAILED, .unset] [])) (fun t k => XT.acmpYes X9.here hx rfl (pc0 := 55) (pc' := 66) rfl (hb hby at_55) rfl rfl rfl (XT.aa_eq_t rfl) (by decide) (by decide) k) ?_
    refine Go.pull (V := T9.setTop (mkF m 67 #[iv pk, iv 1, rv r_Payout_Outcome_FAILED, iv 1, rv r_Payout_Status_FAILED, .unset] [(.int 1)])) (fun t k => XS.iconst X9.here hx rfl (hb hby at_66) k) ?_
    refine Go.pull (V := T9.setTop (mkF m 71 #[iv pk, iv 1, rv r_Payout_Outcome_FAILED, iv 1, rv r_Payout_Status_FAILED, .unset] [(.int 1)])) (fun t k => XS.goto X9.here hx rfl (pc0 := 67) (pc' := 71) rfl (hb hby at_67) (by decide) (by decide) k) ?_
    refine Go.pull (V := T9.setTop (mkF m 73 #[iv pk, iv 1, rv r_Payout_Outcome_FAILED, iv 1, rv r_Payout_Status_FAILED, iv 1] [])) (fun t k => XS.istore X9.here hx rfl (hb hby at_71) rfl (l' := #[iv pk, iv 1, rv r_Payout_Outcome_FAILED, iv 1, rv r_Payout_Status_FAILED, iv 1]) rfl k) ?_
    refine Go.pull (V := T9.setTop (mkF m 74 #[iv pk, iv 1, rv r_Payout_Outcome_FAILED, iv 1, rv r_Payout_Status_FAILED, iv 1] [(.ref r_Payout_Outcome_FAILED)])) (fun t k => XS.aloadN X9.here hx rfl (hb hby at_73) rfl rfl k) ?_
    obtain ⟨cq10, kq10, q10a, q10b, q10c⟩ := isOf hZ e9 E_r_Payout_Outcome_FAILED
    obtain ⟨_, _, ⟨T10, L10, k10, n10⟩, -, X10, ⟨Lc10, hQ10, l10, y10, z10⟩, st10⟩ := X9.virtualBack hx (y := (⟨"com/example/disburse/disburse/core/Payout$Outcome", "isFailure", "()Z"⟩ : MethodName)) (z := (⟨"com/example/disburse/disburse/core/Payout$Outcome", "isFailure", "()Z"⟩ : MethodName)) hown (mvT hZ (hw _ (List.mem_of_getElem? (i := 17) rfl))) (mvT hZ (hw _ (List.mem_of_getElem? (i := 18) rfl))) (notFace_of_selects (args := #[]) (mvT hZ (hw _ (List.mem_of_getElem? (i := 20) rfl)))) (mvT hZ (hw _ (List.mem_of_getElem? (i := 20) rfl))) (mvT hZ (hw _ (List.mem_of_getElem? (i := 19) rfl))) (by decide) (backOf (W := 0) (rmB l Z a0 hw [] r_Payout_Outcome_FAILED r_Payout_Outcome_PAID h0 n0 S_r_Payout_Outcome_PAID) hZ (hw _ (List.mem_of_getElem? (i := 21) rfl)) (hw _ (List.mem_of_getElem? (i := 2) rfl)) (by decide) (by decide)) q10a q10c (g := (mkF m 74 #[iv pk, iv 1, rv r_Payout_Outcome_FAILED, iv 1, rv r_Payout_Status_FAILED, iv 1] [(.ref r_Payout_Outcome_FAILED)])) rfl (by rw [hml]; rfl) (Steps.refl _) (argsL := []) (rest := []) (lenOf pd_1 rfl) rfl (by show 2 * 0 + _ ≤ _; exact Nat.le_of_eq rfl) (hb hby at_74) (fun _ _ => ⟨rfl, e9, (by decide : 0 + 0 ≤ _), (by decide : 0 + 0 ≤ _)⟩)
    dsimp only [Pt.U, Pt.locs, Pt.cells, Pt.slots] at X10 l10 y10 z10 st10 hQ10
    subst l10 y10 z10
    obtain ⟨hv10, N10q, e10⟩ := hQ10
    rw [(show (own_isf r_Payout_Outcome_FAILED r_Payout_Outcome_PAID) = (1 : Int32) from if_neg (F_r_Payout_Outcome_FAILED_ordinal.ne F_r_Payout_Outcome_PAID_ordinal (fun q => absurd (Value.int.inj q) (by decide))))] at hv10; subst hv10
    have N10 := Fr.app N8 N10q
    refine Go.pull (V := T10.setTop (mkF m 77 #[iv pk, iv 1, rv r_Payout_Outcome_FAILED, iv 1, rv r_Payout_Status_FAILED, iv 1] [(.int 1)])) (fun _ k => st10.trans k) ?_
    refine Go.pull (V := T10.setTop (mkF m 78 #[iv pk, iv 1, rv r_Payout_Outcome_FAILED, iv 1, rv r_Payout_Status_FAILED, iv 1] [(.int 1), (.int 1)])) (fun t k => XS.iloadN X10.here hx rfl (hb hby at_77) rfl  k) ?_
    refine Go.pull (V := T10.setTop (mkF m 81 #[iv pk, iv 1, rv r_Payout_Outcome_FAILED, iv 1, rv r_Payout_Status_FAILED, iv 1] [])) (fun t k => XS.icmpNo X10.here hx rfl (hb hby at_78) rfl (XT.ii_ne_f (by decide)) k) ?_
    refine Go.pull (V := T10.setTop (mkF m 83 #[iv pk, iv 1, rv r_Payout_Outcome_FAILED, iv 1, rv r_Payout_Status_FAILED, iv 1] [(.int 1)])) (fun t k => XS.iload X10.here hx rfl (hb hby at_81) rfl  k) ?_
    refine Go.pull (V := T10.setTop (mkF m 84 #[iv pk, iv 1, rv r_Payout_Outcome_FAILED, iv 1, rv r_Payout_Status_FAILED, iv 1] [(.int 1), (.int 1)])) (fun t k => XS.iloadN X10.here hx rfl (hb hby at_83) rfl  k) ?_
    refine Go.pull (V := T10.setTop (mkF m 87 #[iv pk, iv 1, rv r_Payout_Outcome_FAILED, iv 1, rv r_Payout_Status_FAILED, iv 1] [])) (fun t k => XS.icmpNo X10.here hx rfl (hb hby at_84) rfl (XT.ii_ne_f (by decide)) k) ?_
    refine Go.pull (V := T10.setTop (mkF m 88 #[iv pk, iv 1, rv r_Payout_Outcome_FAILED, iv 1, rv r_Payout_Status_FAILED, iv 1] [(.int 1)])) (fun t k => XS.iconst X10.here hx rfl (hb hby at_87) k) ?_
    refine Go.pull (V := T10.setTop (mkF m 92 #[iv pk, iv 1, rv r_Payout_Outcome_FAILED, iv 1, rv r_Payout_Status_FAILED, iv 1] [(.int 1)])) (fun t k => XS.goto X10.here hx rfl (pc0 := 88) (pc' := 92) rfl (hb hby at_88) (by decide) (by decide) k) ?_
    exact Go.retN X10 hx Bd.notSynchronized (t := .boolean) Bd.returns (by simp) (hb hby at_92) ⟨rfl, N10⟩ (by decide) (by decide)
  · subst hv1
    refine Go.pull (V := s₁.setTop (mkF m 8 #[iv pk, iv 2, .unset, .unset, .unset, .unset] [(.int 2)])) (fun t k => XS.iloadN X0.here hx rfl (hb hby at_7) rfl  k) ?_
    refine Go.pull (V := s₁.setTop (mkF m 18 #[iv pk, iv 2, .unset, .unset, .unset, .unset] [])) (fun t k => XS.ifYes X0.here hx rfl (pc0 := 8) (pc' := 18) rfl (hb hby at_8) rfl (XT.i0_ne_t (by decide)) (by decide) (by decide) k) ?_
    refine Go.pull (V := s₁.setTop (mkF m 19 #[iv pk, iv 2, .unset, .unset, .unset, .unset] [(.int 2)])) (fun t k => XS.iloadN X0.here hx rfl (hb hby at_18) rfl  k) ?_
    refine Go.pull (V := s₁.setTop (mkF m 20 #[iv pk, iv 2, .unset, .unset, .unset, .unset] [(.int 1), (.int 2)])) (fun t k => XS.iconst X0.here hx rfl (hb hby at_19) k) ?_
    refine Go.pull (V := s₁.setTop (mkF m 30 #[iv pk, iv 2, .unset, .unset, .unset, .unset] [])) (fun t k => XS.icmpYes X0.here hx rfl (pc0 := 20) (pc' := 30) rfl (hb hby at_20) rfl (XT.ii_ne_t (by decide)) (by decide) (by decide) k) ?_
    obtain ⟨T11, X11, e11, st11⟩ := getS2 X0 hx hZ hown (host := "") (Or.inl (hw _ (List.mem_of_getElem? (i := 23) rfl))) Via.refl e0 S_r_Payout_Outcome_RETURNED (g := (mkF m 30 #[iv pk, iv 2, .unset, .unset, .unset, .unset] [])) rfl (hb hby at_30)
    refine Go.pull (V := T11.setTop (mkF m 33 #[iv pk, iv 2, .unset, .unset, .unset, .unset] [(.ref r_Payout_Outcome_RETURNED)])) st11 ?_
    refine Go.pull (V := T11.setTop (mkF m 34 #[iv pk, iv 2, rv r_Payout_Outcome_RETURNED, .unset, .unset, .unset] [])) (fun t k => XS.astoreN X11.here hx rfl (hb hby at_33) rfl rfl (l' := #[iv pk, iv 2, rv r_Payout_Outcome_RETURNED, .unset, .unset, .unset]) rfl k) ?_
    refine Go.pull (V := T11.setTop (mkF m 35 #[iv pk, iv 2, rv r_Payout_Outcome_RETURNED, .unset, .unset, .unset] [(.int 2)])) (fun t k => XS.iloadN X11.here hx rfl (hb hby at_34) rfl  k) ?_
    refine Go.pull (V := T11.setTop (mkF m 38 #[iv pk, iv 2, rv r_Payout_Outcome_RETURNED, .unset, .unset, .unset] [])) (fun t k => XS.ifNo X11.here hx rfl (hb hby at_35) rfl (XT.i0_eq_f (by decide)) k) ?_
    refine Go.pull (V := T11.setTop (mkF m 39 #[iv pk, iv 2, rv r_Payout_Outcome_RETURNED, .unset, .unset, .unset] [(.int 1)])) (fun t k => XS.iconst X11.here hx rfl (hb hby at_38) k) ?_
    refine Go.pull (V := T11.setTop (mkF m 43 #[iv pk, iv 2, rv r_Payout_Outcome_RETURNED, .unset, .unset, .unset] [(.int 1)])) (fun t k => XS.goto X11.here hx rfl (pc0 := 39) (pc' := 43) rfl (hb hby at_39) (by decide) (by decide) k) ?_
    refine Go.pull (V := T11.setTop (mkF m 44 #[iv pk, iv 2, rv r_Payout_Outcome_RETURNED, iv 1, .unset, .unset] [])) (fun t k => XS.istoreN X11.here hx rfl (hb hby at_43) rfl (l' := #[iv pk, iv 2, rv r_Payout_Outcome_RETURNED, iv 1, .unset, .unset]) rfl k) ?_
    refine Go.pull (V := T11.setTop (mkF m 45 #[iv pk, iv 2, rv r_Payout_Outcome_RETURNED, iv 1, .unset, .unset] [(.ref r_Payout_Outcome_RETURNED)])) (fun t k => XS.aloadN X11.here hx rfl (hb hby at_44) rfl rfl k) ?_
    obtain ⟨cq12, kq12, q12a, q12b, q12c⟩ := isOf hZ e11 E_r_Payout_Outcome_RETURNED
    obtain ⟨_, _, ⟨T12, L12, k12, n12⟩, -, X12, ⟨Lc12, hQ12, l12, y12, z12⟩, st12⟩ := X11.virtualBack hx (y := (⟨"com/example/disburse/disburse/core/Payout$Outcome", "status", "()Lcom/example/disburse/disburse/core/Payout$Status;"⟩ : MethodName)) (z := (⟨"com/example/disburse/disburse/core/Payout$Outcome", "status", "()Lcom/example/disburse/disburse/core/Payout$Status;"⟩ : MethodName)) hown (mvT hZ (hw _ (List.mem_of_getElem? (i := 4) rfl))) (mvT hZ (hw _ (List.mem_of_getElem? (i := 5) rfl))) (notFace_of_selects (args := #[]) (mvT hZ (hw _ (List.mem_of_getElem? (i := 7) rfl)))) (mvT hZ (hw _ (List.mem_of_getElem? (i := 7) rfl))) (mvT hZ (hw _ (List.mem_of_getElem? (i := 6) rfl))) (by decide) (backOf (W := 0) (rmA l Z a0 hw [] r_Payout_Outcome_RETURNED r_Payout_Status_RETURNED h0 n0 F_r_Payout_Outcome_RETURNED_status) hZ (hw _ (List.mem_of_getElem? (i := 8) rfl)) (hw _ (List.mem_of_getElem? (i := 2) rfl)) (by decide) (by decide)) q12a q12c (g := (mkF m 45 #[iv pk, iv 2, rv r_Payout_Outcome_RETURNED, iv 1, .unset, .unset] [(.ref r_Payout_Outcome_RETURNED)])) rfl (by rw [hml]; rfl) (Steps.refl _) (argsL := []) (rest := []) (lenOf pd_0 rfl) rfl (by show 2 * 0 + _ ≤ _; exact Nat.le_of_eq rfl) (hb hby at_45) (fun _ _ => ⟨rfl, e11, (by decide : 0 + 0 ≤ _), (by decide : 0 + 0 ≤ _)⟩)
    dsimp only [Pt.U, Pt.locs, Pt.cells, Pt.slots] at X12 l12 y12 z12 st12 hQ12
    subst l12 y12 z12
    obtain ⟨rfl, N12q, e12⟩ := hQ12
    have N12 := Fr.app N0 N12q
    refine Go.pull (V := T12.setTop (mkF m 48 #[iv pk, iv 2, rv r_Payout_Outcome_RETURNED, iv 1, .unset, .unset] [(.ref r_Payout_Status_RETURNED)])) (fun _ k => st12.trans k) ?_
    refine Go.pull (V := T12.setTop (mkF m 50 #[iv pk, iv 2, rv r_Payout_Outcome_RETURNED, iv 1, rv r_Payout_Status_RETURNED, .unset] [])) (fun t k => XS.astore X12.here hx rfl (hb hby at_48) rfl rfl (l' := #[iv pk, iv 2, rv r_Payout_Outcome_RETURNED, iv 1, rv r_Payout_Status_RETURNED, .unset]) rfl k) ?_
    refine Go.pull (V := T12.setTop (mkF m 52 #[iv pk, iv 2, rv r_Payout_Outcome_RETURNED, iv 1, rv r_Payout_Status_RETURNED, .unset] [(.ref r_Payout_Status_RETURNED)])) (fun t k => XS.aload X12.here hx rfl (hb hby at_50) rfl rfl k) ?_
    obtain ⟨T13, X13, e13, st13⟩ := getS2 X12 hx hZ hown (host := "") (Or.inl (hw _ (List.mem_of_getElem? (i := 13) rfl))) Via.refl e12 S_r_Payout_Status_FAILED (g := (mkF m 52 #[iv pk, iv 2, rv r_Payout_Outcome_RETURNED, iv 1, rv r_Payout_Status_RETURNED, .unset] [(.ref r_Payout_Status_RETURNED)])) rfl (hb hby at_52)
    refine Go.pull (V := T13.setTop (mkF m 55 #[iv pk, iv 2, rv r_Payout_Outcome_RETURNED, iv 1, rv r_Payout_Status_RETURNED, .unset] [(.ref r_Payout_Status_FAILED), (.ref r_Payout_Status_RETURNED)])) st13 ?_
    refine Go.pull (V := T13.setTop (mkF m 58 #[iv pk, iv 2, rv r_Payout_Outcome_RETURNED, iv 1, rv r_Payout_Status_RETURNED, .unset] [])) (fun t k => XT.acmpNo X13.here hx rfl (hb hby at_55) rfl rfl rfl (XT.aa_eq_f (fun q => (F_r_Payout_Status_RETURNED_ordinal.ne F_r_Payout_Status_FAILED_ordinal (fun q => absurd (Value.int.inj q) (by decide))) (Value.ref.inj q))) k) ?_
    refine Go.pull (V := T13.setTop (mkF m 60 #[iv pk, iv 2, rv r_Payout_Outcome_RETURNED, iv 1, rv r_Payout_Status_RETURNED, .unset] [(.ref r_Payout_Status_RETURNED)])) (fun t k => XS.aload X13.here hx rfl (hb hby at_58) rfl rfl k) ?_
    obtain ⟨T14, X14, e14, st14⟩ := getS2 X13 hx hZ hown (host := "") (Or.inl (hw _ (List.mem_of_getElem? (i := 15) rfl))) Via.refl e13 S_r_Payout_Status_RETURNED (g := (mkF m 60 #[iv pk, iv 2, rv r_Payout_Outcome_RETURNED, iv 1, rv r_Payout_Status_RETURNED, .unset] [(.ref r_Payout_Status_RETURNED)])) rfl (hb hby at_60)
    refine Go.pull (V := T14.setTop (mkF m 63 #[iv pk, iv 2, rv r_Payout_Outcome_RETURNED, iv 1, rv r_Payout_Status_RETURNED, .unset] [(.ref r_Payout_Status_RETURNED), (.ref r_Payout_Status_RETURNED)])) st14 ?_
    refine Go.pull (V := T14.setTop (mkF m 66 #[iv pk, iv 2, rv r_Payout_Outcome_RETURNED, iv 1, rv r_Payout_Status_RETURNED, .unset] [])) (fun t k => XT.acmpNo X14.here hx rfl (hb hby at_63) rfl rfl rfl (XT.aa_ne_f rfl) k) ?_
    refine Go.pull (V := T14.setTop (mkF m 67 #[iv pk, iv 2, rv r_Payout_Outcome_RETURNED, iv 1, rv r_Payout_Status_RETURNED, .unset] [(.int 1)])) (fun t k => XS.iconst X14.here hx rfl (hb hby at_66) k) ?_
    refine Go.pull (V := T14.setTop (mkF m 71 #[iv pk, iv 2, rv r_Payout_Outcome_RETURNED, iv 1, rv r_Payout_Status_RETURNED, .unset] [(.int 1)])) (fun t k => XS.goto X14.here hx rfl (pc0 := 67) (pc' := 71) rfl (hb hby at_67) (by decide) (by decide) k) ?_
    refine Go.pull (V := T14.setTop (mkF m 73 #[iv pk, iv 2, rv r_Payout_Outcome_RETURNED, iv 1, rv r_Payout_Status_RETURNED, iv 1] [])) (fun t k => XS.istore X14.here hx rfl (hb hby at_71) rfl (l' := #[iv pk, iv 2, rv r_Payout_Outcome_RETURNED, iv 1, rv r_Payout_Status_RETURNED, iv 1]) rfl k) ?_
    refine Go.pull (V := T14.setTop (mkF m 74 #[iv pk, iv 2, rv r_Payout_Outcome_RETURNED, iv 1, rv r_Payout_Status_RETURNED, iv 1] [(.ref r_Payout_Outcome_RETURNED)])) (fun t k => XS.aloadN X14.here hx rfl (hb hby at_73) rfl rfl k) ?_
    obtain ⟨cq15, kq15, q15a, q15b, q15c⟩ := isOf hZ e14 E_r_Payout_Outcome_RETURNED
    obtain ⟨_, _, ⟨T15, L15, k15, n15⟩, -, X15, ⟨Lc15, hQ15, l15, y15, z15⟩, st15⟩ := X14.virtualBack hx (y := (⟨"com/example/disburse/disburse/core/Payout$Outcome", "isFailure", "()Z"⟩ : MethodName)) (z := (⟨"com/example/disburse/disburse/core/Payout$Outcome", "isFailure", "()Z"⟩ : MethodName)) hown (mvT hZ (hw _ (List.mem_of_getElem? (i := 17) rfl))) (mvT hZ (hw _ (List.mem_of_getElem? (i := 18) rfl))) (notFace_of_selects (args := #[]) (mvT hZ (hw _ (List.mem_of_getElem? (i := 20) rfl)))) (mvT hZ (hw _ (List.mem_of_getElem? (i := 20) rfl))) (mvT hZ (hw _ (List.mem_of_getElem? (i := 19) rfl))) (by decide) (backOf (W := 0) (rmB l Z a0 hw [] r_Payout_Outcome_RETURNED r_Payout_Outcome_PAID h0 n0 S_r_Payout_Outcome_PAID) hZ (hw _ (List.mem_of_getElem? (i := 21) rfl)) (hw _ (List.mem_of_getElem? (i := 2) rfl)) (by decide) (by decide)) q15a q15c (g := (mkF m 74 #[iv pk, iv 2, rv r_Payout_Outcome_RETURNED, iv 1, rv r_Payout_Status_RETURNED, iv 1] [(.ref r_Payout_Outcome_RETURNED)])) rfl (by rw [hml]; rfl) (Steps.refl _) (argsL := []) (rest := []) (lenOf pd_1 rfl) rfl (by show 2 * 0 + _ ≤ _; exact Nat.le_of_eq rfl) (hb hby at_74) (fun _ _ => ⟨rfl, e14, (by decide : 0 + 0 ≤ _), (by decide : 0 + 0 ≤ _)⟩)
    dsimp only [Pt.U, Pt.locs, Pt.cells, Pt.slots] at X15 l15 y15 z15 st15 hQ15
    subst l15 y15 z15
    obtain ⟨hv15, N15q, e15⟩ := hQ15
    rw [(show (own_isf r_Payout_Outcome_RETURNED r_Payout_Outcome_PAID) = (1 : Int32) from if_neg (F_r_Payout_Outcome_RETURNED_ordinal.ne F_r_Payout_Outcome_PAID_ordinal (fun q => absurd (Value.int.inj q) (by decide))))] at hv15; subst hv15
    have N15 := Fr.app N12 N15q
    refine Go.pull (V := T15.setTop (mkF m 77 #[iv pk, iv 2, rv r_Payout_Outcome_RETURNED, iv 1, rv r_Payout_Status_RETURNED, iv 1] [(.int 1)])) (fun _ k => st15.trans k) ?_
    refine Go.pull (V := T15.setTop (mkF m 78 #[iv pk, iv 2, rv r_Payout_Outcome_RETURNED, iv 1, rv r_Payout_Status_RETURNED, iv 1] [(.int 1), (.int 1)])) (fun t k => XS.iloadN X15.here hx rfl (hb hby at_77) rfl  k) ?_
    refine Go.pull (V := T15.setTop (mkF m 81 #[iv pk, iv 2, rv r_Payout_Outcome_RETURNED, iv 1, rv r_Payout_Status_RETURNED, iv 1] [])) (fun t k => XS.icmpNo X15.here hx rfl (hb hby at_78) rfl (XT.ii_ne_f (by decide)) k) ?_
    refine Go.pull (V := T15.setTop (mkF m 83 #[iv pk, iv 2, rv r_Payout_Outcome_RETURNED, iv 1, rv r_Payout_Status_RETURNED, iv 1] [(.int 1)])) (fun t k => XS.iload X15.here hx rfl (hb hby at_81) rfl  k) ?_
    refine Go.pull (V := T15.setTop (mkF m 84 #[iv pk, iv 2, rv r_Payout_Outcome_RETURNED, iv 1, rv r_Payout_Status_RETURNED, iv 1] [(.int 1), (.int 1)])) (fun t k => XS.iloadN X15.here hx rfl (hb hby at_83) rfl  k) ?_
    refine Go.pull (V := T15.setTop (mkF m 87 #[iv pk, iv 2, rv r_Payout_Outcome_RETURNED, iv 1, rv r_Payout_Status_RETURNED, iv 1] [])) (fun t k => XS.icmpNo X15.here hx rfl (hb hby at_84) rfl (XT.ii_ne_f (by decide)) k) ?_
    refine Go.pull (V := T15.setTop (mkF m 88 #[iv pk, iv 2, rv r_Payout_Outcome_RETURNED, iv 1, rv r_Payout_Status_RETURNED, iv 1] [(.int 1)])) (fun t k => XS.iconst X15.here hx rfl (hb hby at_87) k) ?_
    refine Go.pull (V := T15.setTop (mkF m 92 #[iv pk, iv 2, rv r_Payout_Outcome_RETURNED, iv 1, rv r_Payout_Status_RETURNED, iv 1] [(.int 1)])) (fun t k => XS.goto X15.here hx rfl (pc0 := 88) (pc' := 92) rfl (hb hby at_88) (by decide) (by decide) k) ?_
    exact Go.retN X15 hx Bd.notSynchronized (t := .boolean) Bd.returns (by simp) (hb hby at_92) ⟨rfl, N15⟩ (by decide) (by decide)
set_option maxRecDepth 65536 in
set_option maxHeartbeats 40000000 in
theorem comes_1 {Post : Tables → Env → Array Value → State → Outcome → State → Prop} (hpost : ∀ tb e args s v u, (limb_1_1.after args s (.returned v) u = true ∧ limb_1_2.after args s (.returned v) u = true ∧ True) → FrameEnd s (.returned v) u (Jvm.fieldLocs frame_1_writes args s ++ Jvm.arrayLocs frame_1_arrays args s ++ Jvm.staticLocs frame_1_statics s) 0 0 → Post tb e args s (.returned v) u) :
    ArmFor flags0 classFile x code maxLocals ret World_1 tables_1 room_1 Calls_1 rest_1 Pre_1 Post := by
  intro l hfl _ _ p e ha hc hk s m args below hf hA hF happ hP
  obtain ⟨hcalls, hrest, hpre⟩ := hP
  obtain ⟨-, -, -, hnamed, -, -, -, hat⟩ := (Spec.applies_iff hf).mp happ
  obtain ⟨hg, hn⟩ := and_e (Cond.before_iff.mp (show (Jvm.Cond.and given_1 narrow_1).before args s = true from hpre))
  obtain ⟨y1, y2⟩ := and_e hg
  obtain ⟨y3, y4⟩ := and_e hn
  obtain ⟨y5, y6⟩ := and_e y4
  obtain ⟨y7, y8⟩ := and_e y6
  obtain ⟨y9, y10⟩ := and_e y8
  obtain ⟨y11, y12⟩ := and_e y10
  obtain ⟨y13, y14⟩ := and_e y12
  obtain ⟨y15, y16⟩ := and_e y14
  obtain ⟨y17, y18⟩ := and_e y16
  obtain ⟨y19, y20⟩ := and_e y18
  obtain ⟨y21, y22⟩ := and_e y20
  obtain ⟨y23, y24⟩ := and_e y22
  obtain ⟨y25, y26⟩ := and_e y24
  obtain ⟨y27, y28⟩ := and_e y26
  obtain ⟨y29, y30⟩ := and_e y28
  obtain ⟨w0, rfl⟩ : ∃ w0 : Value, args = #[w0] := by
    have hs : args.size = 1 := by simpa [Cond.value, given_1] using y1
    obtain ⟨L⟩ := args
    match L, hs with
    | [w0], _ => exact ⟨w0, rfl⟩
  have hw := fun d (hd : d ∈ tables_1) => atoms_spec (ws := Jvm.Cond.code x code maxLocals ret :: tables_1) hat d (List.mem_cons_of_mem _ hd)
  have hfit : Fit s := fun {y c} hc i hi => by
    obtain ⟨ha, rfl⟩ := Array.getElem?_eq_some_iff.mp hc
    have q := List.all_eq_true.mp ((Array.all_eq_true_iff_forall_mem.mp hF) _ (Array.getElem_mem ha)) i (List.mem_range.mpr hi)
    simpa [Array.getElem?_eq_getElem hi] using q
  obtain ⟨i0, ei0⟩ := is_v y2
  obtain rfl : w0 = (.int i0) := Option.some.inj ei0
  obtain ⟨a_Payout_Outcome_PAID, ev_a_Payout_Outcome_PAID⟩ := exa_v y3
  have EX_a_Payout_Outcome_PAID : Exa s s.heap a_Payout_Outcome_PAID "com/example/disburse/disburse/core/Payout$Outcome" := Exa.start ev_a_Payout_Outcome_PAID y3
  have ST_a_Payout_Outcome_PAID : Sta s s.heap "com/example/disburse/disburse/core/Payout$Outcome" "PAID" "Lcom/example/disburse/disburse/core/Payout$Outcome;" (.ref a_Payout_Outcome_PAID) := Sta.start ev_a_Payout_Outcome_PAID (Or.inr ⟨(hw _ (List.mem_of_getElem? (i := 2) rfl)), (hw _ (List.mem_of_getElem? (i := 3) rfl))⟩)
  obtain ⟨a_Payout_Status_PAID, ev_a_Payout_Status_PAID⟩ := exa_v y5
  have EX_a_Payout_Status_PAID : Exa s s.heap a_Payout_Status_PAID "com/example/disburse/disburse/core/Payout$Status" := Exa.start ev_a_Payout_Status_PAID y5
  have ST_a_Payout_Status_PAID : Sta s s.heap "com/example/disburse/disburse/core/Payout$Status" "PAID" "Lcom/example/disburse/disburse/core/Payout$Status;" (.ref a_Payout_Status_PAID) := Sta.start ev_a_Payout_Status_PAID (Or.inr ⟨(hw _ (List.mem_of_getElem? (i := 11) rfl)), (hw _ (List.mem_of_getElem? (i := 12) rfl))⟩)
  obtain ⟨a_Payout_Status_FAILED, ev_a_Payout_Status_FAILED⟩ := exa_v y9
  have EX_a_Payout_Status_FAILED : Exa s s.heap a_Payout_Status_FAILED "com/example/disburse/disburse/core/Payout$Status" := Exa.start ev_a_Payout_Status_FAILED y9
  have ST_a_Payout_Status_FAILED : Sta s s.heap "com/example/disburse/disburse/core/Payout$Status" "FAILED" "Lcom/example/disburse/disburse/core/Payout$Status;" (.ref a_Payout_Status_FAILED) := Sta.start ev_a_Payout_Status_FAILED (Or.inr ⟨(hw _ (List.mem_of_getElem? (i := 11) rfl)), (hw _ (List.mem_of_getElem? (i := 14) rfl))⟩)
  obtain ⟨a_Payout_Status_RETURNED, ev_a_Payout_Status_RETURNED⟩ := exa_v y15
  have EX_a_Payout_Status_RETURNED : Exa s s.heap a_Payout_Status_RETURNED "com/example/disburse/disburse/core/Payout$Status" := Exa.start ev_a_Payout_Status_RETURNED y15
  have ST_a_Payout_Status_RETURNED : Sta s s.heap "com/example/disburse/disburse/core/Payout$Status" "RETURNED" "Lcom/example/disburse/disburse/core/Payout$Status;" (.ref a_Payout_Status_RETURNED) := Sta.start ev_a_Payout_Status_RETURNED (Or.inr ⟨(hw _ (List.mem_of_getElem? (i := 11) rfl)), (hw _ (List.mem_of_getElem? (i := 16) rfl))⟩)
  obtain ⟨a_Payout_Outcome_RETURNED, ev_a_Payout_Outcome_RETURNED⟩ := exa_v y19
  have EX_a_Payout_Outcome_RETURNED : Exa s s.heap a_Payout_Outcome_RETURNED "com/example/disburse/disburse/core/Payout$Outcome" := Exa.start ev_a_Payout_Outcome_RETURNED y19
  have ST_a_Payout_Outcome_RETURNED : Sta s s.heap "com/example/disburse/disburse/core/Payout$Outcome" "RETURNED" "Lcom/example/disburse/disburse/core/Payout$Outcome;" (.ref a_Payout_Outcome_RETURNED) := Sta.start ev_a_Payout_Outcome_RETURNED (Or.inr ⟨(hw _ (List.mem_of_getElem? (i := 2) rfl)), (hw _ (List.mem_of_getElem? (i := 24) rfl))⟩)
  obtain ⟨a_Payout_Outcome_FAILED, ev_a_Payout_Outcome_FAILED⟩ := exa_v y27
  have EX_a_Payout_Outcome_FAILED : Exa s s.heap a_Payout_Outcome_FAILED "com/example/disburse/disburse/core/Payout$Outcome" := Exa.start ev_a_Payout_Outcome_FAILED y27
  have ST_a_Payout_Outcome_FAILED : Sta s s.heap "com/example/disburse/disburse/core/Payout$Outcome" "FAILED" "Lcom/example/disburse/disburse/core/Payout$Outcome;" (.ref a_Payout_Outcome_FAILED) := Sta.start ev_a_Payout_Outcome_FAILED (Or.inr ⟨(hw _ (List.mem_of_getElem? (i := 2) rfl)), (hw _ (List.mem_of_getElem? (i := 26) rfl))⟩)
  have FL_a_Payout_Outcome_PAID_status : Fld s s.heap a_Payout_Outcome_PAID "com/example/disburse/disburse/core/Payout$Outcome" "status" "Lcom/example/disburse/disburse/core/Payout$Status;" (.ref a_Payout_Status_PAID) := Fld.start ((fld_at ev_a_Payout_Outcome_PAID).symm.trans (own_eq_r ev_a_Payout_Status_PAID y7))
  have FL_a_Payout_Status_PAID_ordinal : Fld s s.heap a_Payout_Status_PAID "java/lang/Enum" "ordinal" "I" (.int 2) := Fld.start ((fld_at ev_a_Payout_Status_PAID).symm.trans (own_eq_i y11))
  have FL_a_Payout_Status_FAILED_ordinal : Fld s s.heap a_Payout_Status_FAILED "java/lang/Enum" "ordinal" "I" (.int 3) := Fld.start ((fld_at ev_a_Payout_Status_FAILED).symm.trans (own_eq_i y13))
  have FL_a_Payout_Status_RETURNED_ordinal : Fld s s.heap a_Payout_Status_RETURNED "java/lang/Enum" "ordinal" "I" (.int 5) := Fld.start ((fld_at ev_a_Payout_Status_RETURNED).symm.trans (own_eq_i y17))
  have FL_a_Payout_Outcome_RETURNED_status : Fld s s.heap a_Payout_Outcome_RETURNED "com/example/disburse/disburse/core/Payout$Outcome" "status" "Lcom/example/disburse/disburse/core/Payout$Status;" (.ref a_Payout_Status_RETURNED) := Fld.start ((fld_at ev_a_Payout_Outcome_RETURNED).symm.trans (own_eq_r ev_a_Payout_Status_RETURNED y21))
  have FL_a_Payout_Outcome_RETURNED_ordinal : Fld s s.heap a_Payout_Outcome_RETURNED "java/lang/Enum" "ordinal" "I" (.int 2) := Fld.start ((fld_at ev_a_Payout_Outcome_RETURNED).symm.trans (own_eq_i y23))
  have FL_a_Payout_Outcome_PAID_ordinal : Fld s s.heap a_Payout_Outcome_PAID "java/lang/Enum" "ordinal" "I" (.int 0) := Fld.start ((fld_at ev_a_Payout_Outcome_PAID).symm.trans (own_eq_i y25))
  have FL_a_Payout_Outcome_FAILED_status : Fld s s.heap a_Payout_Outcome_FAILED "com/example/disburse/disburse/core/Payout$Outcome" "status" "Lcom/example/disburse/disburse/core/Payout$Status;" (.ref a_Payout_Status_FAILED) := Fld.start ((fld_at ev_a_Payout_Outcome_FAILED).symm.trans (own_eq_r ev_a_Payout_Status_FAILED y29))
  have FL_a_Payout_Outcome_FAILED_ordinal : Fld s s.heap a_Payout_Outcome_FAILED "java/lang/Enum" "ordinal" "I" (.int 1) := Fld.start ((fld_at ev_a_Payout_Outcome_FAILED).symm.trans (own_eq_i y30))
  obtain ⟨n, o, h1, h2, h3, _, L, rfl, ⟨rfl, N⟩, hq⟩ := rm0 l s _ hw tables_1 i0 a_Payout_Outcome_PAID a_Payout_Status_PAID a_Payout_Status_FAILED a_Payout_Status_RETURNED a_Payout_Outcome_RETURNED a_Payout_Outcome_FAILED s.heap s.heap.size (Nat.le_refl _) ST_a_Payout_Outcome_PAID EX_a_Payout_Outcome_PAID ST_a_Payout_Status_PAID EX_a_Payout_Status_PAID ST_a_Payout_Status_FAILED EX_a_Payout_Status_FAILED ST_a_Payout_Status_RETURNED EX_a_Payout_Status_RETURNED ST_a_Payout_Outcome_RETURNED EX_a_Payout_Outcome_RETURNED ST_a_Payout_Outcome_FAILED EX_a_Payout_Outcome_FAILED FL_a_Payout_Outcome_PAID_status FL_a_Payout_Status_PAID_ordinal FL_a_Payout_Status_FAILED_ordinal FL_a_Payout_Status_RETURNED_ordinal FL_a_Payout_Outcome_RETURNED_status FL_a_Payout_Outcome_RETURNED_ordinal FL_a_Payout_Outcome_PAID_ordinal FL_a_Payout_Outcome_FAILED_status FL_a_Payout_Outcome_FAILED_ordinal p e ha hc hk s m _ below hf ((Spec.applies_iff_loose hf).mp happ).1 ⟨rfl, State.Warmed39.refl s, rfl⟩ trivial
  refine ⟨n, _, h1, h2, h3, hpost _ _ _ _ _ _ ⟨Cond.after_iff.mpr rfl, Cond.after_iff.mpr (eq_i res_at (Term.int_eval (1)) rfl), trivial⟩ ⟨hq.1, hq.2.1, (hq.2.2.sift fun y hy => Or.inr (N y hy)).mono (by decide) (by decide)⟩⟩
theorem main_1_1 : Claimed_1_1 := comes_1 fun _ _ _ _ _ _ h hF => ⟨h.1, hF⟩
theorem main_1_2 : Claimed_1_2 := comes_1 fun _ _ _ _ _ _ h hF => ⟨h.2.1, hF⟩
end Jvm.Pilot.@@N@@
namespace Jvm.Pilot.@@N@@
open Jvm Jvm.ClassFile Sem Op Lib Jvm.Free Jvm.Stand Jvm.Pilot.@@N@@.Jvm.D
/-! MADE BY PROGRAM (witnessworld.py) out of the Statement's table words and the real class files: 13 classes; the members and pool entries that the words name. The judged class is class 1, her method 1. -/
namespace start1
open Jvm.ClassFile
def u (s : String) : CpInfo := .utf8 (stringToUtf16 s)
/-- a pool by its gaps: so many unusable entries, then the entry; so many at the end -/
def gap : Nat → List CpInfo → List CpInfo
  | 0, r => r
  | n + 1, r => .unusable :: gap n r
def poolList (es : List (Nat × CpInfo)) (last : Nat) : List CpInfo := es.foldr (fun e r => gap e.1 (e.2 :: r)) (gap last [])
def pool (es : List (Nat × CpInfo)) (last : Nat) : Array CpInfo := ⟨poolList es last⟩
def fileOf (pool : Array CpInfo) (this : Nat) (attrs : Array Attribute := #[]) (ms : Array MethodInfo := #[]) (fl : Nat := 33) (sup : Nat := 0) (ifs : Array Nat := #[]) (fds : Array FieldInfo := #[]) : ClassFile where
  minorVersion := 0
  majorVersion := 65
  constantPool := pool
  accessFlags := fl
  thisClass := this
  superClass := sup
  interfaces := ifs
  fields := fds
  methods := ms
  attributes := attrs
def plain (name : String) (sup : Option ClassId) : Class where
  name := name
  kind := .ordinary
  loader := none
  accessFlags := 33
  super := sup
  interfaces := #[]
  cf := none
  fields := #[]
  methods := #[]
  instanceTypes := #[]
  staticTypes := #[]
  resolved := #[]
  callSites := []
  init := .initialized
  statics := none
  mirror := none

def pool0 : Array CpInfo := pool [(5, u "<init>"), (0, u "()V"), (1, .class_ 10), (1, u "java/lang/Object")] 113

def k0m0 : Method := { name := "<init>", desc := "()V", sig := { parameters := [], returnType := none }, accessFlags := 1, code := none }
/-- java/lang/Object -/
def k0 : Class := { plain "java/lang/Object" none with
  accessFlags := 33
  interfaces := #[]
  cf := some (fileOf pool0 8 #[] #[{ accessFlags := 1, nameIndex := 5, descriptorIndex := 6, attributes := #[] }] 33 0 #[] #[])
  fields := #[]
  methods := #[k0m0]
  instanceTypes := #[]
  staticTypes := #[]
  resolved := Array.replicate 124 none
  statics := none }

def pool1 : Array CpInfo := pool [(2, .class_ 4), (1, u "java/lang/Object"), (0, u "<init>"), (0, u "()V"), (0, .integer 2147483647), (0, .fieldref 9 10), (0, .class_ 11), (0, .nameAndType 12 13), (0, u "com/example/disburse/disburse/core/Payout$Outcome"), (0, u "PAID"), (0, u "Lcom/example/disburse/disburse/core/Payout$Outcome;"), (0, .fieldref 9 15), (0, .nameAndType 16 13), (0, u "FAILED"), (0, .fieldref 9 18), (0, .nameAndType 19 13), (0, u "RETURNED"), (0, .methodref 9 21), (0, .nameAndType 22 23), (0, u "status"), (0, u "()Lcom/example/disburse/disburse/core/Payout$Status;"), (0, .fieldref 25 26), (0, .class_ 27), (0, .nameAndType 16 28), (0, u "com/example/disburse/disburse/core/Payout$Status"), (0, u "Lcom/example/disburse/disburse/core/Payout$Status;"), (0, .fieldref 25 30), (0, .nameAndType 19 28), (0, .methodref 9 32), (0, .nameAndType 33 34), (0, u "isFailure"), (0, u "()Z"), (0, .class_ 36), (0, u "com/example/disburse/disburse/core/OutcomeIsFailurePinLaw"), (2, u "law"), (0, u "(I)Z")] 8

def k1m0 : Method := { name := "<init>", desc := "()V", sig := { parameters := [], returnType := none }, accessFlags := 2, code := none }
def k1c1 : Code := { maxStack := 2, maxLocals := 6, code := code, exceptionTable := #[], attributes := #[] }
def k1m1 : Method := { name := "law", desc := "(I)Z", sig := { parameters := [.int], returnType := some .boolean }, accessFlags := 9, code := some k1c1 }
/-- com/example/disburse/disburse/core/OutcomeIsFailurePinLaw -/
def k1 : Class := { plain "com/example/disburse/disburse/core/OutcomeIsFailurePinLaw" (some 0) with
  accessFlags := 49
  interfaces := #[]
  cf := some (fileOf pool1 35 #[] #[{ accessFlags := 2, nameIndex := 5, descriptorIndex := 6, attributes := #[] }, { accessFlags := 9, nameIndex := 39, descriptorIndex := 40, attributes := #[] }] 49 2 #[] #[])
  fields := #[]
  methods := #[k1m0, k1m1]
  instanceTypes := #[]
  staticTypes := #[]
  resolved := Array.replicate 49 none
  statics := none }

def pool2 : Array CpInfo := pool [(1, .class_ 2), (0, u "java/lang/constant/Constable"), (0, .class_ 4), (0, u "java/lang/Object")] 6

/-- java/lang/constant/Constable -/
def k2 : Class := { plain "java/lang/constant/Constable" (some 0) with
  accessFlags := 1537
  interfaces := #[]
  cf := some (fileOf pool2 1 #[] #[] 1537 3 #[] #[])
  fields := #[]
  methods := #[]
  instanceTypes := #[]
  staticTypes := #[]
  resolved := Array.replicate 11 none
  statics := none }

def pool3 : Array CpInfo := pool [(1, .class_ 2), (0, u "java/lang/Comparable"), (0, .class_ 4), (0, u "java/lang/Object")] 7

/-- java/lang/Comparable -/
def k3 : Class := { plain "java/lang/Comparable" (some 0) with
  accessFlags := 1537
  interfaces := #[]
  cf := some (fileOf pool3 1 #[] #[] 1537 3 #[] #[])
  fields := #[]
  methods := #[]
  instanceTypes := #[]
  staticTypes := #[]
  resolved := Array.replicate 12 none
  statics := none }

def pool4 : Array CpInfo := pool [(1, .class_ 2), (0, u "java/io/Serializable"), (0, .class_ 4), (0, u "java/lang/Object")] 2

/-- java/io/Serializable -/
def k4 : Class := { plain "java/io/Serializable" (some 0) with
  accessFlags := 1537
  interfaces := #[]
  cf := some (fileOf pool4 1 #[] #[] 1537 3 #[] #[])
  fields := #[]
  methods := #[]
  instanceTypes := #[]
  staticTypes := #[]
  resolved := Array.replicate 7 none
  statics := none }

def pool5 : Array CpInfo := pool [(2, .class_ 4), (1, u "java/lang/Enum"), (0, u "name"), (0, u "Ljava/lang/String;"), (2, u "ordinal"), (0, u "I"), (1, .class_ 14), (1, u "java/lang/Object"), (4, u "hash"), (86, .class_ 108), (1, u "java/lang/Enum$EnumDesc"), (2, .class_ 112), (0, u "java/lang/constant/Constable"), (0, .class_ 114), (0, u "java/lang/Comparable"), (0, .class_ 116), (0, u "java/io/Serializable")] 87

/-- java/lang/Enum -/
def k5 : Class := { plain "java/lang/Enum" (some 0) with
  accessFlags := 1057
  interfaces := #[2, 3, 4]
  cf := some (fileOf pool5 2 #[.nestMembers #[106]] #[] 1057 12 #[111, 113, 115] #[{ accessFlags := 18, nameIndex := 5, descriptorIndex := 6, attributes := #[] }, { accessFlags := 18, nameIndex := 9, descriptorIndex := 10, attributes := #[] }, { accessFlags := 2, nameIndex := 19, descriptorIndex := 10, attributes := #[] }])
  fields := #[{ name := "name", type := (.object "java/lang/String"), accessFlags := 18, slot := 0, constantValue := 0 }, { name := "ordinal", type := .int, accessFlags := 18, slot := 1, constantValue := 0 }, { name := "hash", type := .int, accessFlags := 2, slot := 2, constantValue := 0 }]
  methods := #[]
  instanceTypes := #[(.object "java/lang/String"), .int, .int]
  staticTypes := #[]
  resolved := Array.replicate 204 none
  statics := none }

def pool6 : Array CpInfo := pool [(1, .class_ 2), (0, u "com/example/disburse/disburse/core/Payout$Outcome"), (0, .fieldref 1 4), (0, .nameAndType 5 6), (0, u "PAID"), (0, u "Lcom/example/disburse/disburse/core/Payout$Outcome;"), (2, u "FAILED"), (2, u "RETURNED"), (2, u "$VALUES"), (0, u "[Lcom/example/disburse/disburse/core/Payout$Outcome;"), (6, .class_ 25), (1, u "java/lang/Enum"), (6, .fieldref 1 33), (0, .nameAndType 34 35), (0, u "status"), (0, u "Lcom/example/disburse/disburse/core/Payout$Status;"), (25, u "()Lcom/example/disburse/disburse/core/Payout$Status;"), (0, u "isFailure"), (0, u "()Z"), (7, .class_ 72), (0, u "com/example/disburse/disburse/core/Payout")] 3

def k6c0 : Code := { maxStack := 1, maxLocals := 1, code := prog_46_method_4_code, exceptionTable := #[], attributes := #[] }
def k6m0 : Method := { name := "status", desc := "()Lcom/example/disburse/disburse/core/Payout$Status;", sig := { parameters := [], returnType := some (.object "com/example/disburse/disburse/core/Payout$Status") }, accessFlags := 1, code := some k6c0 }
def k6c1 : Code := { maxStack := 2, maxLocals := 1, code := prog_46_method_5_code, exceptionTable := #[], attributes := #[] }
def k6m1 : Method := { name := "isFailure", desc := "()Z", sig := { parameters := [], returnType := some .boolean }, accessFlags := 1, code := some k6c1 }
/-- com/example/disburse/disburse/core/Payout$Outcome -/
def k6 : Class := { plain "com/example/disburse/disburse/core/Payout$Outcome" (some 5) with
  accessFlags := 16433
  interfaces := #[]
  cf := some (fileOf pool6 1 #[.nestHost 71] #[{ accessFlags := 1, nameIndex := 34, descriptorIndex := 61, attributes := #[] }, { accessFlags := 1, nameIndex := 62, descriptorIndex := 63, attributes := #[] }] 16433 23 #[] #[{ accessFlags := 16409, nameIndex := 5, descriptorIndex := 6, attributes := #[] }, { accessFlags := 16409, nameIndex := 9, descriptorIndex := 6, attributes := #[] }, { accessFlags := 16409, nameIndex := 12, descriptorIndex := 6, attributes := #[] }, { accessFlags := 18, nameIndex := 34, descriptorIndex := 35, attributes := #[] }, { accessFlags := 4122, nameIndex := 15, descriptorIndex := 16, attributes := #[] }])
  fields := #[{ name := "PAID", type := (.object "com/example/disburse/disburse/core/Payout$Outcome"), accessFlags := 16409, slot := 0, constantValue := 0 }, { name := "FAILED", type := (.object "com/example/disburse/disburse/core/Payout$Outcome"), accessFlags := 16409, slot := 1, constantValue := 0 }, { name := "RETURNED", type := (.object "com/example/disburse/disburse/core/Payout$Outcome"), accessFlags := 16409, slot := 2, constantValue := 0 }, { name := "status", type := (.object "com/example/disburse/disburse/core/Payout$Status"), accessFlags := 18, slot := 3, constantValue := 0 }, { name := "$VALUES", type := (.array (.object "com/example/disburse/disburse/core/Payout$Outcome")), accessFlags := 4122, slot := 3, constantValue := 0 }]
  methods := #[k6m0, k6m1]
  instanceTypes := #[(.object "java/lang/String"), .int, .int, (.object "com/example/disburse/disburse/core/Payout$Status")]
  staticTypes := #[(.object "com/example/disburse/disburse/core/Payout$Outcome"), (.object "com/example/disburse/disburse/core/Payout$Outcome"), (.object "com/example/disburse/disburse/core/Payout$Outcome"), (.array (.object "com/example/disburse/disburse/core/Payout$Outcome"))]
  resolved := Array.replicate 76 none
  statics := some 0 }

def pool7 : Array CpInfo := pool [(1, .class_ 2), (0, u "com/example/disburse/disburse/core/Payout$Status"), (2, u "PENDING"), (0, u "Lcom/example/disburse/disburse/core/Payout$Status;"), (2, u "IN_TRANSIT"), (2, u "PAID"), (2, u "FAILED"), (2, u "CANCELLED"), (2, u "RETURNED"), (2, u "$VALUES"), (0, u "[Lcom/example/disburse/disburse/core/Payout$Status;"), (6, .class_ 34), (1, u "java/lang/Enum"), (8, u "from"), (27, .class_ 72), (0, u "com/example/disburse/disburse/core/Payout")] 2

/-- com/example/disburse/disburse/core/Payout$Status -/
def k7 : Class := { plain "com/example/disburse/disburse/core/Payout$Status" (some 5) with
  accessFlags := 16433
  interfaces := #[]
  cf := some (fileOf pool7 1 #[.nestHost 71] #[] 16433 32 #[] #[{ accessFlags := 16409, nameIndex := 5, descriptorIndex := 6, attributes := #[] }, { accessFlags := 16409, nameIndex := 9, descriptorIndex := 6, attributes := #[] }, { accessFlags := 16409, nameIndex := 12, descriptorIndex := 6, attributes := #[] }, { accessFlags := 16409, nameIndex := 15, descriptorIndex := 6, attributes := #[] }, { accessFlags := 16409, nameIndex := 18, descriptorIndex := 6, attributes := #[] }, { accessFlags := 16409, nameIndex := 21, descriptorIndex := 6, attributes := #[] }, { accessFlags := 18, nameIndex := 43, descriptorIndex := 6, attributes := #[] }, { accessFlags := 4122, nameIndex := 24, descriptorIndex := 25, attributes := #[] }])
  fields := #[{ name := "PENDING", type := (.object "com/example/disburse/disburse/core/Payout$Status"), accessFlags := 16409, slot := 0, constantValue := 0 }, { name := "IN_TRANSIT", type := (.object "com/example/disburse/disburse/core/Payout$Status"), accessFlags := 16409, slot := 1, constantValue := 0 }, { name := "PAID", type := (.object "com/example/disburse/disburse/core/Payout$Status"), accessFlags := 16409, slot := 2, constantValue := 0 }, { name := "FAILED", type := (.object "com/example/disburse/disburse/core/Payout$Status"), accessFlags := 16409, slot := 3, constantValue := 0 }, { name := "CANCELLED", type := (.object "com/example/disburse/disburse/core/Payout$Status"), accessFlags := 16409, slot := 4, constantValue := 0 }, { name := "RETURNED", type := (.object "com/example/disburse/disburse/core/Payout$Status"), accessFlags := 16409, slot := 5, constantValue := 0 }, { name := "from", type := (.object "com/example/disburse/disburse/core/Payout$Status"), accessFlags := 18, slot := 3, constantValue := 0 }, { name := "$VALUES", type := (.array (.object "com/example/disburse/disburse/core/Payout$Status")), accessFlags := 4122, slot := 6, constantValue := 0 }]
  methods := #[]
  instanceTypes := #[(.object "java/lang/String"), .int, .int, (.object "com/example/disburse/disburse/core/Payout$Status")]
  staticTypes := #[(.object "com/example/disburse/disburse/core/Payout$Status"), (.object "com/example/disburse/disburse/core/Payout$Status"), (.object "com/example/disburse/disburse/core/Payout$Status"), (.object "com/example/disburse/disburse/core/Payout$Status"), (.object "com/example/disburse/disburse/core/Payout$Status"), (.object "com/example/disburse/disburse/core/Payout$Status"), (.array (.object "com/example/disburse/disburse/core/Payout$Status"))]
  resolved := Array.replicate 75 none
  statics := some 1 }

def pool8 : Array CpInfo := pool [(1, u "java/lang/Cloneable"), (0, .class_ 1), (0, u "java/lang/Object"), (0, .class_ 3)] 3

/-- java/lang/Cloneable -/
def k8 : Class := { plain "java/lang/Cloneable" (some 0) with
  accessFlags := 1537
  interfaces := #[]
  cf := some (fileOf pool8 2 #[] #[] 1537 4 #[] #[])
  fields := #[]
  methods := #[]
  instanceTypes := #[]
  staticTypes := #[]
  resolved := Array.replicate 8 none
  statics := none }

/-- the primitive byte -/
def k9 : Class := { plain "byte" none with kind := .primitive 'B', accessFlags := 0x411 }
/-- [B -/
def k10 : Class := { plain "[B" (some 0) with kind := .array 9 .byte, interfaces := #[8, 4], accessFlags := 1041 }

/-- the primitive int -/
def k11 : Class := { plain "int" none with kind := .primitive 'I', accessFlags := 0x411 }
/-- [I -/
def k12 : Class := { plain "[I" (some 0) with kind := .array 11 .int, interfaces := #[8, 4], accessFlags := 1041 }

def heap : Heap := #[{ cls := 6, slots := #[.ref 2, .ref 7, .ref 6, .null], vm := .statics 6 },
  { cls := 7, slots := #[.null, .null, .ref 3, .ref 4, .null, .ref 5, .null], vm := .statics 7 },
  { cls := 6, slots := #[.null, .int 0, .int 0, .ref 3], vm := .none },
  { cls := 7, slots := #[.null, .int 2, .int 0, .null], vm := .none },
  { cls := 7, slots := #[.null, .int 3, .int 0, .null], vm := .none },
  { cls := 7, slots := #[.null, .int 5, .int 0, .null], vm := .none },
  { cls := 6, slots := #[.null, .int 2, .int 0, .ref 5], vm := .none },
  { cls := 6, slots := #[.null, .int 1, .int 0, .ref 4], vm := .none }]
def classes : Array Class := #[k0, k1, k2, k3, k4, k5, k6, k7, k8, k9, k10, k11, k12]
def interned : List (Array UInt16 × Addr) := []
def slotsUsed : Nat := 35
def theMethod : MethodId := ⟨1, 1⟩
def args0 : Array Value := #[.int 2]
def aboutOver (below : List Frame) : State where
  vm := { classes := classes, interned := interned.toArray }
  heap := heap
  slotsUsed := slotsUsed
  threads := #[{ frames := .invoking theMethod args0 :: below }]
def below0 : List Frame := [.native { method := ⟨0, 0⟩, args := #[] }]
def about1 : State := aboutOver below0
def p0 : Program := .bare "" "" ""
def e0 : Env := launch0.env 0 0 0
theorem w_frames : about1.frames = Frame.invoking theMethod args0 :: below0 := rfl
set_option maxRecDepth 65536 in
theorem w_args : argsFit about1.vm theMethod args0 = true := by decide +kernel
set_option maxRecDepth 65536 in
theorem w_heap : heapFits about1 = true := by decide +kernel
set_option maxRecDepth 65536 in
theorem w_runnable : about1.curStatus? = some .runnable := by decide +kernel
set_option maxRecDepth 65536 in
theorem w_alone : about1.alone = true := by decide +kernel
set_option maxRecDepth 65536 in
theorem w_named : about1.methodNamed? x = some theMethod := by decide +kernel
set_option maxRecDepth 65536 in
theorem w_hears : about1.hears theMethod below0 = true := by decide +kernel
set_option maxRecDepth 65536 in
theorem w_ripe : about1.ripe theMethod args0 below0 = true := by decide +kernel
theorem w_running : about1.status = .running := rfl
set_option maxRecDepth 65536 in
theorem w_room : about1.hasRoom e0.platform room_1 = true :=
  launch0.hasRoom_least _ room_1 (by decide +kernel) (by decide +kernel) (by decide +kernel) (by decide +kernel) (by decide +kernel) (by decide +kernel)
theorem allAtoms_all (ts : List Jvm.Cond) (a : Array Jvm.Value) (st : Jvm.State) : (allAtoms ts).before a st = ts.all (fun c => c.before a st) := by
  induction ts with
  | nil => rfl
  | cons c t ih =>
    show (Jvm.Cond.and c (allAtoms t)).before a st = _
    rw [Jvm.Cond.before_and, ih, List.all_cons]
def words1 : List Jvm.Cond := Jvm.Cond.code x code maxLocals ret :: tables_1
/-- a 'code' word, met by the world's own term for the bytes: nothing is compared byte by byte -/
theorem code_word {y : MethodName} {bytes : ByteArray} {mx : Nat} {rt : Option FieldType} {a : Array Value} {s : State} {m : MethodId} {meth : Method} {c : Code} (h1 : s.methodNamed? y = some m) (h2 : s.vm.method? m = some meth) (h3 : meth.code = some c) (h4 : c.code = bytes)
    (h5 : (c.maxLocals == mx && c.exceptionTable.isEmpty && decide (c.maxStack ≤ mostOperands) && decide (meth.sig.returnType = rt) && !meth.locks && decide (parseMethodDescriptor y.desc = some meth.sig)) = true) : (Jvm.Cond.code y bytes mx rt).before a s = true := by
  simp only [Bool.and_eq_true, beq_iff_eq, Bool.not_eq_true', decide_eq_true_eq] at h5
  obtain ⟨⟨⟨⟨⟨g1, g2⟩, g3⟩, g4⟩, g5⟩, g6⟩ := h5
  simp [Cond.before, Cond.holds, Cond.value, h1, h2, h3, h4, g1, g2, g3, g4, g5, g6]
def isCode : Jvm.Cond → Bool
  | .code _ _ _ _ => true
  | _ => false
theorem all_split {L : List Jvm.Cond} {P : Jvm.Cond → Bool} (h1 : L.all (fun c => isCode c || P c) = true) (h2 : ∀ c ∈ L.filter isCode, P c = true) : L.all P = true := by
  refine List.all_eq_true.mpr fun c hc => ?_
  have h := List.all_eq_true.mp h1 c hc
  rcases Bool.eq_false_or_eq_true (isCode c) with hi | hi
  · exact h2 c (List.mem_filter.mpr ⟨hc, hi⟩)
  · simpa [hi] using h
set_option maxRecDepth 65536 in
theorem w_c0 : (Jvm.Cond.code x code maxLocals ret).before args0 about1 = true := code_word (m := ⟨1, 1⟩) (meth := k1m1) (c := k1c1) (by decide +kernel) rfl rfl rfl (by decide +kernel)
set_option maxRecDepth 65536 in
theorem w_c1 : (Jvm.Cond.code ({ cls := "com/example/disburse/disburse/core/Payout$Outcome", name := "status", desc := "()Lcom/example/disburse/disburse/core/Payout$Status;" } : Jvm.MethodName) prog_46_method_4_code (1 : Nat) (Option.some (Jvm.ClassFile.FieldType.object "com/example/disburse/disburse/core/Payout$Status"))).before args0 about1 = true := code_word (m := ⟨6, 0⟩) (meth := k6m0) (c := k6c0) (by decide +kernel) rfl rfl rfl (by decide +kernel)
set_option maxRecDepth 65536 in
theorem w_c2 : (Jvm.Cond.code ({ cls := "com/example/disburse/disburse/core/Payout$Outcome", name := "isFailure", desc := "()Z" } : Jvm.MethodName) prog_46_method_5_code (1 : Nat) (Option.some Jvm.ClassFile.FieldType.boolean)).before args0 about1 = true := code_word (m := ⟨6, 1⟩) (meth := k6m1) (c := k6c1) (by decide +kernel) rfl rfl rfl (by decide +kernel)
def codes1 : List Jvm.Cond := [Jvm.Cond.code x code maxLocals ret, Jvm.Cond.code ({ cls := "com/example/disburse/disburse/core/Payout$Outcome", name := "status", desc := "()Lcom/example/disburse/disburse/core/Payout$Status;" } : Jvm.MethodName) prog_46_method_4_code (1 : Nat) (Option.some (Jvm.ClassFile.FieldType.object "com/example/disburse/disburse/core/Payout$Status")), Jvm.Cond.code ({ cls := "com/example/disburse/disburse/core/Payout$Outcome", name := "isFailure", desc := "()Z" } : Jvm.MethodName) prog_46_method_5_code (1 : Nat) (Option.some Jvm.ClassFile.FieldType.boolean)]
set_option maxRecDepth 65536 in
theorem codes_eq : words1.filter isCode = codes1 := rfl
theorem w_codes : ∀ c ∈ words1.filter isCode, c.before args0 about1 = true := by
  rw [codes_eq]
  intro c hc
  simp only [codes1, List.mem_cons, List.not_mem_nil, or_false] at hc
  rcases hc with rfl | rfl | rfl
  · exact w_c0
  · exact w_c1
  · exact w_c2
set_option maxRecDepth 65536 in
theorem w_t1 : (words1.take 24).all (fun c => isCode c || c.before args0 about1) = true := by decide +kernel
set_option maxRecDepth 65536 in
theorem w_t2 : (words1.drop 24).all (fun c => isCode c || c.before args0 about1) = true := by decide +kernel
theorem w_tables : (allAtoms (Jvm.Cond.code x code maxLocals ret :: tables_1)).before args0 about1 = true := by
  rw [allAtoms_all]
  show words1.all (fun c => c.before args0 about1) = true
  refine all_split ?_ w_codes
  rw [← List.take_append_drop 24 words1, List.all_append, w_t1, w_t2]
  rfl
set_option maxRecDepth 65536 in
theorem w_case : (Jvm.Cond.and given_1 narrow_1).before args0 about1 = true := by decide +kernel
theorem w_applies : (headSpec (Jvm.Cond.code x code maxLocals ret :: tables_1) room_1).applies x e0.platform about1 = true :=
  (Spec.applies_iff w_frames).mpr ⟨w_running, w_runnable, w_alone, w_named, w_hears, w_ripe, w_room, w_tables⟩
theorem atStart : AtStart classFile x code maxLocals ret World_1 tables_1 room_1 Calls_1 rest_1 Pre_1 launch0 p0 e0 about1 theMethod args0 below0 :=
  ⟨lists_1, trivial, launch0.admits_env _ _ _, launch0.least_env, fairChoices_fair.cas, fairChoices_fair.clock, w_frames, w_args, w_heap, w_applies, trivial, trivial, w_case⟩
end start1
theorem witness_1 : WitnessClaimed_1 := ⟨start1.p0, start1.e0, start1.about1, start1.theMethod, start1.args0, start1.below0, start1.atStart⟩
end Jvm.Pilot.@@N@@
