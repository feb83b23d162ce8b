import JvmDerived
import JvmDerived.Pilot.@@N@@Statement
import JvmDerived.Pilot.@@N@@Code
set_option linter.unusedVariables false
set_option linter.unusedSimpArgs false
namespace Jvm.Pilot.@@N@@
open Jvm Jvm.ClassFile Sem Op Lib Jvm.Free Jvm.Stand Jvm.LawKit Jvm.RoadKit Bundle Jvm.Pilot.@@N@@.Jvm.D
section Own
variable {p : Program} {l : Launch} {e : Env} {R : Room} {s : State} {m : MethodId} {args : Array Value} {below : List Frame} {meth : Method} {c : Code} {T : State} {locs : List Loc} {cells slots : Nat} {P : Option Value → Heap → List Loc → Prop} {kk nn : Nat}
/-- from U a run comes to an end at which P holds, within kk cells and nn slots -/
def Go (p : Program) (e : Env) (below : List Frame) (s : State) (P : Option Value → Heap → List Loc → Prop) (kk nn : Nat) (U : State) : Prop :=
  ∃ s₂ o, Steps p.tables e below U s₂ ∧ s₂.status = .running ∧ Ended s₂ below o ∧ ∃ v L, o = .returned v ∧ P v s₂.heap L ∧ FrameEnd s o s₂ L kk nn
theorem Go.pull {U V : State} (h : ∀ t, Steps p.tables e below V t → Steps p.tables e below U t) (g : Go p e below s P kk nn V) : Go p e below s P kk nn U := by
  obtain ⟨s2, o, h1, h2⟩ := g
  exact ⟨s2, o, h _ h1, h2⟩
theorem Go.fin (X : Stand p l e R s m args below meth c T locs cells slots) {f : JFrame} {v : Option Value} (hlk : meth.locks = false) (hv : meth.sig.returnType = none → v = none)
    (hs : ∀ fs, (∀ (f : JFrame) (acts : List Action), f.method = m → f.locked = none → f.entered = [] → (doReturn e (T.setTop f) acts v).1 = T.setFrames fs) → Steps p.tables e below (T.setTop f) (T.setFrames fs))
    (hP : P v T.heap locs) (hk : cells ≤ kk) (hn : slots ≤ nn) : Go p e below s P kk nn (T.setTop f) := by
  obtain ⟨fs, hr, hrun, hended, hW, hsame⟩ := X.leave (v := v) hv hlk
  exact ⟨_, _, hs fs hr, hrun, hended, _, _, rfl, hP, ⟨_, rfl⟩, hW, hsame.mono hk hn⟩
theorem Go.retN (X : Stand p l e R s m args below meth c T locs cells slots) (hx : p.tables.exec = Jvm.exec) (hlk : meth.locks = false) {pc : Nat} {Ls : Array Slot} {z : Int32} {t : FieldType} {rest : List Value} (hret : meth.sig.returnType = some t) (ht : t = .boolean ∨ t = .byte ∨ t = .char ∨ t = .short)
    (hd : decode c.code pc = .ok (.ireturn, 1)) (hP : P (some (.int (nar t z))) T.heap locs) (hk : cells ≤ kk) (hn : slots ≤ nn) : Go p e below s P kk nn (T.setTop (mkF m pc Ls (.int z :: rest))) :=
  Go.fin X hlk (fun h => by rw [hret] at h; cases h) (fun fs hr => RoadKit.retN X hx hret ht hd hr) hP hk hn
theorem Go.retI (X : Stand p l e R s m args below meth c T locs cells slots) (hx : p.tables.exec = Jvm.exec) (hlk : meth.locks = false) {pc : Nat} {Ls : Array Slot} {z : Int32} {rest : List Value} (hret : meth.sig.returnType = some .int)
    (hd : decode c.code pc = .ok (.ireturn, 1)) (hP : P (some (.int z)) T.heap locs) (hk : cells ≤ kk) (hn : slots ≤ nn) : Go p e below s P kk nn (T.setTop (mkF m pc Ls (.int z :: rest))) :=
  Go.fin X hlk (fun h => by rw [hret] at h; cases h) (fun fs hr => retOut X hx hret rfl (Or.inl ⟨rfl, Or.inl rfl, z, rfl⟩) hd hr) hP hk hn
theorem Go.retJ (X : Stand p l e R s m args below meth c T locs cells slots) (hx : p.tables.exec = Jvm.exec) (hlk : meth.locks = false) {pc : Nat} {Ls : Array Slot} {z : Int64} {rest : List Value} (hret : meth.sig.returnType = some .long)
    (hd : decode c.code pc = .ok (.lreturn, 1)) (hP : P (some (.long z)) T.heap locs) (hk : cells ≤ kk) (hn : slots ≤ nn) : Go p e below s P kk nn (T.setTop (mkF m pc Ls (.long z :: rest))) :=
  Go.fin X hlk (fun h => by rw [hret] at h; cases h) (fun fs hr => retOut X hx hret rfl (Or.inr (Or.inl ⟨rfl, rfl, z, rfl⟩)) hd hr) hP hk hn
theorem Go.retR (X : Stand p l e R s m args below meth c T locs cells slots) (hx : p.tables.exec = Jvm.exec) (hlk : meth.locks = false) {pc : Nat} {Ls : Array Slot} {w : Value} {t : FieldType} {rest : List Value} (hret : meth.sig.returnType = some t) (hna : narrow t w = w) (ht : t.isReference = true) (hw : w.isRef = true)
    (hd : decode c.code pc = .ok (.areturn, 1)) (hP : P (some w) T.heap locs) (hk : cells ≤ kk) (hn : slots ≤ nn) : Go p e below s P kk nn (T.setTop (mkF m pc Ls (w :: rest))) :=
  Go.fin X hlk (fun h => by rw [hret] at h; cases h) (fun fs hr => retOut X hx hret hna (Or.inr (Or.inr (Or.inr (Or.inr ⟨rfl, ht, hw⟩)))) hd hr) hP hk hn
theorem Go.ret0 (X : Stand p l e R s m args below meth c T locs cells slots) (hx : p.tables.exec = Jvm.exec) (hlk : meth.locks = false) {pc : Nat} {Ls : Array Slot} (hret : meth.sig.returnType = none)
    (hd : decode c.code pc = .ok (.return_, 1)) (hP : P none T.heap locs) (hk : cells ≤ kk) (hn : slots ≤ nn) : Go p e below s P kk nn (T.setTop (mkF m pc Ls [])) :=
  Go.fin X hlk (fun _ => rfl) (fun fs hr => X.returnOut hx hret hd hr) hP hk hn
theorem own_lsw {tb : Tables} [Ours tb] {e : Env} {below : List Frame} {T target : State} {m : MethodId} {c : Code} {g : JFrame} (h : At T m c below) (hx : tb.exec = Jvm.exec) (hg : g.method = m) {dflt : Int} {prs : Array (Int × Int)} {len : Nat} {o : Int} {pc0 pc' : Nat} (hpc : g.pc = pc0)
    (hd : decode c.code g.pc = .ok (.lookupswitch dflt prs, len)) {i : Int32} {rest : List Value} (hs : g.stack = .int i :: rest) (hord : (prs.toList.zip (prs.toList.drop 1)).all (fun (a, next) => a.1 < next.1) = true) (hoff : lookupswitch.offset prs.toList dflt i.toInt = o)
    (ho : 0 ≤ (pc0 : Int) + o) (hp : ((pc0 : Int) + o).toNat = pc') (hr : Steps tb e below (T.setTop { g with pc := pc', stack := rest }) target) : Steps tb e below (T.setTop g) target := by
  subst hg hpc hp hoff
  jvm_step h [h.top, hx, hd, hs, ho, lookupswitch.wp_chain]
  exact ⟨by simpa using hord, hr⟩
theorem own_eq_i {t : Term} {n : Int32} {first : State} {o : Option Outcome} {idx : List Nat} (h : (Cond.eq t (.int n)).value args first o s idx = some true) : t.eval args first o idx s = some (.int n) := by
  obtain ⟨x, y, e1, e2, k1, k2⟩ := cmp_v (Or.inl h)
  cases (Term.int_eval n).symm.trans e2
  obtain ⟨z, rfl⟩ : ∃ z, x = .int z := k2
  rw [e1, gotT (Cond.eq_ints e1 e2) h]
theorem own_eq_l {t : Term} {n : Int64} {first : State} {o : Option Outcome} {idx : List Nat} (h : (Cond.eq t (.long n)).value args first o s idx = some true) : t.eval args first o idx s = some (.long n) := by
  obtain ⟨x, y, e1, e2, k1, k2⟩ := cmp_v (Or.inl h)
  have e3 : (Term.long n).eval args first o idx s = some (.long n) := rfl
  cases e3.symm.trans e2
  obtain ⟨z, rfl⟩ : ∃ z, x = .long z := k2
  rw [e1, gotT (eq_L e1 e2) h]
theorem own_eq_r {t u : Term} {a : Addr} {first : State} {o : Option Outcome} {idx : List Nat} (hu : u.eval args first o idx s = some (.ref a)) (h : (Cond.eq t u).value args first o s idx = some true) : t.eval args first o idx s = some (.ref a) := by
  obtain ⟨x, y, e1, e2, k1, k2⟩ := cmp_v (Or.inl h)
  cases hu.symm.trans e2
  have k3 : (Value.ref a).isRef = true ∧ x.isRef = true := k2
  rw [e1, gotT (eq_R e1 e2 k3.2 rfl) h]
theorem own_sta_keep {Z : State} {h h' : Heap} {C n d : String} {w : Value} {ws : List Addr} (F : Sta Z h C n d w) (K : Keep h h' ws) (q : ∀ x ∈ ws, ∃ c : Cell, h[x]? = some c ∧ ∀ q, c.vm ≠ .statics q) : Sta Z h' C n d w := by
  obtain ⟨cf, i, k, f, st, cell, h1, h2, h3, h4, h5, h6, h7⟩ := F
  refine ⟨cf, i, k, f, st, cell, h1, h2, h3, h4, K.2.1 st cell h5 (fun hm => ?_), h6, h7⟩
  obtain ⟨c, hc, hq⟩ := q st hm
  cases h5.symm.trans hc
  cases hv : cell.vm with
  | statics r => exact hq r hv
  | _ => rw [hv] at h6; cases h6
end Own
theorem pd_0 : parseMethodDescriptor "()V" = some ⟨[], none⟩ := by decide +kernel
theorem pd_1 : parseMethodDescriptor "(IID)V" = some ⟨[.int, .int, .double], none⟩ := by decide +kernel
theorem pd_2 : parseMethodDescriptor "(I)I" = some ⟨[.int], some .int⟩ := by decide +kernel
def own_ll (pm pp pd : Int32) : Int32 := if pm < pd then (((pd.toInt64 * pp.toInt64) + (99 : Int64)) / (100 : Int64)).toInt32 else 0
theorem own_mb {D P : Int} (h1 : 0 ≤ D) (h2 : 1 ≤ P ∧ P ≤ 100) : 0 ≤ D * P ∧ D * P ≤ 100 * D := by
  refine ⟨Int.mul_nonneg h1 (by omega), ?_⟩
  rw [Int.mul_comm 100 D]; exact Int.mul_le_mul_of_nonneg_left h2.2 h1
theorem own_r {pm pp pd : Int32} (hm : 0 ≤ pm.toInt) (hp : 1 ≤ pp.toInt ∧ pp.toInt ≤ 100) (h : pm < pd) : (own_ll pm pp pd).toInt = (pd.toInt * pp.toInt + 99) / 100 ∧ (pd.toInt64 * pp.toInt64).toInt = pd.toInt * pp.toInt ∧ 0 ≤ pd.toInt * pp.toInt ∧ pd.toInt * pp.toInt ≤ 100 * pd.toInt ∧ 0 < pd.toInt := by
  have hd : pm.toInt < pd.toInt := Int32.lt_iff_toInt_lt.mp h
  obtain ⟨b1, b2⟩ := own_mb (D := pd.toInt) (by omega) hp
  have r := rng32 pd
  have e1 : (pd.toInt64 * pp.toInt64).toInt = pd.toInt * pp.toInt := XT.wideMul pd pp
  refine ⟨?_, e1, b1, b2, by omega⟩
  rw [own_ll, if_pos h]
  generalize pd.toInt * pp.toInt = N at e1 b1 b2 ⊢
  generalize pd.toInt64 * pp.toInt64 = M at e1 ⊢
  have e2 := c_ladd M 99; have e3 : (99 : Int64).toInt = 99 := rfl; have r2 := rng64 (M + 99)
  rw [e3, e1] at e2
  have e4 : (M + 99).toInt = N + 99 := by omega
  have e5 := (c_ldiv (M + 99) 100 100 (by decide) (by decide)).1 (by omega)
  rw [e4] at e5
  rw [XT.narrowInt (by rw [e5]; constructor <;> omega), e5]
theorem own_c1 {pm pp pd : Int32} (hm : 0 ≤ pm.toInt) (hp : 1 ≤ pp.toInt ∧ pp.toInt ≤ 100) (h : pm < pd) : ¬ ((own_ll pm pp pd).toInt64 * (100 : Int64)) < (pd.toInt64 * pp.toInt64) := by
  obtain ⟨e1, e2, b1, b2, b3⟩ := own_r hm hp h
  have r := rng32 pd; have e3 := c_lmul (own_ll pm pp pd).toInt64 100; have e4 : (100 : Int64).toInt = 100 := rfl; have r2 := rng64 ((own_ll pm pp pd).toInt64 * 100)
  rw [c_i2l, e1, e4] at e3
  rw [Int64.lt_iff_toInt_lt, e2]
  generalize pd.toInt * pp.toInt = N at *
  omega
theorem own_c2 {pm pp pd : Int32} (hm : 0 ≤ pm.toInt) (hp : 1 ≤ pp.toInt ∧ pp.toInt ≤ 100) (h : pm < pd) : (((own_ll pm pp pd).toInt64 - (1 : Int64)) * (100 : Int64)) < (pd.toInt64 * pp.toInt64) := by
  obtain ⟨e1, e2, b1, b2, b3⟩ := own_r hm hp h
  have r := rng32 pd; have e5 := c_lsub (own_ll pm pp pd).toInt64 1; have e6 : (1 : Int64).toInt = 1 := rfl; have r5 := rng64 ((own_ll pm pp pd).toInt64 - 1)
  rw [c_i2l, e1, e6] at e5
  have e3 := c_lmul ((own_ll pm pp pd).toInt64 - 1) 100; have e4 : (100 : Int64).toInt = 100 := rfl; have r2 := rng64 (((own_ll pm pp pd).toInt64 - 1) * 100)
  rw [e4] at e3
  rw [Int64.lt_iff_toInt_lt, e2]
  generalize pd.toInt * pp.toInt = N at *
  omega
theorem own_pos (x : Int32) : 0 ≤ (x &&& (2147483647 : Int32)).toInt := by
  have h0 : (x &&& (2147483647 : Int32)).toInt = x.toInt % (2 ^ 31 : Nat) := c_mask x 2147483647 31 (by decide) (by decide)
  omega
theorem own_pos15 (x : Int32) : 0 ≤ (x &&& (15 : Int32)).toInt := by
  have h0 : (x &&& (15 : Int32)).toInt = x.toInt % (2 ^ 4 : Nat) := c_mask x 15 4 (by decide) (by decide)
  omega
theorem own_pc (x : Int32) : 1 ≤ (((x &&& (2147483647 : Int32)) % (100 : Int32)) + (1 : Int32)).toInt ∧ (((x &&& (2147483647 : Int32)) % (100 : Int32)) + (1 : Int32)).toInt ≤ 100 := by
  have h0 := own_pos x
  have h1 := (c_irem (x &&& (2147483647 : Int32)) 100 100 (by decide)).1 h0
  have h2 := c_iadd ((x &&& (2147483647 : Int32)) % (100 : Int32)) 1; have h3 : (1 : Int32).toInt = 1 := rfl; have r := rng32 (((x &&& (2147483647 : Int32)) % (100 : Int32)) + (1 : Int32))
  rw [h3] at h2
  omega
theorem dR_0 : decode jdk_30_method_1_code 0 = .ok (.aload_n 0, 1) := by decide +kernel
theorem dR_1 : decode jdk_30_method_1_code 1 = .ok (.invokespecial 1, 3) := by decide +kernel
theorem dR_4 : decode jdk_30_method_1_code 4 = .ok (.return_, 1) := by decide +kernel
theorem efR (m : MethodId) (x0 : Addr) : entryFrame m #[(.ref x0)] 1 = mkF m 0 #[rv x0] [] := by first | (simp [entryFrame, mkF, argsToLocals, Value.category]; done) | rfl
theorem pn_java_lang_Record : plainName "java/lang/Record" = true := by first | (simp [plainName, overriddenIn]; done) | decide +kernel
def QR (Z : State) (a : Addr) (h0 : Heap) (n0 : Nat) (v : Option Value) (h : Heap) (L : List Loc) : Prop := v = none ∧ Fr n0 L ∧ h = h0
set_option maxRecDepth 65536 in
set_option maxHeartbeats 40000000 in
theorem rmR (l : Launch) (Z : State) (a0 : Array Value) (hw : ∀ d ∈ tables_1, d.before a0 Z = true) (ws : List Jvm.Cond) (a : Addr) (h0 : Heap) (n0 : Nat) :
    MetFree l (⟨"java/lang/Record", "<init>", "()V"⟩ : MethodName) (head1 (Jvm.Cond.code (⟨"java/lang/Record", "<init>", "()V"⟩ : MethodName) jdk_30_method_1_code 1 none :: ws) ({ frames := 1, cells := 0, slots := 0, locals := 12 } : Room)) (fun as' U => as' = #[(.ref a)] ∧ Z.Warmed39 U.vm ∧ U.heap = h0) (fun _ _ _ _ _ => True) (fun _ U o U' => ∃ v L, o = .returned v ∧ QR Z a h0 n0 v U'.heap L ∧ FrameEnd U o U' L ({ frames := 1, cells := 0, slots := 0, locals := 12 } : Room).cells ({ frames := 1, cells := 0, slots := 0, locals := 12 } : Room).slots) := by
  refine MetFree.of_bodySF (plainFor_of_name pn_java_lang_Record) hisR ?_
  intro p e s m args below meth c s₁ Bd hml0 hP hK
  obtain ⟨rfl, hZ, hh⟩ := hP
  have hx := Bd.exec
  have hby := Bd.bytes
  have hml : c.maxLocals = 1 := hml0
  have hown : s.vm.findClass "java/lang/Record" = some m.cls := findClass_of_methodNamed Bd.named
  have hnm := (name_of_methodNamed Bd.named Bd.method).1
  have X0 : Stand p l e ({ frames := 1, cells := 0, slots := 0, locals := 12 } : Room) s m #[(.ref a)] below meth c s₁ [] 0 0 := Stand.of_body Bd
  have e0 : s₁.heap = h0 := by rw [← hh, Bd.state]; rfl
  have N0 := Fr.nil n0
  show Go p e below s (fun v h L => QR Z a h0 n0 v h L) 0 0 _
  refine Go.pull (V := s₁.setTop (mkF m 0 #[rv a] [])) (fun t k => castTop (efR m a) k) ?_
  refine Go.pull (V := s₁.setTop (mkF m 1 #[rv a] [(.ref a)])) (fun t k => XS.aloadN X0.here hx rfl (hb hby dR_0) rfl rfl k) ?_
  obtain ⟨T1, X1, e1, st1⟩ := initO X0 hx hZ hown (hw _ (List.mem_of_getElem? (i := 12) rfl)) (hw _ (List.mem_of_getElem? (i := 13) rfl)) (hw _ (List.mem_of_getElem? (i := 14) rfl)) e0 (g := (mkF m 1 #[rv a] [(.ref a)])) rfl (by rw [hml]; rfl) rfl (hb hby dR_1) (by decide) (W := 0) (by show 2 * 0 + _ ≤ _; exact Nat.le_of_eq rfl) (by decide)
  refine Go.pull (V := T1.setTop (mkF m 4 #[rv a] [])) st1 ?_
  exact Go.ret0 X1 hx Bd.notSynchronized Bd.returns (hb hby dR_4) ⟨rfl, N0, e1⟩ (by decide) (by decide)
theorem dI_0 : decode prog_27_method_1_code 0 = .ok (.aload_n 0, 1) := by decide +kernel
theorem dI_1 : decode prog_27_method_1_code 1 = .ok (.invokespecial 1, 3) := by decide +kernel
theorem dI_4 : decode prog_27_method_1_code 4 = .ok (.aload_n 0, 1) := by decide +kernel
theorem dI_5 : decode prog_27_method_1_code 5 = .ok (.iload_n 1, 1) := by decide +kernel
theorem dI_6 : decode prog_27_method_1_code 6 = .ok (.putfield 7, 3) := by decide +kernel
theorem dI_9 : decode prog_27_method_1_code 9 = .ok (.aload_n 0, 1) := by decide +kernel
theorem dI_10 : decode prog_27_method_1_code 10 = .ok (.iload_n 2, 1) := by decide +kernel
theorem dI_11 : decode prog_27_method_1_code 11 = .ok (.putfield 13, 3) := by decide +kernel
theorem dI_14 : decode prog_27_method_1_code 14 = .ok (.aload_n 0, 1) := by decide +kernel
theorem dI_15 : decode prog_27_method_1_code 15 = .ok (.dload_n 3, 1) := by decide +kernel
theorem dI_16 : decode prog_27_method_1_code 16 = .ok (.putfield 16, 3) := by decide +kernel
theorem dI_19 : decode prog_27_method_1_code 19 = .ok (.return_, 1) := by decide +kernel
theorem efI (m : MethodId) (x0 : Addr) (x1 : Int32) (x2 : Int32) (x3 : UInt64) : entryFrame m #[(.ref x0), (.int x1), (.int x2), (.double x3)] 5 = mkF m 0 #[rv x0, iv x1, iv x2, .val (.double x3), .second] [] := by first | (simp [entryFrame, mkF, argsToLocals, Value.category]; done) | rfl
theorem pn_com_example_threshold_threshold_TopDocsOptions : plainName "com/example/threshold/threshold/TopDocsOptions" = true := by first | (simp [plainName, overriddenIn]; done) | decide +kernel
def QI (Z : State) (a : Addr) (pm : Int32) (pp : Int32) (pd : UInt64) (ua : Value) (ub : Value) (uc : Value) (h0 : Heap) (n0 : Nat) (v : Option Value) (h : Heap) (L : List Loc) : Prop := v = none ∧ Fr n0 L ∧ Keep h0 h [a] ∧ Fld Z h a "com/example/threshold/threshold/TopDocsOptions" "minDocumentFrequency" "I" (.int pm) ∧ Fld Z h a "com/example/threshold/threshold/TopDocsOptions" "percent" "I" (.int pp)
set_option maxRecDepth 65536 in
set_option maxHeartbeats 40000000 in
theorem rmI (l : Launch) (Z : State) (a0 : Array Value) (hw : ∀ d ∈ tables_1, d.before a0 Z = true) (ws : List Jvm.Cond) (a : Addr) (pm : Int32) (pp : Int32) (pd : UInt64) (ua : Value) (ub : Value) (uc : Value) (h0 : Heap) (n0 : Nat) (g_a : n0 ≤ a) (Ea : Exa Z h0 a "com/example/threshold/threshold/TopDocsOptions") (Fu : Fld Z h0 a "com/example/threshold/threshold/TopDocsOptions" "minDocumentFrequency" "I" ua) (Fv : Fld Z h0 a "com/example/threshold/threshold/TopDocsOptions" "percent" "I" ub) (Fw' : Fld Z h0 a "com/example/threshold/threshold/TopDocsOptions" "mu" "D" uc) :
    MetFree l (⟨"com/example/threshold/threshold/TopDocsOptions", "<init>", "(IID)V"⟩ : MethodName) (head1 (Jvm.Cond.code (⟨"com/example/threshold/threshold/TopDocsOptions", "<init>", "(IID)V"⟩ : MethodName) prog_27_method_1_code 5 none :: ws) ({ frames := 2, cells := 0, slots := 0, locals := 24 } : Room)) (fun as' U => as' = #[(.ref a), (.int pm), (.int pp), (.double pd)] ∧ Z.Warmed39 U.vm ∧ U.heap = h0) (fun _ _ _ _ _ => True) (fun _ U o U' => ∃ v L, o = .returned v ∧ QI Z a pm pp pd ua ub uc h0 n0 v U'.heap L ∧ FrameEnd U o U' L ({ frames := 2, cells := 0, slots := 0, locals := 24 } : Room).cells ({ frames := 2, cells := 0, slots := 0, locals := 24 } : Room).slots) := by
  refine MetFree.of_bodySF (plainFor_of_name pn_com_example_threshold_threshold_TopDocsOptions) hisR ?_
  intro p e s m args below meth c s₁ Bd hml0 hP hK
  obtain ⟨rfl, hZ, hh⟩ := hP
  have hx := Bd.exec
  have hby := Bd.bytes
  have hml : c.maxLocals = 5 := hml0
  have hown : s.vm.findClass "com/example/threshold/threshold/TopDocsOptions" = some m.cls := findClass_of_methodNamed Bd.named
  have hnm := (name_of_methodNamed Bd.named Bd.method).1
  have X0 : Stand p l e ({ frames := 2, cells := 0, slots := 0, locals := 24 } : Room) s m #[(.ref a), (.int pm), (.int pp), (.double pd)] below meth c s₁ [] 0 0 := Stand.of_body Bd
  have e0 : s₁.heap = h0 := by rw [← hh, Bd.state]; rfl
  have N0 := Fr.nil n0
  show Go p e below s (fun v h L => QI Z a pm pp pd ua ub uc h0 n0 v h L) 0 0 _
  refine Go.pull (V := s₁.setTop (mkF m 0 #[rv a, iv pm, iv pp, .val (.double pd), .second] [])) (fun t k => castTop (efI m a pm pp pd) k) ?_
  refine Go.pull (V := s₁.setTop (mkF m 1 #[rv a, iv pm, iv pp, .val (.double pd), .second] [(.ref a)])) (fun t k => XS.aloadN X0.here hx rfl (hb hby dI_0) rfl rfl k) ?_
  obtain ⟨_, _, ⟨T1, L1, k1, n1⟩, -, X1, ⟨Lc1, hQ1, l1, y1, z1⟩, st1⟩ := X0.specialBack hx (y := (⟨"java/lang/Record", "<init>", "()V"⟩ : MethodName)) rfl hown (mvT hZ (hw _ (List.mem_of_getElem? (i := 7) rfl))) (mvT hZ (hw _ (List.mem_of_getElem? (i := 8) rfl))) (mvT hZ (hw _ (List.mem_of_getElem? (i := 11) rfl))) (by decide) (backOf (W := 0) (rmR l Z a0 hw [] a h0 n0 ) hZ (hw _ (List.mem_of_getElem? (i := 11) rfl)) (hw _ (List.mem_of_getElem? (i := 10) rfl)) (by decide) (by decide)) (g := (mkF m 1 #[rv a, iv pm, iv pp, .val (.double pd), .second] [(.ref a)])) rfl (by rw [hml]; rfl) (Steps.refl _) (a := a) (argsL := []) (rest := []) (lenOf pd_0 rfl) rfl (by show 2 * 0 + _ ≤ _; exact Nat.le_of_eq rfl) (hb hby dI_1) (fun _ _ => ⟨rfl, e0, (by decide : 0 + 0 ≤ _), (by decide : 0 + 0 ≤ _)⟩)
  dsimp only [Pt.U, Pt.locs, Pt.cells, Pt.slots] at X1 l1 y1 z1 st1 hQ1
  subst l1 y1 z1
  obtain ⟨rfl, N1q, e1⟩ := hQ1
  have N1 := Fr.app N0 N1q
  refine Go.pull (V := T1.setTop (mkF m 4 #[rv a, iv pm, iv pp, .val (.double pd), .second] [])) (fun _ k => st1.trans k) ?_
  refine Go.pull (V := T1.setTop (mkF m 5 #[rv a, iv pm, iv pp, .val (.double pd), .second] [(.ref a)])) (fun t k => XS.aloadN X1.here hx rfl (hb hby dI_4) rfl rfl k) ?_
  refine Go.pull (V := T1.setTop (mkF m 6 #[rv a, iv pm, iv pp, .val (.double pd), .second] [(.int pm), (.ref a)])) (fun t k => XS.iloadN X1.here hx rfl (hb hby dI_5) rfl  k) ?_
  obtain ⟨T2, h2, X2, e2, W2, st2⟩ := putF X1 hx hZ hown (host := "") (Or.inl (hw _ (List.mem_of_getElem? (i := 15) rfl))) Via.refl e1 Fu Ea (Or.inr ⟨(hw _ (List.mem_of_getElem? (i := 16) rfl)), rfl, hnm⟩) (hw _ (List.mem_of_getElem? (i := 2) rfl)) (ty := .int) (by decide) rfl rfl (g := (mkF m 6 #[rv a, iv pm, iv pp, .val (.double pd), .second] [(.int pm), (.ref a)])) rfl rfl (hb hby dI_6)
  have Fw2 : Fld Z h2 a "com/example/threshold/threshold/TopDocsOptions" "minDocumentFrequency" "I" (.int pm) := Fu.same W2
  have K2 : Keep h0 h2 [a] := (Keep.refl h0 [a]).wr W2 (Or.inl (List.mem_of_getElem? (i := 0) rfl))
  have N2 := Fr.snoc X2 N1 g_a
  refine Go.pull (V := T2.setTop (mkF m 9 #[rv a, iv pm, iv pp, .val (.double pd), .second] [])) st2 ?_
  refine Go.pull (V := T2.setTop (mkF m 10 #[rv a, iv pm, iv pp, .val (.double pd), .second] [(.ref a)])) (fun t k => XS.aloadN X2.here hx rfl (hb hby dI_9) rfl rfl k) ?_
  refine Go.pull (V := T2.setTop (mkF m 11 #[rv a, iv pm, iv pp, .val (.double pd), .second] [(.int pp), (.ref a)])) (fun t k => XS.iloadN X2.here hx rfl (hb hby dI_10) rfl  k) ?_
  obtain ⟨T3, h3, X3, e3, W3, st3⟩ := putF X2 hx hZ hown (host := "") (Or.inl (hw _ (List.mem_of_getElem? (i := 17) rfl))) Via.refl e2 (Fv.other W2 (Or.inr (slot_ne (Or.inr (hw _ (List.mem_of_getElem? (i := 18) rfl))) (Or.inr (hw _ (List.mem_of_getElem? (i := 16) rfl))) (by decide) (t := .int) (t' := .int) (by decide) (by decide)))) (Ea.wr W2) (Or.inr ⟨(hw _ (List.mem_of_getElem? (i := 18) rfl)), rfl, hnm⟩) (hw _ (List.mem_of_getElem? (i := 2) rfl)) (ty := .int) (by decide) rfl rfl (g := (mkF m 11 #[rv a, iv pm, iv pp, .val (.double pd), .second] [(.int pp), (.ref a)])) rfl rfl (hb hby dI_11)
  have Fw3 : Fld Z h3 a "com/example/threshold/threshold/TopDocsOptions" "percent" "I" (.int pp) := (Fv.other W2 (Or.inr (slot_ne (Or.inr (hw _ (List.mem_of_getElem? (i := 18) rfl))) (Or.inr (hw _ (List.mem_of_getElem? (i := 16) rfl))) (by decide) (t := .int) (t' := .int) (by decide) (by decide)))).same W3
  have K3 : Keep h0 h3 [a] := K2.wr W3 (Or.inl (List.mem_of_getElem? (i := 0) rfl))
  have N3 := Fr.snoc X3 N2 g_a
  refine Go.pull (V := T3.setTop (mkF m 14 #[rv a, iv pm, iv pp, .val (.double pd), .second] [])) st3 ?_
  refine Go.pull (V := T3.setTop (mkF m 15 #[rv a, iv pm, iv pp, .val (.double pd), .second] [(.ref a)])) (fun t k => XS.aloadN X3.here hx rfl (hb hby dI_14) rfl rfl k) ?_
  refine Go.pull (V := T3.setTop (mkF m 16 #[rv a, iv pm, iv pp, .val (.double pd), .second] [(.double pd), (.ref a)])) (fun t k => XS.dloadN X3.here hx rfl (hb hby dI_15) rfl  k) ?_
  obtain ⟨T4, h4, X4, e4, W4, st4⟩ := putF X3 hx hZ hown (host := "") (Or.inl (hw _ (List.mem_of_getElem? (i := 19) rfl))) Via.refl e3 ((Fw'.other W2 (Or.inr (slot_ne (Or.inr (hw _ (List.mem_of_getElem? (i := 20) rfl))) (Or.inr (hw _ (List.mem_of_getElem? (i := 16) rfl))) (by decide) (t := .double) (t' := .int) (by decide) (by decide)))).other W3 (Or.inr (slot_ne (Or.inr (hw _ (List.mem_of_getElem? (i := 20) rfl))) (Or.inr (hw _ (List.mem_of_getElem? (i := 18) rfl))) (by decide) (t := .double) (t' := .int) (by decide) (by decide)))) ((Ea.wr W2).wr W3) (Or.inr ⟨(hw _ (List.mem_of_getElem? (i := 20) rfl)), rfl, hnm⟩) (hw _ (List.mem_of_getElem? (i := 2) rfl)) (ty := .double) (by decide) rfl rfl (g := (mkF m 16 #[rv a, iv pm, iv pp, .val (.double pd), .second] [(.double pd), (.ref a)])) rfl rfl (hb hby dI_16)
  have Fw4 : Fld Z h4 a "com/example/threshold/threshold/TopDocsOptions" "mu" "D" (.double pd) := ((Fw'.other W2 (Or.inr (slot_ne (Or.inr (hw _ (List.mem_of_getElem? (i := 20) rfl))) (Or.inr (hw _ (List.mem_of_getElem? (i := 16) rfl))) (by decide) (t := .double) (t' := .int) (by decide) (by decide)))).other W3 (Or.inr (slot_ne (Or.inr (hw _ (List.mem_of_getElem? (i := 20) rfl))) (Or.inr (hw _ (List.mem_of_getElem? (i := 18) rfl))) (by decide) (t := .double) (t' := .int) (by decide) (by decide)))).same W4
  have K4 : Keep h0 h4 [a] := K3.wr W4 (Or.inl (List.mem_of_getElem? (i := 0) rfl))
  have N4 := Fr.snoc X4 N3 g_a
  refine Go.pull (V := T4.setTop (mkF m 19 #[rv a, iv pm, iv pp, .val (.double pd), .second] [])) st4 ?_
  exact Go.ret0 X4 hx Bd.notSynchronized Bd.returns (hb hby dI_19) (by rw [e4]; exact ⟨rfl, N4, K4, ((Fw2.other W3 (Or.inr (slot_ne (Or.inr (hw _ (List.mem_of_getElem? (i := 16) rfl))) (Or.inr (hw _ (List.mem_of_getElem? (i := 18) rfl))) (by decide) (t := .int) (t' := .int) (by decide) (by decide)))).other W4 (Or.inr (slot_ne (Or.inr (hw _ (List.mem_of_getElem? (i := 16) rfl))) (Or.inr (hw _ (List.mem_of_getElem? (i := 20) rfl))) (by decide) (t := .int) (t' := .double) (by decide) (by decide)))), (Fw3.other W4 (Or.inr (slot_ne (Or.inr (hw _ (List.mem_of_getElem? (i := 18) rfl))) (Or.inr (hw _ (List.mem_of_getElem? (i := 20) rfl))) (by decide) (t := .int) (t' := .double) (by decide) (by decide))))⟩) (by decide) (by decide)
theorem dA_0 : decode prog_27_method_2_code 0 = .ok (.iload_n 1, 1) := by decide +kernel
theorem dA_1 : decode prog_27_method_2_code 1 = .ok (.aload_n 0, 1) := by decide +kernel
theorem dA_2 : decode prog_27_method_2_code 2 = .ok (.getfield 7, 3) := by decide +kernel
theorem dA_5 : decode prog_27_method_2_code 5 = .ok (.if_icmp .le 23, 3) := by decide +kernel
theorem dA_8 : decode prog_27_method_2_code 8 = .ok (.iload_n 1, 1) := by decide +kernel
theorem dA_9 : decode prog_27_method_2_code 9 = .ok (.i2l, 1) := by decide +kernel
theorem dA_10 : decode prog_27_method_2_code 10 = .ok (.aload_n 0, 1) := by decide +kernel
theorem dA_11 : decode prog_27_method_2_code 11 = .ok (.getfield 13, 3) := by decide +kernel
theorem dA_14 : decode prog_27_method_2_code 14 = .ok (.i2l, 1) := by decide +kernel
theorem dA_15 : decode prog_27_method_2_code 15 = .ok (.lmul, 1) := by decide +kernel
theorem dA_16 : decode prog_27_method_2_code 16 = .ok (.ldc2_w 20, 3) := by decide +kernel
theorem dA_19 : decode prog_27_method_2_code 19 = .ok (.ladd, 1) := by decide +kernel
theorem dA_20 : decode prog_27_method_2_code 20 = .ok (.ldc2_w 22, 3) := by decide +kernel
theorem dA_23 : decode prog_27_method_2_code 23 = .ok (.ldiv, 1) := by decide +kernel
theorem dA_24 : decode prog_27_method_2_code 24 = .ok (.l2i, 1) := by decide +kernel
theorem dA_25 : decode prog_27_method_2_code 25 = .ok (.goto 4, 3) := by decide +kernel
theorem dA_28 : decode prog_27_method_2_code 28 = .ok (.iconst 0, 1) := by decide +kernel
theorem dA_29 : decode prog_27_method_2_code 29 = .ok (.ireturn, 1) := by decide +kernel
theorem efA (m : MethodId) (x0 : Addr) (x1 : Int32) : entryFrame m #[(.ref x0), (.int x1)] 2 = mkF m 0 #[rv x0, iv x1] [] := by first | (simp [entryFrame, mkF, argsToLocals, Value.category]; done) | rfl
def QA (Z : State) (a : Addr) (pd : Int32) (pm : Int32) (pp : Int32) (h0 : Heap) (n0 : Nat) (v : Option Value) (h : Heap) (L : List Loc) : Prop := v = some (.int (own_ll pm pp pd)) ∧ Fr n0 L ∧ h = h0
set_option maxRecDepth 65536 in
set_option maxHeartbeats 40000000 in
theorem rmA (l : Launch) (Z : State) (a0 : Array Value) (hw : ∀ d ∈ tables_1, d.before a0 Z = true) (ws : List Jvm.Cond) (a : Addr) (pd : Int32) (pm : Int32) (pp : Int32) (h0 : Heap) (n0 : Nat) (Fp : Fld Z h0 a "com/example/threshold/threshold/TopDocsOptions" "minDocumentFrequency" "I" (.int pm)) (Fq : Fld Z h0 a "com/example/threshold/threshold/TopDocsOptions" "percent" "I" (.int pp)) :
    MetFree l (⟨"com/example/threshold/threshold/TopDocsOptions", "listLength", "(I)I"⟩ : MethodName) (head1 (Jvm.Cond.code (⟨"com/example/threshold/threshold/TopDocsOptions", "listLength", "(I)I"⟩ : MethodName) prog_27_method_2_code 2 (some .int) :: ws) ({ frames := 0, cells := 0, slots := 0, locals := 0 } : Room)) (fun as' U => as' = #[(.ref a), (.int pd)] ∧ Z.Warmed39 U.vm ∧ U.heap = h0) (fun _ _ _ _ _ => True) (fun _ U o U' => ∃ v L, o = .returned v ∧ QA Z a pd pm pp h0 n0 v U'.heap L ∧ FrameEnd U o U' L ({ frames := 0, cells := 0, slots := 0, locals := 0 } : Room).cells ({ frames := 0, cells := 0, slots := 0, locals := 0 } : Room).slots) := by
  refine MetFree.of_bodySF (plainFor_of_name pn_com_example_threshold_threshold_TopDocsOptions) hisR ?_
  intro p e s m args below meth c s₁ Bd hml0 hP hK
  obtain ⟨rfl, hZ, hh⟩ := hP
  have hx := Bd.exec
  have hby := Bd.bytes
  have hml : c.maxLocals = 2 := hml0
  have hown : s.vm.findClass "com/example/threshold/threshold/TopDocsOptions" = some m.cls := findClass_of_methodNamed Bd.named
  have hnm := (name_of_methodNamed Bd.named Bd.method).1
  have X0 : Stand p l e ({ frames := 0, cells := 0, slots := 0, locals := 0 } : Room) s m #[(.ref a), (.int pd)] below meth c s₁ [] 0 0 := Stand.of_body Bd
  have e0 : s₁.heap = h0 := by rw [← hh, Bd.state]; rfl
  have N0 := Fr.nil n0
  show Go p e below s (fun v h L => QA Z a pd pm pp h0 n0 v h L) 0 0 _
  refine Go.pull (V := s₁.setTop (mkF m 0 #[rv a, iv pd] [])) (fun t k => castTop (efA m a pd) k) ?_
  refine Go.pull (V := s₁.setTop (mkF m 1 #[rv a, iv pd] [(.int pd)])) (fun t k => XS.iloadN X0.here hx rfl (hb hby dA_0) rfl  k) ?_
  refine Go.pull (V := s₁.setTop (mkF m 2 #[rv a, iv pd] [(.ref a), (.int pd)])) (fun t k => XS.aloadN X0.here hx rfl (hb hby dA_1) rfl rfl k) ?_
  obtain ⟨T1, X1, e1, st1⟩ := getF X0 hx hZ hown (host := "") (Or.inl (hw _ (List.mem_of_getElem? (i := 15) rfl))) Via.refl e0 Fp (g := (mkF m 2 #[rv a, iv pd] [(.ref a), (.int pd)])) rfl rfl (hb hby dA_2)
  refine Go.pull (V := T1.setTop (mkF m 5 #[rv a, iv pd] [(.int pm), (.int pd)])) st1 ?_
  by_cases hc5_2 : pm < pd
  · skip
    refine Go.pull (V := T1.setTop (mkF m 8 #[rv a, iv pd] [])) (fun t k => XS.icmpNo X1.here hx rfl (hb hby dA_5) rfl (XT.ii_le_f hc5_2) k) ?_
    refine Go.pull (V := T1.setTop (mkF m 9 #[rv a, iv pd] [(.int pd)])) (fun t k => XS.iloadN X1.here hx rfl (hb hby dA_8) rfl  k) ?_
    refine Go.pull (V := T1.setTop (mkF m 10 #[rv a, iv pd] [(.long (pd.toInt64))])) (fun t k => XS.i2l X1.here hx rfl (hb hby dA_9) rfl k) ?_
    refine Go.pull (V := T1.setTop (mkF m 11 #[rv a, iv pd] [(.ref a), (.long (pd.toInt64))])) (fun t k => XS.aloadN X1.here hx rfl (hb hby dA_10) rfl rfl k) ?_
    obtain ⟨T3, X3, e3, st3⟩ := getF X1 hx hZ hown (host := "") (Or.inl (hw _ (List.mem_of_getElem? (i := 17) rfl))) Via.refl e1 Fq (g := (mkF m 11 #[rv a, iv pd] [(.ref a), (.long (pd.toInt64))])) rfl rfl (hb hby dA_11)
    refine Go.pull (V := T3.setTop (mkF m 14 #[rv a, iv pd] [(.int pp), (.long (pd.toInt64))])) st3 ?_
    refine Go.pull (V := T3.setTop (mkF m 15 #[rv a, iv pd] [(.long (pp.toInt64)), (.long (pd.toInt64))])) (fun t k => XS.i2l X3.here hx rfl (hb hby dA_14) rfl k) ?_
    refine Go.pull (V := T3.setTop (mkF m 16 #[rv a, iv pd] [(.long ((pd.toInt64) * (pp.toInt64)))])) (fun t k => XS.lmul X3.here hx rfl (hb hby dA_15) rfl k) ?_
    refine Go.pull (V := T3.setTop (mkF m 19 #[rv a, iv pd] [(.long 99), (.long ((pd.toInt64) * (pp.toInt64)))])) (fun t k => X3.ldc2Long hx hown (mvT hZ (hw _ (List.mem_of_getElem? (i := 26) rfl))) (g := (mkF m 16 #[rv a, iv pd] [(.long ((pd.toInt64) * (pp.toInt64)))])) rfl (hb hby dA_16) _ k) ?_
    refine Go.pull (V := T3.setTop (mkF m 20 #[rv a, iv pd] [(.long (((pd.toInt64) * (pp.toInt64)) + (99 : Int64)))])) (fun t k => XS.ladd X3.here hx rfl (hb hby dA_19) rfl k) ?_
    refine Go.pull (V := T3.setTop (mkF m 23 #[rv a, iv pd] [(.long 100), (.long (((pd.toInt64) * (pp.toInt64)) + (99 : Int64)))])) (fun t k => X3.ldc2Long hx hown (mvT hZ (hw _ (List.mem_of_getElem? (i := 27) rfl))) (g := (mkF m 20 #[rv a, iv pd] [(.long (((pd.toInt64) * (pp.toInt64)) + (99 : Int64)))])) rfl (hb hby dA_20) _ k) ?_
    refine Go.pull (V := T3.setTop (mkF m 24 #[rv a, iv pd] [(.long ((((pd.toInt64) * (pp.toInt64)) + (99 : Int64)) / (100 : Int64)))])) (fun t k => XS.ldiv X3.here hx rfl (hb hby dA_23) rfl (by decide) k) ?_
    refine Go.pull (V := T3.setTop (mkF m 25 #[rv a, iv pd] [(.int (((((pd.toInt64) * (pp.toInt64)) + (99 : Int64)) / (100 : Int64)).toInt32))])) (fun t k => XS.l2i X3.here hx rfl (hb hby dA_24) rfl k) ?_
    refine Go.pull (V := T3.setTop (mkF m 29 #[rv a, iv pd] [(.int (((((pd.toInt64) * (pp.toInt64)) + (99 : Int64)) / (100 : Int64)).toInt32))])) (fun t k => XS.goto X3.here hx rfl (pc0 := 25) (pc' := 29) rfl (hb hby dA_25) (by decide) (by decide) k) ?_
    exact Go.retI X3 hx Bd.notSynchronized Bd.returns (hb hby dA_29) ⟨(by rw [own_ll, if_pos hc5_2] <;> rfl), N0, e3⟩ (by decide) (by decide)
  · skip
    refine Go.pull (V := T1.setTop (mkF m 28 #[rv a, iv pd] [])) (fun t k => XS.icmpYes X1.here hx rfl (pc0 := 5) (pc' := 28) rfl (hb hby dA_5) rfl (XT.ii_le_t hc5_2) (by decide) (by decide) k) ?_
    refine Go.pull (V := T1.setTop (mkF m 29 #[rv a, iv pd] [(.int 0)])) (fun t k => XS.iconst X1.here hx rfl (hb hby dA_28) k) ?_
    exact Go.retI X1 hx Bd.notSynchronized Bd.returns (hb hby dA_29) ⟨(by rw [own_ll, if_neg hc5_2] <;> rfl), N0, e1⟩ (by decide) (by decide)
theorem ef0 (m : MethodId) (x0 : Int32) (x1 : Int32) (x2 : Int32) (x3 : Int32) (x4 : Int32) : entryFrame m #[(.int x0), (.int x1), (.int x2), (.int x3), (.int x4)] maxLocals = mkF m 0 #[iv x0, iv x1, iv x2, iv x3, iv x4, .unset, .unset, .unset, .unset, .unset, .unset, .unset, .unset, .unset, .unset, .unset] [] := by first | (simp [entryFrame, mkF, argsToLocals, Value.category, maxLocals]; done) | rfl
theorem pn_com_example_threshold_threshold_TopDocsOptionsListLengthPinLaw : plainName "com/example/threshold/threshold/TopDocsOptionsListLengthPinLaw" = true := by first | (simp [plainName, overriddenIn]; done) | decide +kernel
def Q0 (Z : State) (pa : Int32) (pb : Int32) (pd : Int32) (pe : Int32) (pf : Int32) (h0 : Heap) (n0 : Nat) (v : Option Value) (h : Heap) (L : List Loc) : Prop := v = some (.int 1) ∧ Fr n0 L
set_option maxRecDepth 65536 in
set_option maxHeartbeats 40000000 in
theorem rm0 (l : Launch) (Z : State) (a0 : Array Value) (hw : ∀ d ∈ tables_1, d.before a0 Z = true) (ws : List Jvm.Cond) (pa : Int32) (pb : Int32) (pd : Int32) (pe : Int32) (pf : Int32) (h0 : Heap) (n0 : Nat) (Z0 : n0 ≤ h0.size) :
    MetFree l x (head1 (Jvm.Cond.code x code maxLocals ret :: ws) room_1) (fun as' U => as' = #[(.int pa), (.int pb), (.int pd), (.int pe), (.int pf)] ∧ Z.Warmed39 U.vm ∧ U.heap = h0) (fun _ _ _ _ _ => True) (fun _ U o U' => ∃ v L, o = .returned v ∧ Q0 Z pa pb pd pe pf h0 n0 v U'.heap L ∧ FrameEnd U o U' L 16 128) := by
  refine MetFree.of_bodySF (plainFor_of_name pn_com_example_threshold_threshold_TopDocsOptionsListLengthPinLaw) hisR ?_
  intro p e s m args below meth c s₁ Bd hml0 hP hK
  obtain ⟨rfl, hZ, hh⟩ := hP
  have hx := Bd.exec
  have hby := Bd.bytes
  have hml : c.maxLocals = 16 := hml0
  have hown : s.vm.findClass "com/example/threshold/threshold/TopDocsOptionsListLengthPinLaw" = some m.cls := findClass_of_methodNamed Bd.named
  have hnm := (name_of_methodNamed Bd.named Bd.method).1
  have X0 : Stand p l e room_1 s m #[(.int pa), (.int pb), (.int pd), (.int pe), (.int pf)] below meth c s₁ [] 0 0 := Stand.of_body Bd
  have e0 : s₁.heap = h0 := by rw [← hh, Bd.state]; rfl
  have N0 := Fr.nil n0
  show Go p e below s (fun v h L => Q0 Z pa pb pd pe pf h0 n0 v h L) 16 128 _
  refine Go.pull (V := s₁.setTop (mkF m 0 #[iv pa, iv pb, iv pd, iv pe, iv pf, .unset, .unset, .unset, .unset, .unset, .unset, .unset, .unset, .unset, .unset, .unset] [])) (fun t k => castTop (ef0 m pa pb pd pe pf) k) ?_
  refine Go.pull (V := s₁.setTop (mkF m 1 #[iv pa, iv pb, iv pd, iv pe, iv pf, .unset, .unset, .unset, .unset, .unset, .unset, .unset, .unset, .unset, .unset, .unset] [(.int pa)])) (fun t k => XS.iloadN X0.here hx rfl (hb hby at_0) rfl  k) ?_
  refine Go.pull (V := s₁.setTop (mkF m 3 #[iv pa, iv pb, iv pd, iv pe, iv pf, .unset, .unset, .unset, .unset, .unset, .unset, .unset, .unset, .unset, .unset, .unset] [(.int 2147483647), (.int pa)])) (fun t k => X0.ldcInt hx hown (mvT hZ (hw _ (List.mem_of_getElem? (i := 0) rfl))) (g := (mkF m 1 #[iv pa, iv pb, iv pd, iv pe, iv pf, .unset, .unset, .unset, .unset, .unset, .unset, .unset, .unset, .unset, .unset, .unset] [(.int pa)])) rfl (hb hby at_1) _ k) ?_
  refine Go.pull (V := s₁.setTop (mkF m 4 #[iv pa, iv pb, iv pd, iv pe, iv pf, .unset, .unset, .unset, .unset, .unset, .unset, .unset, .unset, .unset, .unset, .unset] [(.int (pa &&& (2147483647 : Int32)))])) (fun t k => XS.iand X0.here hx rfl (hb hby at_3) rfl k) ?_
  refine Go.pull (V := s₁.setTop (mkF m 6 #[iv pa, iv pb, iv pd, iv pe, iv pf, iv (pa &&& (2147483647 : Int32)), .unset, .unset, .unset, .unset, .unset, .unset, .unset, .unset, .unset, .unset] [])) (fun t k => XS.istore X0.here hx rfl (hb hby at_4) rfl (l' := #[iv pa, iv pb, iv pd, iv pe, iv pf, iv (pa &&& (2147483647 : Int32)), .unset, .unset, .unset, .unset, .unset, .unset, .unset, .unset, .unset, .unset]) rfl k) ?_
  have J19_1 : ∀ (zm : Int32) (_ : 0 ≤ zm.toInt), Go p e below s (fun v h L => Q0 Z pa pb pd pe pf h0 n0 v h L) 16 128 (s₁.setTop (mkF m 19 #[iv pa, iv pb, iv pd, iv pe, iv pf, iv zm, .unset, .unset, .unset, .unset, .unset, .unset, .unset, .unset, .unset, .unset] [])) := by
    intro zm hzm
    refine Go.pull (V := s₁.setTop (mkF m 20 #[iv pa, iv pb, iv pd, iv pe, iv pf, iv zm, .unset, .unset, .unset, .unset, .unset, .unset, .unset, .unset, .unset, .unset] [(.int pb)])) (fun t k => XS.iloadN X0.here hx rfl (hb hby at_19) rfl  k) ?_
    refine Go.pull (V := s₁.setTop (mkF m 22 #[iv pa, iv pb, iv pd, iv pe, iv pf, iv zm, .unset, .unset, .unset, .unset, .unset, .unset, .unset, .unset, .unset, .unset] [(.int 2147483647), (.int pb)])) (fun t k => X0.ldcInt hx hown (mvT hZ (hw _ (List.mem_of_getElem? (i := 0) rfl))) (g := (mkF m 20 #[iv pa, iv pb, iv pd, iv pe, iv pf, iv zm, .unset, .unset, .unset, .unset, .unset, .unset, .unset, .unset, .unset, .unset] [(.int pb)])) rfl (hb hby at_20) _ k) ?_
    refine Go.pull (V := s₁.setTop (mkF m 23 #[iv pa, iv pb, iv pd, iv pe, iv pf, iv zm, .unset, .unset, .unset, .unset, .unset, .unset, .unset, .unset, .unset, .unset] [(.int (pb &&& (2147483647 : Int32)))])) (fun t k => XS.iand X0.here hx rfl (hb hby at_22) rfl k) ?_
    refine Go.pull (V := s₁.setTop (mkF m 25 #[iv pa, iv pb, iv pd, iv pe, iv pf, iv zm, .unset, .unset, .unset, .unset, .unset, .unset, .unset, .unset, .unset, .unset] [(.int 100), (.int (pb &&& (2147483647 : Int32)))])) (fun t k => XS.bipush X0.here hx rfl (hb hby at_23) k) ?_
    refine Go.pull (V := s₁.setTop (mkF m 26 #[iv pa, iv pb, iv pd, iv pe, iv pf, iv zm, .unset, .unset, .unset, .unset, .unset, .unset, .unset, .unset, .unset, .unset] [(.int ((pb &&& (2147483647 : Int32)) % (100 : Int32)))])) (fun t k => iremM X0 hx rfl (hb hby at_25) rfl (by decide) k) ?_
    refine Go.pull (V := s₁.setTop (mkF m 27 #[iv pa, iv pb, iv pd, iv pe, iv pf, iv zm, .unset, .unset, .unset, .unset, .unset, .unset, .unset, .unset, .unset, .unset] [(.int 1), (.int ((pb &&& (2147483647 : Int32)) % (100 : Int32)))])) (fun t k => XS.iconst X0.here hx rfl (hb hby at_26) k) ?_
    refine Go.pull (V := s₁.setTop (mkF m 28 #[iv pa, iv pb, iv pd, iv pe, iv pf, iv zm, .unset, .unset, .unset, .unset, .unset, .unset, .unset, .unset, .unset, .unset] [(.int (((pb &&& (2147483647 : Int32)) % (100 : Int32)) + (1 : Int32)))])) (fun t k => XS.iadd X0.here hx rfl (hb hby at_27) rfl k) ?_
    refine Go.pull (V := s₁.setTop (mkF m 30 #[iv pa, iv pb, iv pd, iv pe, iv pf, iv zm, iv (((pb &&& (2147483647 : Int32)) % (100 : Int32)) + (1 : Int32)), .unset, .unset, .unset, .unset, .unset, .unset, .unset, .unset, .unset] [])) (fun t k => XS.istore X0.here hx rfl (hb hby at_28) rfl (l' := #[iv pa, iv pb, iv pd, iv pe, iv pf, iv zm, iv (((pb &&& (2147483647 : Int32)) % (100 : Int32)) + (1 : Int32)), .unset, .unset, .unset, .unset, .unset, .unset, .unset, .unset, .unset]) rfl k) ?_
    have J60_2 : ∀ (zp : Int32) (zu : UInt64) (zd : Int32) (_ : 1 ≤ zp.toInt ∧ zp.toInt ≤ 100), Go p e below s (fun v h L => Q0 Z pa pb pd pe pf h0 n0 v h L) 16 128 (s₁.setTop (mkF m 60 #[iv pa, iv pb, iv pd, iv pe, iv pf, iv zm, iv zp, .val (.double zu), .second, iv zd, .unset, .unset, .unset, .unset, .unset, .unset] [])) := by
      intro zp zu zd hzp
      by_cases hp3 : zm < zd
      · skip
        obtain ⟨T4, h4, X4, e4, E4, A4, D4, -, st4⟩ := newO X0 hx hZ hown (hw _ (List.mem_of_getElem? (i := 1) rfl)) (hw _ (List.mem_of_getElem? (i := 2) rfl)) (hw _ (List.mem_of_getElem? (i := 3) rfl)) e0 (g := (mkF m 60 #[iv pa, iv pb, iv pd, iv pe, iv pf, iv zm, iv zp, .val (.double zu), .second, iv zd, .unset, .unset, .unset, .unset, .unset, .unset] [])) rfl (hb hby at_60) (by decide) (by decide)
        obtain ⟨b4, g4⟩ : ∃ z, z = h0.size := ⟨_, rfl⟩
        rw [← g4] at A4 D4 st4
        have sz_b4 : h0.size ≤ b4 := Nat.le_trans ((Keep.refl h0 [])).1 (Nat.le_of_eq g4.symm)
        have g_b4 : n0 ≤ b4 := Nat.le_trans Z0 sz_b4
        have K4 : Keep h0 h4 [] := (Keep.refl h0 []).ext E4
        have F5 : Fld Z h4 b4 "com/example/threshold/threshold/TopDocsOptions" "minDocumentFrequency" "I" (.int 0) := D4 (Or.inr (hw _ (List.mem_of_getElem? (i := 16) rfl))) (ty := .int) (by decide)
        have F6 : Fld Z h4 b4 "com/example/threshold/threshold/TopDocsOptions" "percent" "I" (.int 0) := D4 (Or.inr (hw _ (List.mem_of_getElem? (i := 18) rfl))) (ty := .int) (by decide)
        have F7 : Fld Z h4 b4 "com/example/threshold/threshold/TopDocsOptions" "mu" "D" (defaultValue .double) := D4 (Or.inr (hw _ (List.mem_of_getElem? (i := 20) rfl))) (ty := .double) (by decide)
        refine Go.pull (V := T4.setTop (mkF m 63 #[iv pa, iv pb, iv pd, iv pe, iv pf, iv zm, iv zp, .val (.double zu), .second, iv zd, .unset, .unset, .unset, .unset, .unset, .unset] [(.ref b4)])) st4 ?_
        refine Go.pull (V := T4.setTop (mkF m 64 #[iv pa, iv pb, iv pd, iv pe, iv pf, iv zm, iv zp, .val (.double zu), .second, iv zd, .unset, .unset, .unset, .unset, .unset, .unset] [(.ref b4), (.ref b4)])) (fun t k => XS.dup X4.here hx rfl (hb hby at_63) rfl rfl k) ?_
        refine Go.pull (V := T4.setTop (mkF m 66 #[iv pa, iv pb, iv pd, iv pe, iv pf, iv zm, iv zp, .val (.double zu), .second, iv zd, .unset, .unset, .unset, .unset, .unset, .unset] [(.int zm), (.ref b4), (.ref b4)])) (fun t k => XS.iload X4.here hx rfl (hb hby at_64) rfl  k) ?_
        refine Go.pull (V := T4.setTop (mkF m 68 #[iv pa, iv pb, iv pd, iv pe, iv pf, iv zm, iv zp, .val (.double zu), .second, iv zd, .unset, .unset, .unset, .unset, .unset, .unset] [(.int zp), (.int zm), (.ref b4), (.ref b4)])) (fun t k => XS.iload X4.here hx rfl (hb hby at_66) rfl  k) ?_
        refine Go.pull (V := T4.setTop (mkF m 70 #[iv pa, iv pb, iv pd, iv pe, iv pf, iv zm, iv zp, .val (.double zu), .second, iv zd, .unset, .unset, .unset, .unset, .unset, .unset] [(.double zu), (.int zp), (.int zm), (.ref b4), (.ref b4)])) (fun t k => XS.dload X4.here hx rfl (hb hby at_68) rfl  k) ?_
        obtain ⟨_, _, ⟨T8, L8, k8, n8⟩, -, X8, ⟨Lc8, hQ8, l8, y8, z8⟩, st8⟩ := X4.specialBack hx (y := (⟨"com/example/threshold/threshold/TopDocsOptions", "<init>", "(IID)V"⟩ : MethodName)) rfl hown (mvT hZ (hw _ (List.mem_of_getElem? (i := 4) rfl))) (mvT hZ (hw _ (List.mem_of_getElem? (i := 5) rfl))) (mvT hZ (hw _ (List.mem_of_getElem? (i := 6) rfl))) (by decide) (backOf (W := 1) (rmI l Z a0 hw [] b4 zm zp zu (.int 0) (.int 0) (defaultValue .double) h4 n0 (g_b4) A4 F5 F6 F7) hZ (hw _ (List.mem_of_getElem? (i := 6) rfl)) (hw _ (List.mem_of_getElem? (i := 3) rfl)) (by decide) (by decide)) (g := (mkF m 70 #[iv pa, iv pb, iv pd, iv pe, iv pf, iv zm, iv zp, .val (.double zu), .second, iv zd, .unset, .unset, .unset, .unset, .unset, .unset] [(.double zu), (.int zp), (.int zm), (.ref b4), (.ref b4)])) rfl (by rw [hml]; rfl) (Steps.refl _) (a := b4) (argsL := [(.int zm), (.int zp), (.double zu)]) (rest := [(.ref b4)]) (lenOf pd_1 rfl) rfl (by show 2 * 0 + _ ≤ _; exact Nat.le_of_eq rfl) (hb hby at_70) (fun _ _ => ⟨rfl, e4, (by decide : 1 + 0 ≤ _), (by decide : 3 + 0 ≤ _)⟩)
        dsimp only [Pt.U, Pt.locs, Pt.cells, Pt.slots] at X8 l8 y8 z8 st8 hQ8
        subst l8 y8 z8
        obtain ⟨rfl, N8q, Kc8, Fc8_0, Fc8_1⟩ := hQ8
        have K8 : Keep h0 T8.heap [] := K4.trans Kc8 ((allS (Or.inr sz_b4) all0))
        have N8 := Fr.app N0 N8q
        refine Go.pull (V := T8.setTop (mkF m 73 #[iv pa, iv pb, iv pd, iv pe, iv pf, iv zm, iv zp, .val (.double zu), .second, iv zd, .unset, .unset, .unset, .unset, .unset, .unset] [(.ref b4)])) (fun _ k => st8.trans k) ?_
        refine Go.pull (V := T8.setTop (mkF m 75 #[iv pa, iv pb, iv pd, iv pe, iv pf, iv zm, iv zp, .val (.double zu), .second, iv zd, rv b4, .unset, .unset, .unset, .unset, .unset] [])) (fun t k => XS.astore X8.here hx rfl (hb hby at_73) rfl rfl (l' := #[iv pa, iv pb, iv pd, iv pe, iv pf, iv zm, iv zp, .val (.double zu), .second, iv zd, rv b4, .unset, .unset, .unset, .unset, .unset]) rfl k) ?_
        refine Go.pull (V := T8.setTop (mkF m 77 #[iv pa, iv pb, iv pd, iv pe, iv pf, iv zm, iv zp, .val (.double zu), .second, iv zd, rv b4, .unset, .unset, .unset, .unset, .unset] [(.ref b4)])) (fun t k => XS.aload X8.here hx rfl (hb hby at_75) rfl rfl k) ?_
        refine Go.pull (V := T8.setTop (mkF m 79 #[iv pa, iv pb, iv pd, iv pe, iv pf, iv zm, iv zp, .val (.double zu), .second, iv zd, rv b4, .unset, .unset, .unset, .unset, .unset] [(.int zd), (.ref b4)])) (fun t k => XS.iload X8.here hx rfl (hb hby at_77) rfl  k) ?_
        obtain ⟨cq9, kq9, q9a, q9b, q9c⟩ := isOf hZ rfl (A4.keep Kc8)
        obtain ⟨_, _, ⟨T9, L9, k9, n9⟩, -, X9, ⟨Lc9, hQ9, l9, y9, z9⟩, st9⟩ := X8.virtualBack hx (y := (⟨"com/example/threshold/threshold/TopDocsOptions", "listLength", "(I)I"⟩ : MethodName)) (z := (⟨"com/example/threshold/threshold/TopDocsOptions", "listLength", "(I)I"⟩ : MethodName)) hown (mvT hZ (hw _ (List.mem_of_getElem? (i := 21) rfl))) (mvT hZ (hw _ (List.mem_of_getElem? (i := 22) rfl))) (notFace_of_selects (args := #[]) (mvT hZ (hw _ (List.mem_of_getElem? (i := 24) rfl)))) (mvT hZ (hw _ (List.mem_of_getElem? (i := 24) rfl))) (mvT hZ (hw _ (List.mem_of_getElem? (i := 23) rfl))) (by decide) (backOf (W := 0) (rmA l Z a0 hw [] b4 zd zm zp T8.heap n0 Fc8_0 Fc8_1) hZ (hw _ (List.mem_of_getElem? (i := 25) rfl)) (hw _ (List.mem_of_getElem? (i := 3) rfl)) (by decide) (by decide)) q9a q9c (g := (mkF m 79 #[iv pa, iv pb, iv pd, iv pe, iv pf, iv zm, iv zp, .val (.double zu), .second, iv zd, rv b4, .unset, .unset, .unset, .unset, .unset] [(.int zd), (.ref b4)])) rfl (by rw [hml]; rfl) (Steps.refl _) (argsL := [(.int zd)]) (rest := []) (lenOf pd_2 rfl) rfl (by show 2 * 0 + _ ≤ _; exact Nat.le_of_eq rfl) (hb hby at_79) (fun _ _ => ⟨rfl, rfl, (by decide : 1 + 0 ≤ _), (by decide : 3 + 0 ≤ _)⟩)
        dsimp only [Pt.U, Pt.locs, Pt.cells, Pt.slots] at X9 l9 y9 z9 st9 hQ9
        subst l9 y9 z9
        obtain ⟨rfl, N9q, e9⟩ := hQ9
        have N9 := Fr.app N8 N9q
        refine Go.pull (V := T9.setTop (mkF m 82 #[iv pa, iv pb, iv pd, iv pe, iv pf, iv zm, iv zp, .val (.double zu), .second, iv zd, rv b4, .unset, .unset, .unset, .unset, .unset] [(.int (own_ll zm zp zd))])) (fun _ k => st9.trans k) ?_
        refine Go.pull (V := T9.setTop (mkF m 84 #[iv pa, iv pb, iv pd, iv pe, iv pf, iv zm, iv zp, .val (.double zu), .second, iv zd, rv b4, iv (own_ll zm zp zd), .unset, .unset, .unset, .unset] [])) (fun t k => XS.istore X9.here hx rfl (hb hby at_82) rfl (l' := #[iv pa, iv pb, iv pd, iv pe, iv pf, iv zm, iv zp, .val (.double zu), .second, iv zd, rv b4, iv (own_ll zm zp zd), .unset, .unset, .unset, .unset]) rfl k) ?_
        refine Go.pull (V := T9.setTop (mkF m 86 #[iv pa, iv pb, iv pd, iv pe, iv pf, iv zm, iv zp, .val (.double zu), .second, iv zd, rv b4, iv (own_ll zm zp zd), .unset, .unset, .unset, .unset] [(.int zd)])) (fun t k => XS.iload X9.here hx rfl (hb hby at_84) rfl  k) ?_
        refine Go.pull (V := T9.setTop (mkF m 88 #[iv pa, iv pb, iv pd, iv pe, iv pf, iv zm, iv zp, .val (.double zu), .second, iv zd, rv b4, iv (own_ll zm zp zd), .unset, .unset, .unset, .unset] [(.int zm), (.int zd)])) (fun t k => XS.iload X9.here hx rfl (hb hby at_86) rfl  k) ?_
        refine Go.pull (V := T9.setTop (mkF m 102 #[iv pa, iv pb, iv pd, iv pe, iv pf, iv zm, iv zp, .val (.double zu), .second, iv zd, rv b4, iv (own_ll zm zp zd), .unset, .unset, .unset, .unset] [])) (fun t k => XS.icmpYes X9.here hx rfl (pc0 := 88) (pc' := 102) rfl (hb hby at_88) rfl (XT.ii_gt_t hp3) (by decide) (by decide) k) ?_
        refine Go.pull (V := T9.setTop (mkF m 104 #[iv pa, iv pb, iv pd, iv pe, iv pf, iv zm, iv zp, .val (.double zu), .second, iv zd, rv b4, iv (own_ll zm zp zd), .unset, .unset, .unset, .unset] [(.int zd)])) (fun t k => XS.iload X9.here hx rfl (hb hby at_102) rfl  k) ?_
        refine Go.pull (V := T9.setTop (mkF m 105 #[iv pa, iv pb, iv pd, iv pe, iv pf, iv zm, iv zp, .val (.double zu), .second, iv zd, rv b4, iv (own_ll zm zp zd), .unset, .unset, .unset, .unset] [(.long (zd.toInt64))])) (fun t k => XS.i2l X9.here hx rfl (hb hby at_104) rfl k) ?_
        refine Go.pull (V := T9.setTop (mkF m 107 #[iv pa, iv pb, iv pd, iv pe, iv pf, iv zm, iv zp, .val (.double zu), .second, iv zd, rv b4, iv (own_ll zm zp zd), .unset, .unset, .unset, .unset] [(.int zp), (.long (zd.toInt64))])) (fun t k => XS.iload X9.here hx rfl (hb hby at_105) rfl  k) ?_
        refine Go.pull (V := T9.setTop (mkF m 108 #[iv pa, iv pb, iv pd, iv pe, iv pf, iv zm, iv zp, .val (.double zu), .second, iv zd, rv b4, iv (own_ll zm zp zd), .unset, .unset, .unset, .unset] [(.long (zp.toInt64)), (.long (zd.toInt64))])) (fun t k => XS.i2l X9.here hx rfl (hb hby at_107) rfl k) ?_
        refine Go.pull (V := T9.setTop (mkF m 109 #[iv pa, iv pb, iv pd, iv pe, iv pf, iv zm, iv zp, .val (.double zu), .second, iv zd, rv b4, iv (own_ll zm zp zd), .unset, .unset, .unset, .unset] [(.long ((zd.toInt64) * (zp.toInt64)))])) (fun t k => XS.lmul X9.here hx rfl (hb hby at_108) rfl k) ?_
        refine Go.pull (V := T9.setTop (mkF m 111 #[iv pa, iv pb, iv pd, iv pe, iv pf, iv zm, iv zp, .val (.double zu), .second, iv zd, rv b4, iv (own_ll zm zp zd), .val (.long ((zd.toInt64) * (zp.toInt64))), .second, .unset, .unset] [])) (fun t k => XS.lstore X9.here hx rfl (hb hby at_109) rfl (l' := #[iv pa, iv pb, iv pd, iv pe, iv pf, iv zm, iv zp, .val (.double zu), .second, iv zd, rv b4, iv (own_ll zm zp zd), .val (.long ((zd.toInt64) * (zp.toInt64))), .second, .unset, .unset]) rfl k) ?_
        refine Go.pull (V := T9.setTop (mkF m 113 #[iv pa, iv pb, iv pd, iv pe, iv pf, iv zm, iv zp, .val (.double zu), .second, iv zd, rv b4, iv (own_ll zm zp zd), .val (.long ((zd.toInt64) * (zp.toInt64))), .second, .unset, .unset] [(.int (own_ll zm zp zd))])) (fun t k => XS.iload X9.here hx rfl (hb hby at_111) rfl  k) ?_
        refine Go.pull (V := T9.setTop (mkF m 114 #[iv pa, iv pb, iv pd, iv pe, iv pf, iv zm, iv zp, .val (.double zu), .second, iv zd, rv b4, iv (own_ll zm zp zd), .val (.long ((zd.toInt64) * (zp.toInt64))), .second, .unset, .unset] [(.long ((own_ll zm zp zd).toInt64))])) (fun t k => XS.i2l X9.here hx rfl (hb hby at_113) rfl k) ?_
        refine Go.pull (V := T9.setTop (mkF m 116 #[iv pa, iv pb, iv pd, iv pe, iv pf, iv zm, iv zp, .val (.double zu), .second, iv zd, rv b4, iv (own_ll zm zp zd), .val (.long ((zd.toInt64) * (zp.toInt64))), .second, .val (.long ((own_ll zm zp zd).toInt64)), .second] [])) (fun t k => XS.lstore X9.here hx rfl (hb hby at_114) rfl (l' := #[iv pa, iv pb, iv pd, iv pe, iv pf, iv zm, iv zp, .val (.double zu), .second, iv zd, rv b4, iv (own_ll zm zp zd), .val (.long ((zd.toInt64) * (zp.toInt64))), .second, .val (.long ((own_ll zm zp zd).toInt64)), .second]) rfl k) ?_
        refine Go.pull (V := T9.setTop (mkF m 118 #[iv pa, iv pb, iv pd, iv pe, iv pf, iv zm, iv zp, .val (.double zu), .second, iv zd, rv b4, iv (own_ll zm zp zd), .val (.long ((zd.toInt64) * (zp.toInt64))), .second, .val (.long ((own_ll zm zp zd).toInt64)), .second] [(.long ((own_ll zm zp zd).toInt64))])) (fun t k => XS.lload X9.here hx rfl (hb hby at_116) rfl  k) ?_
        refine Go.pull (V := T9.setTop (mkF m 121 #[iv pa, iv pb, iv pd, iv pe, iv pf, iv zm, iv zp, .val (.double zu), .second, iv zd, rv b4, iv (own_ll zm zp zd), .val (.long ((zd.toInt64) * (zp.toInt64))), .second, .val (.long ((own_ll zm zp zd).toInt64)), .second] [(.long 100), (.long ((own_ll zm zp zd).toInt64))])) (fun t k => X9.ldc2Long hx hown (mvT hZ (hw _ (List.mem_of_getElem? (i := 28) rfl))) (g := (mkF m 118 #[iv pa, iv pb, iv pd, iv pe, iv pf, iv zm, iv zp, .val (.double zu), .second, iv zd, rv b4, iv (own_ll zm zp zd), .val (.long ((zd.toInt64) * (zp.toInt64))), .second, .val (.long ((own_ll zm zp zd).toInt64)), .second] [(.long ((own_ll zm zp zd).toInt64))])) rfl (hb hby at_118) _ k) ?_
        refine Go.pull (V := T9.setTop (mkF m 122 #[iv pa, iv pb, iv pd, iv pe, iv pf, iv zm, iv zp, .val (.double zu), .second, iv zd, rv b4, iv (own_ll zm zp zd), .val (.long ((zd.toInt64) * (zp.toInt64))), .second, .val (.long ((own_ll zm zp zd).toInt64)), .second] [(.long (((own_ll zm zp zd).toInt64) * (100 : Int64)))])) (fun t k => XS.lmul X9.here hx rfl (hb hby at_121) rfl k) ?_
        refine Go.pull (V := T9.setTop (mkF m 124 #[iv pa, iv pb, iv pd, iv pe, iv pf, iv zm, iv zp, .val (.double zu), .second, iv zd, rv b4, iv (own_ll zm zp zd), .val (.long ((zd.toInt64) * (zp.toInt64))), .second, .val (.long ((own_ll zm zp zd).toInt64)), .second] [(.long ((zd.toInt64) * (zp.toInt64))), (.long (((own_ll zm zp zd).toInt64) * (100 : Int64)))])) (fun t k => XS.lload X9.here hx rfl (hb hby at_122) rfl  k) ?_
        refine Go.pull (V := T9.setTop (mkF m 125 #[iv pa, iv pb, iv pd, iv pe, iv pf, iv zm, iv zp, .val (.double zu), .second, iv zd, rv b4, iv (own_ll zm zp zd), .val (.long ((zd.toInt64) * (zp.toInt64))), .second, .val (.long ((own_ll zm zp zd).toInt64)), .second] [(.int (XT.cmpL (((own_ll zm zp zd).toInt64) * (100 : Int64)) ((zd.toInt64) * (zp.toInt64))))])) (fun t k => XT.lcmp X9.here hx rfl (hb hby at_124) rfl k) ?_
        refine Go.pull (V := T9.setTop (mkF m 128 #[iv pa, iv pb, iv pd, iv pe, iv pf, iv zm, iv zp, .val (.double zu), .second, iv zd, rv b4, iv (own_ll zm zp zd), .val (.long ((zd.toInt64) * (zp.toInt64))), .second, .val (.long ((own_ll zm zp zd).toInt64)), .second] [])) (fun t k => XS.ifNo X9.here hx rfl (hb hby at_125) rfl (XT.ll_lt_f (own_c1 hzm hzp hp3)) k) ?_
        refine Go.pull (V := T9.setTop (mkF m 130 #[iv pa, iv pb, iv pd, iv pe, iv pf, iv zm, iv zp, .val (.double zu), .second, iv zd, rv b4, iv (own_ll zm zp zd), .val (.long ((zd.toInt64) * (zp.toInt64))), .second, .val (.long ((own_ll zm zp zd).toInt64)), .second] [(.long ((own_ll zm zp zd).toInt64))])) (fun t k => XS.lload X9.here hx rfl (hb hby at_128) rfl  k) ?_
        refine Go.pull (V := T9.setTop (mkF m 131 #[iv pa, iv pb, iv pd, iv pe, iv pf, iv zm, iv zp, .val (.double zu), .second, iv zd, rv b4, iv (own_ll zm zp zd), .val (.long ((zd.toInt64) * (zp.toInt64))), .second, .val (.long ((own_ll zm zp zd).toInt64)), .second] [(.long 1), (.long ((own_ll zm zp zd).toInt64))])) (fun t k => XS.lconst X9.here hx rfl (hb hby at_130) k) ?_
        refine Go.pull (V := T9.setTop (mkF m 132 #[iv pa, iv pb, iv pd, iv pe, iv pf, iv zm, iv zp, .val (.double zu), .second, iv zd, rv b4, iv (own_ll zm zp zd), .val (.long ((zd.toInt64) * (zp.toInt64))), .second, .val (.long ((own_ll zm zp zd).toInt64)), .second] [(.long (((own_ll zm zp zd).toInt64) - (1 : Int64)))])) (fun t k => XS.lsub X9.here hx rfl (hb hby at_131) rfl k) ?_
        refine Go.pull (V := T9.setTop (mkF m 135 #[iv pa, iv pb, iv pd, iv pe, iv pf, iv zm, iv zp, .val (.double zu), .second, iv zd, rv b4, iv (own_ll zm zp zd), .val (.long ((zd.toInt64) * (zp.toInt64))), .second, .val (.long ((own_ll zm zp zd).toInt64)), .second] [(.long 100), (.long (((own_ll zm zp zd).toInt64) - (1 : Int64)))])) (fun t k => X9.ldc2Long hx hown (mvT hZ (hw _ (List.mem_of_getElem? (i := 28) rfl))) (g := (mkF m 132 #[iv pa, iv pb, iv pd, iv pe, iv pf, iv zm, iv zp, .val (.double zu), .second, iv zd, rv b4, iv (own_ll zm zp zd), .val (.long ((zd.toInt64) * (zp.toInt64))), .second, .val (.long ((own_ll zm zp zd).toInt64)), .second] [(.long (((own_ll zm zp zd).toInt64) - (1 : Int64)))])) rfl (hb hby at_132) _ k) ?_
        refine Go.pull (V := T9.setTop (mkF m 136 #[iv pa, iv pb, iv pd, iv pe, iv pf, iv zm, iv zp, .val (.double zu), .second, iv zd, rv b4, iv (own_ll zm zp zd), .val (.long ((zd.toInt64) * (zp.toInt64))), .second, .val (.long ((own_ll zm zp zd).toInt64)), .second] [(.long ((((own_ll zm zp zd).toInt64) - (1 : Int64)) * (100 : Int64)))])) (fun t k => XS.lmul X9.here hx rfl (hb hby at_135) rfl k) ?_
        refine Go.pull (V := T9.setTop (mkF m 138 #[iv pa, iv pb, iv pd, iv pe, iv pf, iv zm, iv zp, .val (.double zu), .second, iv zd, rv b4, iv (own_ll zm zp zd), .val (.long ((zd.toInt64) * (zp.toInt64))), .second, .val (.long ((own_ll zm zp zd).toInt64)), .second] [(.long ((zd.toInt64) * (zp.toInt64))), (.long ((((own_ll zm zp zd).toInt64) - (1 : Int64)) * (100 : Int64)))])) (fun t k => XS.lload X9.here hx rfl (hb hby at_136) rfl  k) ?_
        refine Go.pull (V := T9.setTop (mkF m 139 #[iv pa, iv pb, iv pd, iv pe, iv pf, iv zm, iv zp, .val (.double zu), .second, iv zd, rv b4, iv (own_ll zm zp zd), .val (.long ((zd.toInt64) * (zp.toInt64))), .second, .val (.long ((own_ll zm zp zd).toInt64)), .second] [(.int (XT.cmpL ((((own_ll zm zp zd).toInt64) - (1 : Int64)) * (100 : Int64)) ((zd.toInt64) * (zp.toInt64))))])) (fun t k => XT.lcmp X9.here hx rfl (hb hby at_138) rfl k) ?_
        refine Go.pull (V := T9.setTop (mkF m 142 #[iv pa, iv pb, iv pd, iv pe, iv pf, iv zm, iv zp, .val (.double zu), .second, iv zd, rv b4, iv (own_ll zm zp zd), .val (.long ((zd.toInt64) * (zp.toInt64))), .second, .val (.long ((own_ll zm zp zd).toInt64)), .second] [])) (fun t k => XS.ifNo X9.here hx rfl (hb hby at_139) rfl (XT.ll_ge_f (own_c2 hzm hzp hp3)) k) ?_
        refine Go.pull (V := T9.setTop (mkF m 143 #[iv pa, iv pb, iv pd, iv pe, iv pf, iv zm, iv zp, .val (.double zu), .second, iv zd, rv b4, iv (own_ll zm zp zd), .val (.long ((zd.toInt64) * (zp.toInt64))), .second, .val (.long ((own_ll zm zp zd).toInt64)), .second] [(.int 1)])) (fun t k => XS.iconst X9.here hx rfl (hb hby at_142) k) ?_
        refine Go.pull (V := T9.setTop (mkF m 147 #[iv pa, iv pb, iv pd, iv pe, iv pf, iv zm, iv zp, .val (.double zu), .second, iv zd, rv b4, iv (own_ll zm zp zd), .val (.long ((zd.toInt64) * (zp.toInt64))), .second, .val (.long ((own_ll zm zp zd).toInt64)), .second] [(.int 1)])) (fun t k => XS.goto X9.here hx rfl (pc0 := 143) (pc' := 147) rfl (hb hby at_143) (by decide) (by decide) k) ?_
        exact Go.retN X9 hx Bd.notSynchronized (t := .boolean) Bd.returns (by simp) (hb hby at_147) ⟨rfl, N9⟩ (by decide) (by decide)
      · skip
        obtain ⟨T10, h10, X10, e10, E10, A10, D10, -, st10⟩ := newO X0 hx hZ hown (hw _ (List.mem_of_getElem? (i := 1) rfl)) (hw _ (List.mem_of_getElem? (i := 2) rfl)) (hw _ (List.mem_of_getElem? (i := 3) rfl)) e0 (g := (mkF m 60 #[iv pa, iv pb, iv pd, iv pe, iv pf, iv zm, iv zp, .val (.double zu), .second, iv zd, .unset, .unset, .unset, .unset, .unset, .unset] [])) rfl (hb hby at_60) (by decide) (by decide)
        obtain ⟨b10, g10⟩ : ∃ z, z = h0.size := ⟨_, rfl⟩
        rw [← g10] at A10 D10 st10
        have sz_b10 : h0.size ≤ b10 := Nat.le_trans ((Keep.refl h0 [])).1 (Nat.le_of_eq g10.symm)
        have g_b10 : n0 ≤ b10 := Nat.le_trans Z0 sz_b10
        have K10 : Keep h0 h10 [] := (Keep.refl h0 []).ext E10
        have F11 : Fld Z h10 b10 "com/example/threshold/threshold/TopDocsOptions" "minDocumentFrequency" "I" (.int 0) := D10 (Or.inr (hw _ (List.mem_of_getElem? (i := 16) rfl))) (ty := .int) (by decide)
        have F12 : Fld Z h10 b10 "com/example/threshold/threshold/TopDocsOptions" "percent" "I" (.int 0) := D10 (Or.inr (hw _ (List.mem_of_getElem? (i := 18) rfl))) (ty := .int) (by decide)
        have F13 : Fld Z h10 b10 "com/example/threshold/threshold/TopDocsOptions" "mu" "D" (defaultValue .double) := D10 (Or.inr (hw _ (List.mem_of_getElem? (i := 20) rfl))) (ty := .double) (by decide)
        refine Go.pull (V := T10.setTop (mkF m 63 #[iv pa, iv pb, iv pd, iv pe, iv pf, iv zm, iv zp, .val (.double zu), .second, iv zd, .unset, .unset, .unset, .unset, .unset, .unset] [(.ref b10)])) st10 ?_
        refine Go.pull (V := T10.setTop (mkF m 64 #[iv pa, iv pb, iv pd, iv pe, iv pf, iv zm, iv zp, .val (.double zu), .second, iv zd, .unset, .unset, .unset, .unset, .unset, .unset] [(.ref b10), (.ref b10)])) (fun t k => XS.dup X10.here hx rfl (hb hby at_63) rfl rfl k) ?_
        refine Go.pull (V := T10.setTop (mkF m 66 #[iv pa, iv pb, iv pd, iv pe, iv pf, iv zm, iv zp, .val (.double zu), .second, iv zd, .unset, .unset, .unset, .unset, .unset, .unset] [(.int zm), (.ref b10), (.ref b10)])) (fun t k => XS.iload X10.here hx rfl (hb hby at_64) rfl  k) ?_
        refine Go.pull (V := T10.setTop (mkF m 68 #[iv pa, iv pb, iv pd, iv pe, iv pf, iv zm, iv zp, .val (.double zu), .second, iv zd, .unset, .unset, .unset, .unset, .unset, .unset] [(.int zp), (.int zm), (.ref b10), (.ref b10)])) (fun t k => XS.iload X10.here hx rfl (hb hby at_66) rfl  k) ?_
        refine Go.pull (V := T10.setTop (mkF m 70 #[iv pa, iv pb, iv pd, iv pe, iv pf, iv zm, iv zp, .val (.double zu), .second, iv zd, .unset, .unset, .unset, .unset, .unset, .unset] [(.double zu), (.int zp), (.int zm), (.ref b10), (.ref b10)])) (fun t k => XS.dload X10.here hx rfl (hb hby at_68) rfl  k) ?_
        obtain ⟨_, _, ⟨T14, L14, k14, n14⟩, -, X14, ⟨Lc14, hQ14, l14, y14, z14⟩, st14⟩ := X10.specialBack hx (y := (⟨"com/example/threshold/threshold/TopDocsOptions", "<init>", "(IID)V"⟩ : MethodName)) rfl hown (mvT hZ (hw _ (List.mem_of_getElem? (i := 4) rfl))) (mvT hZ (hw _ (List.mem_of_getElem? (i := 5) rfl))) (mvT hZ (hw _ (List.mem_of_getElem? (i := 6) rfl))) (by decide) (backOf (W := 1) (rmI l Z a0 hw [] b10 zm zp zu (.int 0) (.int 0) (defaultValue .double) h10 n0 (g_b10) A10 F11 F12 F13) hZ (hw _ (List.mem_of_getElem? (i := 6) rfl)) (hw _ (List.mem_of_getElem? (i := 3) rfl)) (by decide) (by decide)) (g := (mkF m 70 #[iv pa, iv pb, iv pd, iv pe, iv pf, iv zm, iv zp, .val (.double zu), .second, iv zd, .unset, .unset, .unset, .unset, .unset, .unset] [(.double zu), (.int zp), (.int zm), (.ref b10), (.ref b10)])) rfl (by rw [hml]; rfl) (Steps.refl _) (a := b10) (argsL := [(.int zm), (.int zp), (.double zu)]) (rest := [(.ref b10)]) (lenOf pd_1 rfl) rfl (by show 2 * 0 + _ ≤ _; exact Nat.le_of_eq rfl) (hb hby at_70) (fun _ _ => ⟨rfl, e10, (by decide : 1 + 0 ≤ _), (by decide : 3 + 0 ≤ _)⟩)
        dsimp only [Pt.U, Pt.locs, Pt.cells, Pt.slots] at X14 l14 y14 z14 st14 hQ14
        subst l14 y14 z14
        obtain ⟨rfl, N14q, Kc14, Fc14_0, Fc14_1⟩ := hQ14
        have K14 : Keep h0 T14.heap [] := K10.trans Kc14 ((allS (Or.inr sz_b10) all0))
        have N14 := Fr.app N0 N14q
        refine Go.pull (V := T14.setTop (mkF m 73 #[iv pa, iv pb, iv pd, iv pe, iv pf, iv zm, iv zp, .val (.double zu), .second, iv zd, .unset, .unset, .unset, .unset, .unset, .unset] [(.ref b10)])) (fun _ k => st14.trans k) ?_
        refine Go.pull (V := T14.setTop (mkF m 75 #[iv pa, iv pb, iv pd, iv pe, iv pf, iv zm, iv zp, .val (.double zu), .second, iv zd, rv b10, .unset, .unset, .unset, .unset, .unset] [])) (fun t k => XS.astore X14.here hx rfl (hb hby at_73) rfl rfl (l' := #[iv pa, iv pb, iv pd, iv pe, iv pf, iv zm, iv zp, .val (.double zu), .second, iv zd, rv b10, .unset, .unset, .unset, .unset, .unset]) rfl k) ?_
        refine Go.pull (V := T14.setTop (mkF m 77 #[iv pa, iv pb, iv pd, iv pe, iv pf, iv zm, iv zp, .val (.double zu), .second, iv zd, rv b10, .unset, .unset, .unset, .unset, .unset] [(.ref b10)])) (fun t k => XS.aload X14.here hx rfl (hb hby at_75) rfl rfl k) ?_
        refine Go.pull (V := T14.setTop (mkF m 79 #[iv pa, iv pb, iv pd, iv pe, iv pf, iv zm, iv zp, .val (.double zu), .second, iv zd, rv b10, .unset, .unset, .unset, .unset, .unset] [(.int zd), (.ref b10)])) (fun t k => XS.iload X14.here hx rfl (hb hby at_77) rfl  k) ?_
        obtain ⟨cq15, kq15, q15a, q15b, q15c⟩ := isOf hZ rfl (A10.keep Kc14)
        obtain ⟨_, _, ⟨T15, L15, k15, n15⟩, -, X15, ⟨Lc15, hQ15, l15, y15, z15⟩, st15⟩ := X14.virtualBack hx (y := (⟨"com/example/threshold/threshold/TopDocsOptions", "listLength", "(I)I"⟩ : MethodName)) (z := (⟨"com/example/threshold/threshold/TopDocsOptions", "listLength", "(I)I"⟩ : MethodName)) hown (mvT hZ (hw _ (List.mem_of_getElem? (i := 21) rfl))) (mvT hZ (hw _ (List.mem_of_getElem? (i := 22) rfl))) (notFace_of_selects (args := #[]) (mvT hZ (hw _ (List.mem_of_getElem? (i := 24) rfl)))) (mvT hZ (hw _ (List.mem_of_getElem? (i := 24) rfl))) (mvT hZ (hw _ (List.mem_of_getElem? (i := 23) rfl))) (by decide) (backOf (W := 0) (rmA l Z a0 hw [] b10 zd zm zp T14.heap n0 Fc14_0 Fc14_1) hZ (hw _ (List.mem_of_getElem? (i := 25) rfl)) (hw _ (List.mem_of_getElem? (i := 3) rfl)) (by decide) (by decide)) q15a q15c (g := (mkF m 79 #[iv pa, iv pb, iv pd, iv pe, iv pf, iv zm, iv zp, .val (.double zu), .second, iv zd, rv b10, .unset, .unset, .unset, .unset, .unset] [(.int zd), (.ref b10)])) rfl (by rw [hml]; rfl) (Steps.refl _) (argsL := [(.int zd)]) (rest := []) (lenOf pd_2 rfl) rfl (by show 2 * 0 + _ ≤ _; exact Nat.le_of_eq rfl) (hb hby at_79) (fun _ _ => ⟨rfl, rfl, (by decide : 1 + 0 ≤ _), (by decide : 3 + 0 ≤ _)⟩)
        dsimp only [Pt.U, Pt.locs, Pt.cells, Pt.slots] at X15 l15 y15 z15 st15 hQ15
        subst l15 y15 z15
        obtain ⟨rfl, N15q, e15⟩ := hQ15
        have N15 := Fr.app N14 N15q
        refine Go.pull (V := T15.setTop (mkF m 82 #[iv pa, iv pb, iv pd, iv pe, iv pf, iv zm, iv zp, .val (.double zu), .second, iv zd, rv b10, .unset, .unset, .unset, .unset, .unset] [(.int (own_ll zm zp zd))])) (fun _ k => st15.trans k) ?_
        refine Go.pull (V := T15.setTop (mkF m 84 #[iv pa, iv pb, iv pd, iv pe, iv pf, iv zm, iv zp, .val (.double zu), .second, iv zd, rv b10, iv (own_ll zm zp zd), .unset, .unset, .unset, .unset] [])) (fun t k => XS.istore X15.here hx rfl (hb hby at_82) rfl (l' := #[iv pa, iv pb, iv pd, iv pe, iv pf, iv zm, iv zp, .val (.double zu), .second, iv zd, rv b10, iv (own_ll zm zp zd), .unset, .unset, .unset, .unset]) rfl k) ?_
        refine Go.pull (V := T15.setTop (mkF m 86 #[iv pa, iv pb, iv pd, iv pe, iv pf, iv zm, iv zp, .val (.double zu), .second, iv zd, rv b10, iv (own_ll zm zp zd), .unset, .unset, .unset, .unset] [(.int zd)])) (fun t k => XS.iload X15.here hx rfl (hb hby at_84) rfl  k) ?_
        refine Go.pull (V := T15.setTop (mkF m 88 #[iv pa, iv pb, iv pd, iv pe, iv pf, iv zm, iv zp, .val (.double zu), .second, iv zd, rv b10, iv (own_ll zm zp zd), .unset, .unset, .unset, .unset] [(.int zm), (.int zd)])) (fun t k => XS.iload X15.here hx rfl (hb hby at_86) rfl  k) ?_
        refine Go.pull (V := T15.setTop (mkF m 91 #[iv pa, iv pb, iv pd, iv pe, iv pf, iv zm, iv zp, .val (.double zu), .second, iv zd, rv b10, iv (own_ll zm zp zd), .unset, .unset, .unset, .unset] [])) (fun t k => XS.icmpNo X15.here hx rfl (hb hby at_88) rfl (XT.ii_gt_f hp3) k) ?_
        refine Go.pull (V := T15.setTop (mkF m 93 #[iv pa, iv pb, iv pd, iv pe, iv pf, iv zm, iv zp, .val (.double zu), .second, iv zd, rv b10, iv (own_ll zm zp zd), .unset, .unset, .unset, .unset] [(.int (own_ll zm zp zd))])) (fun t k => XS.iload X15.here hx rfl (hb hby at_91) rfl  k) ?_
        refine Go.pull (V := T15.setTop (mkF m 96 #[iv pa, iv pb, iv pd, iv pe, iv pf, iv zm, iv zp, .val (.double zu), .second, iv zd, rv b10, iv (own_ll zm zp zd), .unset, .unset, .unset, .unset] [])) (fun t k => XS.ifNo X15.here hx rfl (hb hby at_93) rfl (XT.i0_ne_f (if_neg hp3)) k) ?_
        refine Go.pull (V := T15.setTop (mkF m 97 #[iv pa, iv pb, iv pd, iv pe, iv pf, iv zm, iv zp, .val (.double zu), .second, iv zd, rv b10, iv (own_ll zm zp zd), .unset, .unset, .unset, .unset] [(.int 1)])) (fun t k => XS.iconst X15.here hx rfl (hb hby at_96) k) ?_
        refine Go.pull (V := T15.setTop (mkF m 101 #[iv pa, iv pb, iv pd, iv pe, iv pf, iv zm, iv zp, .val (.double zu), .second, iv zd, rv b10, iv (own_ll zm zp zd), .unset, .unset, .unset, .unset] [(.int 1)])) (fun t k => XS.goto X15.here hx rfl (pc0 := 97) (pc' := 101) rfl (hb hby at_97) (by decide) (by decide) k) ?_
        exact Go.retN X15 hx Bd.notSynchronized (t := .boolean) Bd.returns (by simp) (hb hby at_101) ⟨rfl, N15⟩ (by decide) (by decide)
    refine Go.pull (V := s₁.setTop (mkF m 32 #[iv pa, iv pb, iv pd, iv pe, iv pf, iv zm, iv (((pb &&& (2147483647 : Int32)) % (100 : Int32)) + (1 : Int32)), .unset, .unset, .unset, .unset, .unset, .unset, .unset, .unset, .unset] [(.int pf)])) (fun t k => XS.iload X0.here hx rfl (hb hby at_30) rfl  k) ?_
    refine Go.pull (V := s₁.setTop (mkF m 35 #[iv pa, iv pb, iv pd, iv pe, iv pf, iv zm, iv (((pb &&& (2147483647 : Int32)) % (100 : Int32)) + (1 : Int32)), .unset, .unset, .unset, .unset, .unset, .unset, .unset, .unset, .unset] [(.int 1023), (.int pf)])) (fun t k => XS.sipush X0.here hx rfl (hb hby at_32) k) ?_
    refine Go.pull (V := s₁.setTop (mkF m 36 #[iv pa, iv pb, iv pd, iv pe, iv pf, iv zm, iv (((pb &&& (2147483647 : Int32)) % (100 : Int32)) + (1 : Int32)), .unset, .unset, .unset, .unset, .unset, .unset, .unset, .unset, .unset] [(.int (pf &&& (1023 : Int32)))])) (fun t k => XS.iand X0.here hx rfl (hb hby at_35) rfl k) ?_
    refine Go.pull (V := s₁.setTop (mkF m 37 #[iv pa, iv pb, iv pd, iv pe, iv pf, iv zm, iv (((pb &&& (2147483647 : Int32)) % (100 : Int32)) + (1 : Int32)), .unset, .unset, .unset, .unset, .unset, .unset, .unset, .unset, .unset] [(.int 1), (.int (pf &&& (1023 : Int32)))])) (fun t k => XS.iconst X0.here hx rfl (hb hby at_36) k) ?_
    refine Go.pull (V := s₁.setTop (mkF m 38 #[iv pa, iv pb, iv pd, iv pe, iv pf, iv zm, iv (((pb &&& (2147483647 : Int32)) % (100 : Int32)) + (1 : Int32)), .unset, .unset, .unset, .unset, .unset, .unset, .unset, .unset, .unset] [(.int ((pf &&& (1023 : Int32)) + (1 : Int32)))])) (fun t k => XS.iadd X0.here hx rfl (hb hby at_37) rfl k) ?_
    refine Go.pull (V := s₁.setTop (mkF m 39 #[iv pa, iv pb, iv pd, iv pe, iv pf, iv zm, iv (((pb &&& (2147483647 : Int32)) % (100 : Int32)) + (1 : Int32)), .unset, .unset, .unset, .unset, .unset, .unset, .unset, .unset, .unset] [(.double (Jvm.FP.i2d ((pf &&& (1023 : Int32)) + (1 : Int32))))])) (fun t k => XS.i2dS X0.here hx rfl (hb hby at_38) rfl rfl k) ?_
    refine Go.pull (V := s₁.setTop (mkF m 41 #[iv pa, iv pb, iv pd, iv pe, iv pf, iv zm, iv (((pb &&& (2147483647 : Int32)) % (100 : Int32)) + (1 : Int32)), .val (.double (Jvm.FP.i2d ((pf &&& (1023 : Int32)) + (1 : Int32)))), .second, .unset, .unset, .unset, .unset, .unset, .unset, .unset] [])) (fun t k => XS.dstore X0.here hx rfl (hb hby at_39) rfl (l' := #[iv pa, iv pb, iv pd, iv pe, iv pf, iv zm, iv (((pb &&& (2147483647 : Int32)) % (100 : Int32)) + (1 : Int32)), .val (.double (Jvm.FP.i2d ((pf &&& (1023 : Int32)) + (1 : Int32)))), .second, .unset, .unset, .unset, .unset, .unset, .unset, .unset]) rfl k) ?_
    refine Go.pull (V := s₁.setTop (mkF m 42 #[iv pa, iv pb, iv pd, iv pe, iv pf, iv zm, iv (((pb &&& (2147483647 : Int32)) % (100 : Int32)) + (1 : Int32)), .val (.double (Jvm.FP.i2d ((pf &&& (1023 : Int32)) + (1 : Int32)))), .second, .unset, .unset, .unset, .unset, .unset, .unset, .unset] [(.int pd)])) (fun t k => XS.iloadN X0.here hx rfl (hb hby at_41) rfl  k) ?_
    refine Go.pull (V := s₁.setTop (mkF m 44 #[iv pa, iv pb, iv pd, iv pe, iv pf, iv zm, iv (((pb &&& (2147483647 : Int32)) % (100 : Int32)) + (1 : Int32)), .val (.double (Jvm.FP.i2d ((pf &&& (1023 : Int32)) + (1 : Int32)))), .second, iv pd, .unset, .unset, .unset, .unset, .unset, .unset] [])) (fun t k => XS.istore X0.here hx rfl (hb hby at_42) rfl (l' := #[iv pa, iv pb, iv pd, iv pe, iv pf, iv zm, iv (((pb &&& (2147483647 : Int32)) % (100 : Int32)) + (1 : Int32)), .val (.double (Jvm.FP.i2d ((pf &&& (1023 : Int32)) + (1 : Int32)))), .second, iv pd, .unset, .unset, .unset, .unset, .unset, .unset]) rfl k) ?_
    refine Go.pull (V := s₁.setTop (mkF m 45 #[iv pa, iv pb, iv pd, iv pe, iv pf, iv zm, iv (((pb &&& (2147483647 : Int32)) % (100 : Int32)) + (1 : Int32)), .val (.double (Jvm.FP.i2d ((pf &&& (1023 : Int32)) + (1 : Int32)))), .second, iv pd, .unset, .unset, .unset, .unset, .unset, .unset] [(.int pe)])) (fun t k => XS.iloadN X0.here hx rfl (hb hby at_44) rfl  k) ?_
    refine Go.pull (V := s₁.setTop (mkF m 46 #[iv pa, iv pb, iv pd, iv pe, iv pf, iv zm, iv (((pb &&& (2147483647 : Int32)) % (100 : Int32)) + (1 : Int32)), .val (.double (Jvm.FP.i2d ((pf &&& (1023 : Int32)) + (1 : Int32)))), .second, iv pd, .unset, .unset, .unset, .unset, .unset, .unset] [(.int 1), (.int pe)])) (fun t k => XS.iconst X0.here hx rfl (hb hby at_45) k) ?_
    refine Go.pull (V := s₁.setTop (mkF m 47 #[iv pa, iv pb, iv pd, iv pe, iv pf, iv zm, iv (((pb &&& (2147483647 : Int32)) % (100 : Int32)) + (1 : Int32)), .val (.double (Jvm.FP.i2d ((pf &&& (1023 : Int32)) + (1 : Int32)))), .second, iv pd, .unset, .unset, .unset, .unset, .unset, .unset] [(.int (pe &&& (1 : Int32)))])) (fun t k => XS.iand X0.here hx rfl (hb hby at_46) rfl k) ?_
    by_cases hc47_16 : (pe &&& (1 : Int32)) = 0
    · skip
      refine Go.pull (V := s₁.setTop (mkF m 60 #[iv pa, iv pb, iv pd, iv pe, iv pf, iv zm, iv (((pb &&& (2147483647 : Int32)) % (100 : Int32)) + (1 : Int32)), .val (.double (Jvm.FP.i2d ((pf &&& (1023 : Int32)) + (1 : Int32)))), .second, iv pd, .unset, .unset, .unset, .unset, .unset, .unset] [])) (fun t k => XS.ifYes X0.here hx rfl (pc0 := 47) (pc' := 60) rfl (hb hby at_47) rfl (XT.i0_eq_t hc47_16) (by decide) (by decide) k) ?_
      exact J60_2 ((((pb &&& (2147483647 : Int32)) % (100 : Int32)) + (1 : Int32))) ((Jvm.FP.i2d ((pf &&& (1023 : Int32)) + (1 : Int32)))) (pd) (own_pc _)
    · skip
      refine Go.pull (V := s₁.setTop (mkF m 50 #[iv pa, iv pb, iv pd, iv pe, iv pf, iv zm, iv (((pb &&& (2147483647 : Int32)) % (100 : Int32)) + (1 : Int32)), .val (.double (Jvm.FP.i2d ((pf &&& (1023 : Int32)) + (1 : Int32)))), .second, iv pd, .unset, .unset, .unset, .unset, .unset, .unset] [])) (fun t k => XS.ifNo X0.here hx rfl (hb hby at_47) rfl (XT.i0_eq_f hc47_16) k) ?_
      refine Go.pull (V := s₁.setTop (mkF m 52 #[iv pa, iv pb, iv pd, iv pe, iv pf, iv zm, iv (((pb &&& (2147483647 : Int32)) % (100 : Int32)) + (1 : Int32)), .val (.double (Jvm.FP.i2d ((pf &&& (1023 : Int32)) + (1 : Int32)))), .second, iv pd, .unset, .unset, .unset, .unset, .unset, .unset] [(.int zm)])) (fun t k => XS.iload X0.here hx rfl (hb hby at_50) rfl  k) ?_
      refine Go.pull (V := s₁.setTop (mkF m 53 #[iv pa, iv pb, iv pd, iv pe, iv pf, iv zm, iv (((pb &&& (2147483647 : Int32)) % (100 : Int32)) + (1 : Int32)), .val (.double (Jvm.FP.i2d ((pf &&& (1023 : Int32)) + (1 : Int32)))), .second, iv pd, .unset, .unset, .unset, .unset, .unset, .unset] [(.int pd), (.int zm)])) (fun t k => XS.iloadN X0.here hx rfl (hb hby at_52) rfl  k) ?_
      refine Go.pull (V := s₁.setTop (mkF m 54 #[iv pa, iv pb, iv pd, iv pe, iv pf, iv zm, iv (((pb &&& (2147483647 : Int32)) % (100 : Int32)) + (1 : Int32)), .val (.double (Jvm.FP.i2d ((pf &&& (1023 : Int32)) + (1 : Int32)))), .second, iv pd, .unset, .unset, .unset, .unset, .unset, .unset] [(.int 3), (.int pd), (.int zm)])) (fun t k => XS.iconst X0.here hx rfl (hb hby at_53) k) ?_
      refine Go.pull (V := s₁.setTop (mkF m 55 #[iv pa, iv pb, iv pd, iv pe, iv pf, iv zm, iv (((pb &&& (2147483647 : Int32)) % (100 : Int32)) + (1 : Int32)), .val (.double (Jvm.FP.i2d ((pf &&& (1023 : Int32)) + (1 : Int32)))), .second, iv pd, .unset, .unset, .unset, .unset, .unset, .unset] [(.int (pd &&& (3 : Int32))), (.int zm)])) (fun t k => XS.iand X0.here hx rfl (hb hby at_54) rfl k) ?_
      refine Go.pull (V := s₁.setTop (mkF m 56 #[iv pa, iv pb, iv pd, iv pe, iv pf, iv zm, iv (((pb &&& (2147483647 : Int32)) % (100 : Int32)) + (1 : Int32)), .val (.double (Jvm.FP.i2d ((pf &&& (1023 : Int32)) + (1 : Int32)))), .second, iv pd, .unset, .unset, .unset, .unset, .unset, .unset] [(.int 1), (.int (pd &&& (3 : Int32))), (.int zm)])) (fun t k => XS.iconst X0.here hx rfl (hb hby at_55) k) ?_
      refine Go.pull (V := s₁.setTop (mkF m 57 #[iv pa, iv pb, iv pd, iv pe, iv pf, iv zm, iv (((pb &&& (2147483647 : Int32)) % (100 : Int32)) + (1 : Int32)), .val (.double (Jvm.FP.i2d ((pf &&& (1023 : Int32)) + (1 : Int32)))), .second, iv pd, .unset, .unset, .unset, .unset, .unset, .unset] [(.int ((pd &&& (3 : Int32)) - (1 : Int32))), (.int zm)])) (fun t k => XS.isub X0.here hx rfl (hb hby at_56) rfl k) ?_
      refine Go.pull (V := s₁.setTop (mkF m 58 #[iv pa, iv pb, iv pd, iv pe, iv pf, iv zm, iv (((pb &&& (2147483647 : Int32)) % (100 : Int32)) + (1 : Int32)), .val (.double (Jvm.FP.i2d ((pf &&& (1023 : Int32)) + (1 : Int32)))), .second, iv pd, .unset, .unset, .unset, .unset, .unset, .unset] [(.int (zm + ((pd &&& (3 : Int32)) - (1 : Int32))))])) (fun t k => XS.iadd X0.here hx rfl (hb hby at_57) rfl k) ?_
      refine Go.pull (V := s₁.setTop (mkF m 60 #[iv pa, iv pb, iv pd, iv pe, iv pf, iv zm, iv (((pb &&& (2147483647 : Int32)) % (100 : Int32)) + (1 : Int32)), .val (.double (Jvm.FP.i2d ((pf &&& (1023 : Int32)) + (1 : Int32)))), .second, iv (zm + ((pd &&& (3 : Int32)) - (1 : Int32))), .unset, .unset, .unset, .unset, .unset, .unset] [])) (fun t k => XS.istore X0.here hx rfl (hb hby at_58) rfl (l' := #[iv pa, iv pb, iv pd, iv pe, iv pf, iv zm, iv (((pb &&& (2147483647 : Int32)) % (100 : Int32)) + (1 : Int32)), .val (.double (Jvm.FP.i2d ((pf &&& (1023 : Int32)) + (1 : Int32)))), .second, iv (zm + ((pd &&& (3 : Int32)) - (1 : Int32))), .unset, .unset, .unset, .unset, .unset, .unset]) rfl k) ?_
      exact J60_2 ((((pb &&& (2147483647 : Int32)) % (100 : Int32)) + (1 : Int32))) ((Jvm.FP.i2d ((pf &&& (1023 : Int32)) + (1 : Int32)))) ((zm + ((pd &&& (3 : Int32)) - (1 : Int32)))) (own_pc _)
  refine Go.pull (V := s₁.setTop (mkF m 7 #[iv pa, iv pb, iv pd, iv pe, iv pf, iv (pa &&& (2147483647 : Int32)), .unset, .unset, .unset, .unset, .unset, .unset, .unset, .unset, .unset, .unset] [(.int pe)])) (fun t k => XS.iloadN X0.here hx rfl (hb hby at_6) rfl  k) ?_
  refine Go.pull (V := s₁.setTop (mkF m 8 #[iv pa, iv pb, iv pd, iv pe, iv pf, iv (pa &&& (2147483647 : Int32)), .unset, .unset, .unset, .unset, .unset, .unset, .unset, .unset, .unset, .unset] [(.int 2), (.int pe)])) (fun t k => XS.iconst X0.here hx rfl (hb hby at_7) k) ?_
  refine Go.pull (V := s₁.setTop (mkF m 9 #[iv pa, iv pb, iv pd, iv pe, iv pf, iv (pa &&& (2147483647 : Int32)), .unset, .unset, .unset, .unset, .unset, .unset, .unset, .unset, .unset, .unset] [(.int (pe &&& (2 : Int32)))])) (fun t k => XS.iand X0.here hx rfl (hb hby at_8) rfl k) ?_
  by_cases hc9_17 : (pe &&& (2 : Int32)) = 0
  · skip
    refine Go.pull (V := s₁.setTop (mkF m 19 #[iv pa, iv pb, iv pd, iv pe, iv pf, iv (pa &&& (2147483647 : Int32)), .unset, .unset, .unset, .unset, .unset, .unset, .unset, .unset, .unset, .unset] [])) (fun t k => XS.ifYes X0.here hx rfl (pc0 := 9) (pc' := 19) rfl (hb hby at_9) rfl (XT.i0_eq_t hc9_17) (by decide) (by decide) k) ?_
    exact J19_1 ((pa &&& (2147483647 : Int32))) (own_pos _)
  · skip
    refine Go.pull (V := s₁.setTop (mkF m 12 #[iv pa, iv pb, iv pd, iv pe, iv pf, iv (pa &&& (2147483647 : Int32)), .unset, .unset, .unset, .unset, .unset, .unset, .unset, .unset, .unset, .unset] [])) (fun t k => XS.ifNo X0.here hx rfl (hb hby at_9) rfl (XT.i0_eq_f hc9_17) k) ?_
    refine Go.pull (V := s₁.setTop (mkF m 14 #[iv pa, iv pb, iv pd, iv pe, iv pf, iv (pa &&& (2147483647 : Int32)), .unset, .unset, .unset, .unset, .unset, .unset, .unset, .unset, .unset, .unset] [(.int (pa &&& (2147483647 : Int32)))])) (fun t k => XS.iload X0.here hx rfl (hb hby at_12) rfl  k) ?_
    refine Go.pull (V := s₁.setTop (mkF m 16 #[iv pa, iv pb, iv pd, iv pe, iv pf, iv (pa &&& (2147483647 : Int32)), .unset, .unset, .unset, .unset, .unset, .unset, .unset, .unset, .unset, .unset] [(.int 15), (.int (pa &&& (2147483647 : Int32)))])) (fun t k => XS.bipush X0.here hx rfl (hb hby at_14) k) ?_
    refine Go.pull (V := s₁.setTop (mkF m 17 #[iv pa, iv pb, iv pd, iv pe, iv pf, iv (pa &&& (2147483647 : Int32)), .unset, .unset, .unset, .unset, .unset, .unset, .unset, .unset, .unset, .unset] [(.int ((pa &&& (2147483647 : Int32)) &&& (15 : Int32)))])) (fun t k => XS.iand X0.here hx rfl (hb hby at_16) rfl k) ?_
    refine Go.pull (V := s₁.setTop (mkF m 19 #[iv pa, iv pb, iv pd, iv pe, iv pf, iv ((pa &&& (2147483647 : Int32)) &&& (15 : Int32)), .unset, .unset, .unset, .unset, .unset, .unset, .unset, .unset, .unset, .unset] [])) (fun t k => XS.istore X0.here hx rfl (hb hby at_17) rfl (l' := #[iv pa, iv pb, iv pd, iv pe, iv pf, iv ((pa &&& (2147483647 : Int32)) &&& (15 : Int32)), .unset, .unset, .unset, .unset, .unset, .unset, .unset, .unset, .unset, .unset]) rfl k) ?_
    exact J19_1 (((pa &&& (2147483647 : Int32)) &&& (15 : Int32))) (own_pos15 _)
set_option maxRecDepth 65536 in
set_option maxHeartbeats 40000000 in
theorem comes_1 {Post : Tables → Env → Array Value → State → Outcome → State → Prop} (hpost : ∀ tb e args s v u, (limb_1_1.after args s (.returned v) u = true ∧ limb_1_2.after args s (.returned v) u = true ∧ True) → FrameEnd s (.returned v) u (Jvm.fieldLocs frame_1_writes args s ++ Jvm.arrayLocs frame_1_arrays args s ++ Jvm.staticLocs frame_1_statics s) 16 128 → Post tb e args s (.returned v) u) :
    ArmFor flags0 classFile x code maxLocals ret World_1 tables_1 room_1 Calls_1 rest_1 Pre_1 Post := by
  intro l hfl _ _ p e ha hc hk s m args below hf hA hF happ hP
  obtain ⟨hcalls, hrest, hpre⟩ := hP
  obtain ⟨-, -, -, hnamed, -, -, -, hat⟩ := (Spec.applies_iff hf).mp happ
  obtain ⟨hg, hn⟩ := and_e (Cond.before_iff.mp (show (Jvm.Cond.and given_1 narrow_1).before args s = true from hpre))
  obtain ⟨y1, y2⟩ := and_e hg
  obtain ⟨y3, y4⟩ := and_e y2
  obtain ⟨y5, y6⟩ := and_e y4
  obtain ⟨y7, y8⟩ := and_e y6
  obtain ⟨y9, y10⟩ := and_e y8
  obtain ⟨w0, w1, w2, w3, w4, rfl⟩ : ∃ w0 w1 w2 w3 w4 : Value, args = #[w0, w1, w2, w3, w4] := by
    have hs : args.size = 5 := by simpa [Cond.value, given_1] using y1
    obtain ⟨L⟩ := args
    match L, hs with
    | [w0, w1, w2, w3, w4], _ => exact ⟨w0, w1, w2, w3, w4, rfl⟩
  have hw := fun d (hd : d ∈ tables_1) => atoms_spec (ws := Jvm.Cond.code x code maxLocals ret :: tables_1) hat d (List.mem_cons_of_mem _ hd)
  have hfit : Fit s := fun {y c} hc i hi => by
    obtain ⟨ha, rfl⟩ := Array.getElem?_eq_some_iff.mp hc
    have q := List.all_eq_true.mp ((Array.all_eq_true_iff_forall_mem.mp hF) _ (Array.getElem_mem ha)) i (List.mem_range.mpr hi)
    simpa [Array.getElem?_eq_getElem hi] using q
  obtain ⟨i0, ei0⟩ := is_v y3
  obtain rfl : w0 = (.int i0) := Option.some.inj ei0
  obtain ⟨i1, ei1⟩ := is_v y5
  obtain rfl : w1 = (.int i1) := Option.some.inj ei1
  obtain ⟨i2, ei2⟩ := is_v y7
  obtain rfl : w2 = (.int i2) := Option.some.inj ei2
  obtain ⟨i3, ei3⟩ := is_v y9
  obtain rfl : w3 = (.int i3) := Option.some.inj ei3
  obtain ⟨i4, ei4⟩ := is_v y10
  obtain rfl : w4 = (.int i4) := Option.some.inj ei4
  obtain ⟨n, o, h1, h2, h3, _, L, rfl, ⟨rfl, N⟩, hq⟩ := rm0 l s _ hw tables_1 i0 i1 i2 i3 i4 s.heap s.heap.size (Nat.le_refl _)  p e ha hc hk s m _ below hf ((Spec.applies_iff_loose hf).mp happ).1 ⟨rfl, State.Warmed39.refl s, rfl⟩ trivial
  refine ⟨n, _, h1, h2, h3, hpost _ _ _ _ _ _ ⟨Cond.after_iff.mpr rfl, Cond.after_iff.mpr (eq_i res_at (Term.int_eval (1)) rfl), trivial⟩ ⟨hq.1, hq.2.1, (hq.2.2.sift fun y hy => Or.inr (N y hy)).mono (by decide) (by decide)⟩⟩
theorem main_1_1 : Claimed_1_1 := comes_1 fun _ _ _ _ _ _ h hF => ⟨h.1, hF⟩
theorem main_1_2 : Claimed_1_2 := comes_1 fun _ _ _ _ _ _ h hF => ⟨h.2.1, hF⟩
end Jvm.Pilot.@@N@@
namespace Jvm.Pilot.@@N@@
open Jvm Jvm.ClassFile Sem Op Lib Jvm.Free Jvm.Stand Jvm.Pilot.@@N@@.Jvm.D
/-! MADE BY PROGRAM (witnessworld.py) out of the Statement's table words and the real class files: 10 classes; the members and pool entries that the words name. The judged class is class 1, her method 1. -/
namespace start1
open Jvm.ClassFile
def u (s : String) : CpInfo := .utf8 (stringToUtf16 s)
/-- a pool by its gaps: so many unusable entries, then the entry; so many at the end -/
def gap : Nat → List CpInfo → List CpInfo
  | 0, r => r
  | n + 1, r => .unusable :: gap n r
def poolList (es : List (Nat × CpInfo)) (last : Nat) : List CpInfo := es.foldr (fun e r => gap e.1 (e.2 :: r)) (gap last [])
def pool (es : List (Nat × CpInfo)) (last : Nat) : Array CpInfo := ⟨poolList es last⟩
def fileOf (pool : Array CpInfo) (this : Nat) (attrs : Array Attribute := #[]) (ms : Array MethodInfo := #[]) (fl : Nat := 33) (sup : Nat := 0) (ifs : Array Nat := #[]) (fds : Array FieldInfo := #[]) : ClassFile where
  minorVersion := 0
  majorVersion := 65
  constantPool := pool
  accessFlags := fl
  thisClass := this
  superClass := sup
  interfaces := ifs
  fields := fds
  methods := ms
  attributes := attrs
def plain (name : String) (sup : Option ClassId) : Class where
  name := name
  kind := .ordinary
  loader := none
  accessFlags := 33
  super := sup
  interfaces := #[]
  cf := none
  fields := #[]
  methods := #[]
  instanceTypes := #[]
  staticTypes := #[]
  resolved := #[]
  callSites := []
  init := .initialized
  statics := none
  mirror := none

def pool0 : Array CpInfo := pool [(5, u "<init>"), (0, u "()V"), (1, .class_ 10), (1, u "java/lang/Object")] 113

def k0c0 : Code := { maxStack := 0, maxLocals := 1, code := object_method_1_code, exceptionTable := #[], attributes := #[] }
def k0m0 : Method := { name := "<init>", desc := "()V", sig := { parameters := [], returnType := none }, accessFlags := 1, code := some k0c0 }
/-- java/lang/Object -/
def k0 : Class := { plain "java/lang/Object" none with
  accessFlags := 33
  interfaces := #[]
  cf := some (fileOf pool0 8 #[] #[{ accessFlags := 1, nameIndex := 5, descriptorIndex := 6, attributes := #[] }] 33 0 #[] #[])
  fields := #[]
  methods := #[k0m0]
  instanceTypes := #[]
  staticTypes := #[]
  resolved := Array.replicate 124 none
  statics := none }

def pool1 : Array CpInfo := pool [(2, .class_ 4), (1, u "java/lang/Object"), (0, u "<init>"), (0, u "()V"), (0, .integer 2147483647), (0, .class_ 9), (0, u "com/example/threshold/threshold/TopDocsOptions"), (0, .methodref 8 11), (0, .nameAndType 5 12), (0, u "(IID)V"), (0, .methodref 8 14), (0, .nameAndType 15 16), (0, u "listLength"), (0, u "(I)I"), (0, .long 100), (1, .class_ 20), (0, u "com/example/threshold/threshold/TopDocsOptionsListLengthPinLaw"), (2, u "law"), (0, u "(IIIII)Z")] 3

def k1m0 : Method := { name := "<init>", desc := "()V", sig := { parameters := [], returnType := none }, accessFlags := 1, code := none }
def k1c1 : Code := { maxStack := 6, maxLocals := 16, code := code, exceptionTable := #[], attributes := #[] }
def k1m1 : Method := { name := "law", desc := "(IIIII)Z", sig := { parameters := [.int, .int, .int, .int, .int], returnType := some .boolean }, accessFlags := 9, code := some k1c1 }
/-- com/example/threshold/threshold/TopDocsOptionsListLengthPinLaw -/
def k1 : Class := { plain "com/example/threshold/threshold/TopDocsOptionsListLengthPinLaw" (some 0) with
  accessFlags := 49
  interfaces := #[]
  cf := some (fileOf pool1 19 #[] #[{ accessFlags := 1, nameIndex := 5, descriptorIndex := 6, attributes := #[] }, { accessFlags := 9, nameIndex := 23, descriptorIndex := 24, attributes := #[] }] 49 2 #[] #[])
  fields := #[]
  methods := #[k1m0, k1m1]
  instanceTypes := #[]
  staticTypes := #[]
  resolved := Array.replicate 28 none
  statics := none }

def pool2 : Array CpInfo := pool [(1, .methodref 2 3), (0, .class_ 4), (0, .nameAndType 5 6), (0, u "java/lang/Object"), (0, u "<init>"), (0, u "()V"), (0, .class_ 8), (0, u "java/lang/Record")] 13

def k2c0 : Code := { maxStack := 1, maxLocals := 1, code := jdk_30_method_1_code, exceptionTable := #[], attributes := #[] }
def k2m0 : Method := { name := "<init>", desc := "()V", sig := { parameters := [], returnType := none }, accessFlags := 4, code := some k2c0 }
/-- java/lang/Record -/
def k2 : Class := { plain "java/lang/Record" (some 0) with
  accessFlags := 1057
  interfaces := #[]
  cf := some (fileOf pool2 7 #[] #[{ accessFlags := 4, nameIndex := 5, descriptorIndex := 6, attributes := #[] }] 1057 2 #[] #[])
  fields := #[]
  methods := #[k2m0]
  instanceTypes := #[]
  staticTypes := #[]
  resolved := Array.replicate 22 none
  statics := none }

def pool3 : Array CpInfo := pool [(1, .methodref 2 3), (0, .class_ 4), (0, .nameAndType 5 6), (0, u "java/lang/Record"), (0, u "<init>"), (0, u "()V"), (0, .fieldref 8 9), (0, .class_ 10), (0, .nameAndType 11 12), (0, u "com/example/threshold/threshold/TopDocsOptions"), (0, u "minDocumentFrequency"), (0, u "I"), (0, .fieldref 8 14), (0, .nameAndType 15 12), (0, u "percent"), (0, .fieldref 8 17), (0, .nameAndType 18 19), (0, u "mu"), (0, u "D"), (0, .long 99), (1, .long 100), (13, u "(IID)V"), (3, u "listLength"), (0, u "(I)I")] 27

def k3c0 : Code := { maxStack := 3, maxLocals := 5, code := prog_27_method_1_code, exceptionTable := #[], attributes := #[] }
def k3m0 : Method := { name := "<init>", desc := "(IID)V", sig := { parameters := [.int, .int, .double], returnType := none }, accessFlags := 1, code := some k3c0 }
def k3c1 : Code := { maxStack := 4, maxLocals := 2, code := prog_27_method_2_code, exceptionTable := #[], attributes := #[] }
def k3m1 : Method := { name := "listLength", desc := "(I)I", sig := { parameters := [.int], returnType := some .int }, accessFlags := 1, code := some k3c1 }
/-- com/example/threshold/threshold/TopDocsOptions -/
def k3 : Class := { plain "com/example/threshold/threshold/TopDocsOptions" (some 2) with
  accessFlags := 49
  interfaces := #[]
  cf := some (fileOf pool3 8 #[] #[{ accessFlags := 1, nameIndex := 5, descriptorIndex := 36, attributes := #[] }, { accessFlags := 1, nameIndex := 40, descriptorIndex := 41, attributes := #[] }] 49 2 #[] #[{ accessFlags := 18, nameIndex := 11, descriptorIndex := 12, attributes := #[] }, { accessFlags := 18, nameIndex := 15, descriptorIndex := 12, attributes := #[] }, { accessFlags := 18, nameIndex := 18, descriptorIndex := 19, attributes := #[] }])
  fields := #[{ name := "minDocumentFrequency", type := .int, accessFlags := 18, slot := 0, constantValue := 0 }, { name := "percent", type := .int, accessFlags := 18, slot := 1, constantValue := 0 }, { name := "mu", type := .double, accessFlags := 18, slot := 2, constantValue := 0 }]
  methods := #[k3m0, k3m1]
  instanceTypes := #[.int, .int, .double]
  staticTypes := #[]
  resolved := Array.replicate 69 none
  statics := none }

def pool4 : Array CpInfo := pool [(1, u "java/lang/Cloneable"), (0, .class_ 1), (0, u "java/lang/Object"), (0, .class_ 3)] 3

/-- java/lang/Cloneable -/
def k4 : Class := { plain "java/lang/Cloneable" (some 0) with
  accessFlags := 1537
  interfaces := #[]
  cf := some (fileOf pool4 2 #[] #[] 1537 4 #[] #[])
  fields := #[]
  methods := #[]
  instanceTypes := #[]
  staticTypes := #[]
  resolved := Array.replicate 8 none
  statics := none }

def pool5 : Array CpInfo := pool [(1, u "java/io/Serializable"), (0, .class_ 1), (0, u "java/lang/Object"), (0, .class_ 3)] 3

/-- java/io/Serializable -/
def k5 : Class := { plain "java/io/Serializable" (some 0) with
  accessFlags := 1537
  interfaces := #[]
  cf := some (fileOf pool5 2 #[] #[] 1537 4 #[] #[])
  fields := #[]
  methods := #[]
  instanceTypes := #[]
  staticTypes := #[]
  resolved := Array.replicate 8 none
  statics := none }

/-- the primitive byte -/
def k6 : Class := { plain "byte" none with kind := .primitive 'B', accessFlags := 0x411 }
/-- [B -/
def k7 : Class := { plain "[B" (some 0) with kind := .array 6 .byte, interfaces := #[4, 5], accessFlags := 1041 }

/-- the primitive int -/
def k8 : Class := { plain "int" none with kind := .primitive 'I', accessFlags := 0x411 }
/-- [I -/
def k9 : Class := { plain "[I" (some 0) with kind := .array 8 .int, interfaces := #[4, 5], accessFlags := 1041 }

def heap : Heap := #[]
def classes : Array Class := #[k0, k1, k2, k3, k4, k5, k6, k7, k8, k9]
def interned : List (Array UInt16 × Addr) := []
def slotsUsed : Nat := 0
def theMethod : MethodId := ⟨1, 1⟩
def args0 : Array Value := #[.int 3, .int 5, .int 10, .int 1, .int 2]
def aboutOver (below : List Frame) : State where
  vm := { classes := classes, interned := interned.toArray }
  heap := heap
  slotsUsed := slotsUsed
  threads := #[{ frames := .invoking theMethod args0 :: below }]
def below0 : List Frame := [.native { method := ⟨0, 0⟩, args := #[] }]
def about1 : State := aboutOver below0
def p0 : Program := .bare "" "" ""
def e0 : Env := launch0.env 0 0 0
theorem w_frames : about1.frames = Frame.invoking theMethod args0 :: below0 := rfl
set_option maxRecDepth 65536 in
theorem w_args : argsFit about1.vm theMethod args0 = true := by decide +kernel
set_option maxRecDepth 65536 in
theorem w_heap : heapFits about1 = true := by decide +kernel
set_option maxRecDepth 65536 in
theorem w_runnable : about1.curStatus? = some .runnable := by decide +kernel
set_option maxRecDepth 65536 in
theorem w_alone : about1.alone = true := by decide +kernel
set_option maxRecDepth 65536 in
theorem w_named : about1.methodNamed? x = some theMethod := by decide +kernel
set_option maxRecDepth 65536 in
theorem w_hears : about1.hears theMethod below0 = true := by decide +kernel
set_option maxRecDepth 65536 in
theorem w_ripe : about1.ripe theMethod args0 below0 = true := by decide +kernel
theorem w_running : about1.status = .running := rfl
set_option maxRecDepth 65536 in
theorem w_room : about1.hasRoom e0.platform room_1 = true :=
  launch0.hasRoom_least _ room_1 (by decide +kernel) (by decide +kernel) (by decide +kernel) (by decide +kernel) (by decide +kernel) (by decide +kernel)
theorem allAtoms_all (ts : List Jvm.Cond) (a : Array Jvm.Value) (st : Jvm.State) : (allAtoms ts).before a st = ts.all (fun c => c.before a st) := by
  induction ts with
  | nil => rfl
  | cons c t ih =>
    show (Jvm.Cond.and c (allAtoms t)).before a st = _
    rw [Jvm.Cond.before_and, ih, List.all_cons]
def words1 : List Jvm.Cond := Jvm.Cond.code x code maxLocals ret :: tables_1
/-- a 'code' word, met by the world's own term for the bytes: nothing is compared byte by byte -/
theorem code_word {y : MethodName} {bytes : ByteArray} {mx : Nat} {rt : Option FieldType} {a : Array Value} {s : State} {m : MethodId} {meth : Method} {c : Code} (h1 : s.methodNamed? y = some m) (h2 : s.vm.method? m = some meth) (h3 : meth.code = some c) (h4 : c.code = bytes)
    (h5 : (c.maxLocals == mx && c.exceptionTable.isEmpty && decide (c.maxStack ≤ mostOperands) && decide (meth.sig.returnType = rt) && !meth.locks && decide (parseMethodDescriptor y.desc = some meth.sig)) = true) : (Jvm.Cond.code y bytes mx rt).before a s = true := by
  simp only [Bool.and_eq_true, beq_iff_eq, Bool.not_eq_true', decide_eq_true_eq] at h5
  obtain ⟨⟨⟨⟨⟨g1, g2⟩, g3⟩, g4⟩, g5⟩, g6⟩ := h5
  simp [Cond.before, Cond.holds, Cond.value, h1, h2, h3, h4, g1, g2, g3, g4, g5, g6]
def isCode : Jvm.Cond → Bool
  | .code _ _ _ _ => true
  | _ => false
theorem all_split {L : List Jvm.Cond} {P : Jvm.Cond → Bool} (h1 : L.all (fun c => isCode c || P c) = true) (h2 : ∀ c ∈ L.filter isCode, P c = true) : L.all P = true := by
  refine List.all_eq_true.mpr fun c hc => ?_
  have h := List.all_eq_true.mp h1 c hc
  rcases Bool.eq_false_or_eq_true (isCode c) with hi | hi
  · exact h2 c (List.mem_filter.mpr ⟨hc, hi⟩)
  · simpa [hi] using h
set_option maxRecDepth 65536 in
theorem w_c0 : (Jvm.Cond.code x code maxLocals ret).before args0 about1 = true := code_word (m := ⟨1, 1⟩) (meth := k1m1) (c := k1c1) (by decide +kernel) rfl rfl rfl (by decide +kernel)
set_option maxRecDepth 65536 in
theorem w_c1 : (Jvm.Cond.code ({ cls := "com/example/threshold/threshold/TopDocsOptions", name := "<init>", desc := "(IID)V" } : Jvm.MethodName) prog_27_method_1_code (5 : Nat) (Option.none : Option Jvm.ClassFile.FieldType)).before args0 about1 = true := code_word (m := ⟨3, 0⟩) (meth := k3m0) (c := k3c0) (by decide +kernel) rfl rfl rfl (by decide +kernel)
set_option maxRecDepth 65536 in
theorem w_c2 : (Jvm.Cond.code ({ cls := "java/lang/Record", name := "<init>", desc := "()V" } : Jvm.MethodName) jdk_30_method_1_code (1 : Nat) (Option.none : Option Jvm.ClassFile.FieldType)).before args0 about1 = true := code_word (m := ⟨2, 0⟩) (meth := k2m0) (c := k2c0) (by decide +kernel) rfl rfl rfl (by decide +kernel)
set_option maxRecDepth 65536 in
theorem w_c3 : (Jvm.Cond.code ({ cls := "java/lang/Object", name := "<init>", desc := "()V" } : Jvm.MethodName) object_method_1_code (1 : Nat) (Option.none : Option Jvm.ClassFile.FieldType)).before args0 about1 = true := code_word (m := ⟨0, 0⟩) (meth := k0m0) (c := k0c0) (by decide +kernel) rfl rfl rfl (by decide +kernel)
set_option maxRecDepth 65536 in
theorem w_c4 : (Jvm.Cond.code ({ cls := "com/example/threshold/threshold/TopDocsOptions", name := "listLength", desc := "(I)I" } : Jvm.MethodName) prog_27_method_2_code (2 : Nat) (Option.some Jvm.ClassFile.FieldType.int)).before args0 about1 = true := code_word (m := ⟨3, 1⟩) (meth := k3m1) (c := k3c1) (by decide +kernel) rfl rfl rfl (by decide +kernel)
def codes1 : List Jvm.Cond := [Jvm.Cond.code x code maxLocals ret, Jvm.Cond.code ({ cls := "com/example/threshold/threshold/TopDocsOptions", name := "<init>", desc := "(IID)V" } : Jvm.MethodName) prog_27_method_1_code (5 : Nat) (Option.none : Option Jvm.ClassFile.FieldType), Jvm.Cond.code ({ cls := "java/lang/Record", name := "<init>", desc := "()V" } : Jvm.MethodName) jdk_30_method_1_code (1 : Nat) (Option.none : Option Jvm.ClassFile.FieldType), Jvm.Cond.code ({ cls := "java/lang/Object", name := "<init>", desc := "()V" } : Jvm.MethodName) object_method_1_code (1 : Nat) (Option.none : Option Jvm.ClassFile.FieldType), Jvm.Cond.code ({ cls := "com/example/threshold/threshold/TopDocsOptions", name := "listLength", desc := "(I)I" } : Jvm.MethodName) prog_27_method_2_code (2 : Nat) (Option.some Jvm.ClassFile.FieldType.int)]
set_option maxRecDepth 65536 in
theorem codes_eq : words1.filter isCode = codes1 := rfl
theorem w_codes : ∀ c ∈ words1.filter isCode, c.before args0 about1 = true := by
  rw [codes_eq]
  intro c hc
  simp only [codes1, List.mem_cons, List.not_mem_nil, or_false] at hc
  rcases hc with rfl | rfl | rfl | rfl | rfl
  · exact w_c0
  · exact w_c1
  · exact w_c2
  · exact w_c3
  · exact w_c4
set_option maxRecDepth 65536 in
theorem w_t1 : (words1.take 24).all (fun c => isCode c || c.before args0 about1) = true := by decide +kernel
set_option maxRecDepth 65536 in
theorem w_t2 : (words1.drop 24).all (fun c => isCode c || c.before args0 about1) = true := by decide +kernel
theorem w_tables : (allAtoms (Jvm.Cond.code x code maxLocals ret :: tables_1)).before args0 about1 = true := by
  rw [allAtoms_all]
  show words1.all (fun c => c.before args0 about1) = true
  refine all_split ?_ w_codes
  rw [← List.take_append_drop 24 words1, List.all_append, w_t1, w_t2]
  rfl
set_option maxRecDepth 65536 in
theorem w_case : (Jvm.Cond.and given_1 narrow_1).before args0 about1 = true := by decide +kernel
theorem w_applies : (headSpec (Jvm.Cond.code x code maxLocals ret :: tables_1) room_1).applies x e0.platform about1 = true :=
  (Spec.applies_iff w_frames).mpr ⟨w_running, w_runnable, w_alone, w_named, w_hears, w_ripe, w_room, w_tables⟩
theorem atStart : AtStart classFile x code maxLocals ret World_1 tables_1 room_1 Calls_1 rest_1 Pre_1 launch0 p0 e0 about1 theMethod args0 below0 :=
  ⟨lists_1, trivial, launch0.admits_env _ _ _, launch0.least_env, fairChoices_fair.cas, fairChoices_fair.clock, w_frames, w_args, w_heap, w_applies, trivial, trivial, w_case⟩
end start1
theorem witness_1 : WitnessClaimed_1 := ⟨start1.p0, start1.e0, start1.about1, start1.theMethod, start1.args0, start1.below0, start1.atStart⟩
end Jvm.Pilot.@@N@@
