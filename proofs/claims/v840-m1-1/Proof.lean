import JvmDerived
import JvmDerived.Pilot.@@N@@Statement
import JvmDerived.Pilot.@@N@@Code
set_option linter.unusedVariables false
set_option linter.unusedSimpArgs false
namespace Jvm.Pilot.@@N@@
open Jvm Jvm.ClassFile Sem Op Lib Jvm.Free Jvm.Stand Jvm.LawKit Jvm.RoadKit Bundle Jvm.Pilot.@@N@@.Jvm.D
section Own
variable {p : Program} {l : Launch} {e : Env} {R : Room} {s : State} {m : MethodId} {args : Array Value} {below : List Frame} {meth : Method} {c : Code} {T : State} {locs : List Loc} {cells slots : Nat} {P : Option Value → Heap → List Loc → Prop} {kk nn : Nat}
/-- from U a run comes to an end at which P holds, within kk cells and nn slots -/
def Go (p : Program) (e : Env) (below : List Frame) (s : State) (P : Option Value → Heap → List Loc → Prop) (kk nn : Nat) (U : State) : Prop :=
  ∃ s₂ o, Steps p.tables e below U s₂ ∧ s₂.status = .running ∧ Ended s₂ below o ∧ ∃ v L, o = .returned v ∧ P v s₂.heap L ∧ FrameEnd s o s₂ L kk nn
theorem Go.pull {U V : State} (h : ∀ t, Steps p.tables e below V t → Steps p.tables e below U t) (g : Go p e below s P kk nn V) : Go p e below s P kk nn U := by
  obtain ⟨s2, o, h1, h2⟩ := g
  exact ⟨s2, o, h _ h1, h2⟩
theorem Go.fin (X : Stand p l e R s m args below meth c T locs cells slots) {f : JFrame} {v : Option Value} (hlk : meth.locks = false) (hv : meth.sig.returnType = none → v = none)
    (hs : ∀ fs, (∀ (f : JFrame) (acts : List Action), f.method = m → f.locked = none → f.entered = [] → (doReturn e (T.setTop f) acts v).1 = T.setFrames fs) → Steps p.tables e below (T.setTop f) (T.setFrames fs))
    (hP : P v T.heap locs) (hk : cells ≤ kk) (hn : slots ≤ nn) : Go p e below s P kk nn (T.setTop f) := by
  obtain ⟨fs, hr, hrun, hended, hW, hsame⟩ := X.leave (v := v) hv hlk
  exact ⟨_, _, hs fs hr, hrun, hended, _, _, rfl, hP, ⟨_, rfl⟩, hW, hsame.mono hk hn⟩
theorem Go.retN (X : Stand p l e R s m args below meth c T locs cells slots) (hx : p.tables.exec = Jvm.exec) (hlk : meth.locks = false) {pc : Nat} {Ls : Array Slot} {z : Int32} {t : FieldType} {rest : List Value} (hret : meth.sig.returnType = some t) (ht : t = .boolean ∨ t = .byte ∨ t = .char ∨ t = .short)
    (hd : decode c.code pc = .ok (.ireturn, 1)) (hP : P (some (.int (nar t z))) T.heap locs) (hk : cells ≤ kk) (hn : slots ≤ nn) : Go p e below s P kk nn (T.setTop (mkF m pc Ls (.int z :: rest))) :=
  Go.fin X hlk (fun h => by rw [hret] at h; cases h) (fun fs hr => RoadKit.retN X hx hret ht hd hr) hP hk hn
theorem Go.retI (X : Stand p l e R s m args below meth c T locs cells slots) (hx : p.tables.exec = Jvm.exec) (hlk : meth.locks = false) {pc : Nat} {Ls : Array Slot} {z : Int32} {rest : List Value} (hret : meth.sig.returnType = some .int)
    (hd : decode c.code pc = .ok (.ireturn, 1)) (hP : P (some (.int z)) T.heap locs) (hk : cells ≤ kk) (hn : slots ≤ nn) : Go p e below s P kk nn (T.setTop (mkF m pc Ls (.int z :: rest))) :=
  Go.fin X hlk (fun h => by rw [hret] at h; cases h) (fun fs hr => retOut X hx hret rfl (Or.inl ⟨rfl, Or.inl rfl, z, rfl⟩) hd hr) hP hk hn
theorem Go.retJ (X : Stand p l e R s m args below meth c T locs cells slots) (hx : p.tables.exec = Jvm.exec) (hlk : meth.locks = false) {pc : Nat} {Ls : Array Slot} {z : Int64} {rest : List Value} (hret : meth.sig.returnType = some .long)
    (hd : decode c.code pc = .ok (.lreturn, 1)) (hP : P (some (.long z)) T.heap locs) (hk : cells ≤ kk) (hn : slots ≤ nn) : Go p e below s P kk nn (T.setTop (mkF m pc Ls (.long z :: rest))) :=
  Go.fin X hlk (fun h => by rw [hret] at h; cases h) (fun fs hr => retOut X hx hret rfl (Or.inr (Or.inl ⟨rfl, rfl, z, rfl⟩)) hd hr) hP hk hn
theorem Go.retR (X : Stand p l e R s m args below meth c T locs cells slots) (hx : p.tables.exec = Jvm.exec) (hlk : meth.locks = false) {pc : Nat} {Ls : Array Slot} {w : Value} {t : FieldType} {rest : List Value} (hret : meth.sig.returnType = some t) (hna : narrow t w = w) (ht : t.isReference = true) (hw : w.isRef = true)
    (hd : decode c.code pc = .ok (.areturn, 1)) (hP : P (some w) T.heap locs) (hk : cells ≤ kk) (hn : slots ≤ nn) : Go p e below s P kk nn (T.setTop (mkF m pc Ls (w :: rest))) :=
  Go.fin X hlk (fun h => by rw [hret] at h; cases h) (fun fs hr => retOut X hx hret hna (Or.inr (Or.inr (Or.inr (Or.inr ⟨rfl, ht, hw⟩)))) hd hr) hP hk hn
theorem Go.ret0 (X : Stand p l e R s m args below meth c T locs cells slots) (hx : p.tables.exec = Jvm.exec) (hlk : meth.locks = false) {pc : Nat} {Ls : Array Slot} (hret : meth.sig.returnType = none)
    (hd : decode c.code pc = .ok (.return_, 1)) (hP : P none T.heap locs) (hk : cells ≤ kk) (hn : slots ≤ nn) : Go p e below s P kk nn (T.setTop (mkF m pc Ls [])) :=
  Go.fin X hlk (fun _ => rfl) (fun fs hr => X.returnOut hx hret hd hr) hP hk hn
theorem own_lsw {tb : Tables} [Ours tb] {e : Env} {below : List Frame} {T target : State} {m : MethodId} {c : Code} {g : JFrame} (h : At T m c below) (hx : tb.exec = Jvm.exec) (hg : g.method = m) {dflt : Int} {prs : Array (Int × Int)} {len : Nat} {o : Int} {pc0 pc' : Nat} (hpc : g.pc = pc0)
    (hd : decode c.code g.pc = .ok (.lookupswitch dflt prs, len)) {i : Int32} {rest : List Value} (hs : g.stack = .int i :: rest) (hord : (prs.toList.zip (prs.toList.drop 1)).all (fun (a, next) => a.1 < next.1) = true) (hoff : lookupswitch.offset prs.toList dflt i.toInt = o)
    (ho : 0 ≤ (pc0 : Int) + o) (hp : ((pc0 : Int) + o).toNat = pc') (hr : Steps tb e below (T.setTop { g with pc := pc', stack := rest }) target) : Steps tb e below (T.setTop g) target := by
  subst hg hpc hp hoff
  jvm_step h [h.top, hx, hd, hs, ho, lookupswitch.wp_chain]
  exact ⟨by simpa using hord, hr⟩
theorem own_eq_i {t : Term} {n : Int32} {first : State} {o : Option Outcome} {idx : List Nat} (h : (Cond.eq t (.int n)).value args first o s idx = some true) : t.eval args first o idx s = some (.int n) := by
  obtain ⟨x, y, e1, e2, k1, k2⟩ := cmp_v (Or.inl h)
  cases (Term.int_eval n).symm.trans e2
  obtain ⟨z, rfl⟩ : ∃ z, x = .int z := k2
  rw [e1, gotT (Cond.eq_ints e1 e2) h]
theorem own_eq_l {t : Term} {n : Int64} {first : State} {o : Option Outcome} {idx : List Nat} (h : (Cond.eq t (.long n)).value args first o s idx = some true) : t.eval args first o idx s = some (.long n) := by
  obtain ⟨x, y, e1, e2, k1, k2⟩ := cmp_v (Or.inl h)
  have e3 : (Term.long n).eval args first o idx s = some (.long n) := rfl
  cases e3.symm.trans e2
  obtain ⟨z, rfl⟩ : ∃ z, x = .long z := k2
  rw [e1, gotT (eq_L e1 e2) h]
theorem own_eq_r {t u : Term} {a : Addr} {first : State} {o : Option Outcome} {idx : List Nat} (hu : u.eval args first o idx s = some (.ref a)) (h : (Cond.eq t u).value args first o s idx = some true) : t.eval args first o idx s = some (.ref a) := by
  obtain ⟨x, y, e1, e2, k1, k2⟩ := cmp_v (Or.inl h)
  cases hu.symm.trans e2
  have k3 : (Value.ref a).isRef = true ∧ x.isRef = true := k2
  rw [e1, gotT (eq_R e1 e2 k3.2 rfl) h]
theorem own_sta_keep {Z : State} {h h' : Heap} {C n d : String} {w : Value} {ws : List Addr} (F : Sta Z h C n d w) (K : Keep h h' ws) (q : ∀ x ∈ ws, ∃ c : Cell, h[x]? = some c ∧ ∀ q, c.vm ≠ .statics q) : Sta Z h' C n d w := by
  obtain ⟨cf, i, k, f, st, cell, h1, h2, h3, h4, h5, h6, h7⟩ := F
  refine ⟨cf, i, k, f, st, cell, h1, h2, h3, h4, K.2.1 st cell h5 (fun hm => ?_), h6, h7⟩
  obtain ⟨c, hc, hq⟩ := q st hm
  cases h5.symm.trans hc
  cases hv : cell.vm with
  | statics r => exact hq r hv
  | _ => rw [hv] at h6; cases h6
end Own
theorem pd_0 : parseMethodDescriptor "()V" = some ⟨[], none⟩ := by decide +kernel
theorem pd_1 : parseMethodDescriptor "(JJ)V" = some ⟨[.long, .long], none⟩ := by decide +kernel
theorem pd_2 : parseMethodDescriptor "(JJ)J" = some ⟨[.long, .long], some .long⟩ := by decide +kernel
theorem pd_3 : parseMethodDescriptor "(J)Z" = some ⟨[.long], some .boolean⟩ := by decide +kernel
def own_max (pa pb : Int64) : Int64 := if pa < pb then pb else pa
def own_min (pa pb : Int64) : Int64 := if pb < pa then pb else pa
def own_in (pf pl pv : Int64) : Int32 := if pv < pf then 0 else if pl < pv then 0 else 1
theorem own_max_y {a b : Int64} (h : ¬ a < b) : own_max a b = a := if_neg h
theorem own_max_n {a b : Int64} (h : a < b) : ¬ own_max a b = a := by
  unfold own_max; rw [if_pos h]; intro h3; rw [h3] at h; exact Int64.lt_irrefl h
theorem own_min_y {a b : Int64} (h : ¬ b < a) : own_min a b = a := if_neg h
theorem own_min_n {a b : Int64} (h : b < a) : ¬ own_min a b = a := by
  unfold own_min; rw [if_pos h]; intro h3; rw [h3] at h; exact Int64.lt_irrefl h
theorem dR_0 : decode jdk_30_method_1_code 0 = .ok (.aload_n 0, 1) := by decide +kernel
theorem dR_1 : decode jdk_30_method_1_code 1 = .ok (.invokespecial 1, 3) := by decide +kernel
theorem dR_4 : decode jdk_30_method_1_code 4 = .ok (.return_, 1) := by decide +kernel
theorem efR (m : MethodId) (x0 : Addr) : entryFrame m #[(.ref x0)] 1 = mkF m 0 #[rv x0] [] := by first | (simp [entryFrame, mkF, argsToLocals, Value.category]; done) | rfl
theorem pn_java_lang_Record : plainName "java/lang/Record" = true := by first | (simp [plainName, overriddenIn]; done) | decide +kernel
def QR (Z : State) (a : Addr) (h0 : Heap) (n0 : Nat) (v : Option Value) (h : Heap) (L : List Loc) : Prop := v = none ∧ Fr n0 L ∧ h = h0
set_option maxRecDepth 65536 in
set_option maxHeartbeats 40000000 in
theorem rmR (l : Launch) (Z : State) (a0 : Array Value) (hw : ∀ d ∈ tables_1, d.before a0 Z = true) (ws : List Jvm.Cond) (a : Addr) (h0 : Heap) (n0 : Nat) :
    MetFree l (⟨"java/lang/Record", "<init>", "()V"⟩ : MethodName) (head1 (Jvm.Cond.code (⟨"java/lang/Record", "<init>", "()V"⟩ : MethodName) jdk_30_method_1_code 1 none :: ws) ({ frames := 1, cells := 0, slots := 0, locals := 12 } : Room)) (fun as' U => as' = #[(.ref a)] ∧ Z.Warmed39 U.vm ∧ U.heap = h0) (fun _ _ _ _ _ => True) (fun _ U o U' => ∃ v L, o = .returned v ∧ QR Z a h0 n0 v U'.heap L ∧ FrameEnd U o U' L ({ frames := 1, cells := 0, slots := 0, locals := 12 } : Room).cells ({ frames := 1, cells := 0, slots := 0, locals := 12 } : Room).slots) := by
  refine MetFree.of_bodySF (plainFor_of_name pn_java_lang_Record) hisR ?_
  intro p e s m args below meth c s₁ Bd hml0 hP hK
  obtain ⟨rfl, hZ, hh⟩ := hP
  have hx := Bd.exec
  have hby := Bd.bytes
  have hml : c.maxLocals = 1 := hml0
  have hown : s.vm.findClass "java/lang/Record" = some m.cls := findClass_of_methodNamed Bd.named
  have hnm := (name_of_methodNamed Bd.named Bd.method).1
  have X0 : Stand p l e ({ frames := 1, cells := 0, slots := 0, locals := 12 } : Room) s m #[(.ref a)] below meth c s₁ [] 0 0 := Stand.of_body Bd
  have e0 : s₁.heap = h0 := by rw [← hh, Bd.state]; rfl
  have N0 := Fr.nil n0
  show Go p e below s (fun v h L => QR Z a h0 n0 v h L) 0 0 _
  refine Go.pull (V := s₁.setTop (mkF m 0 #[rv a] [])) (fun t k => castTop (efR m a) k) ?_
  refine Go.pull (V := s₁.setTop (mkF m 1 #[rv a] [(.ref a)])) (fun t k => XS.aloadN X0.here hx rfl (hb hby dR_0) rfl rfl k) ?_
  obtain ⟨T1, X1, e1, st1⟩ := initO X0 hx hZ hown (hw _ (List.mem_of_getElem? (i := 11) rfl)) (hw _ (List.mem_of_getElem? (i := 12) rfl)) (hw _ (List.mem_of_getElem? (i := 13) rfl)) e0 (g := (mkF m 1 #[rv a] [(.ref a)])) rfl (by rw [hml]; rfl) rfl (hb hby dR_1) (by decide) (W := 0) (by show 2 * 0 + _ ≤ _; exact Nat.le_of_eq rfl) (by decide)
  refine Go.pull (V := T1.setTop (mkF m 4 #[rv a] [])) st1 ?_
  exact Go.ret0 X1 hx Bd.notSynchronized Bd.returns (hb hby dR_4) ⟨rfl, N0, e1⟩ (by decide) (by decide)
theorem dI_0 : decode prog_3_method_1_code 0 = .ok (.aload_n 0, 1) := by decide +kernel
theorem dI_1 : decode prog_3_method_1_code 1 = .ok (.invokespecial 1, 3) := by decide +kernel
theorem dI_4 : decode prog_3_method_1_code 4 = .ok (.aload_n 0, 1) := by decide +kernel
theorem dI_5 : decode prog_3_method_1_code 5 = .ok (.lload_n 1, 1) := by decide +kernel
theorem dI_6 : decode prog_3_method_1_code 6 = .ok (.putfield 7, 3) := by decide +kernel
theorem dI_9 : decode prog_3_method_1_code 9 = .ok (.aload_n 0, 1) := by decide +kernel
theorem dI_10 : decode prog_3_method_1_code 10 = .ok (.lload_n 3, 1) := by decide +kernel
theorem dI_11 : decode prog_3_method_1_code 11 = .ok (.putfield 13, 3) := by decide +kernel
theorem dI_14 : decode prog_3_method_1_code 14 = .ok (.return_, 1) := by decide +kernel
theorem efI (m : MethodId) (x0 : Addr) (x1 : Int64) (x2 : Int64) : entryFrame m #[(.ref x0), (.long x1), (.long x2)] 5 = mkF m 0 #[rv x0, .val (.long x1), .second, .val (.long x2), .second] [] := by first | (simp [entryFrame, mkF, argsToLocals, Value.category]; done) | rfl
theorem pn_com_example_salish_salish_LongRange : plainName "com/example/salish/salish/LongRange" = true := by first | (simp [plainName, overriddenIn]; done) | decide +kernel
def QI (Z : State) (a : Addr) (pf : Int64) (pl : Int64) (ua : Value) (ub : Value) (h0 : Heap) (n0 : Nat) (v : Option Value) (h : Heap) (L : List Loc) : Prop := v = none ∧ Fr n0 L ∧ Keep h0 h [a] ∧ Fld Z h a "com/example/salish/salish/LongRange" "least" "J" (.long pf) ∧ Fld Z h a "com/example/salish/salish/LongRange" "most" "J" (.long pl)
set_option maxRecDepth 65536 in
set_option maxHeartbeats 40000000 in
theorem rmI (l : Launch) (Z : State) (a0 : Array Value) (hw : ∀ d ∈ tables_1, d.before a0 Z = true) (ws : List Jvm.Cond) (a : Addr) (pf : Int64) (pl : Int64) (ua : Value) (ub : Value) (h0 : Heap) (n0 : Nat) (g_a : n0 ≤ a) (Ea : Exa Z h0 a "com/example/salish/salish/LongRange") (Fu : Fld Z h0 a "com/example/salish/salish/LongRange" "least" "J" ua) (Fv : Fld Z h0 a "com/example/salish/salish/LongRange" "most" "J" ub) :
    MetFree l (⟨"com/example/salish/salish/LongRange", "<init>", "(JJ)V"⟩ : MethodName) (head1 (Jvm.Cond.code (⟨"com/example/salish/salish/LongRange", "<init>", "(JJ)V"⟩ : MethodName) prog_3_method_1_code 5 none :: ws) ({ frames := 2, cells := 0, slots := 0, locals := 24 } : Room)) (fun as' U => as' = #[(.ref a), (.long pf), (.long pl)] ∧ Z.Warmed39 U.vm ∧ U.heap = h0) (fun _ _ _ _ _ => True) (fun _ U o U' => ∃ v L, o = .returned v ∧ QI Z a pf pl ua ub h0 n0 v U'.heap L ∧ FrameEnd U o U' L ({ frames := 2, cells := 0, slots := 0, locals := 24 } : Room).cells ({ frames := 2, cells := 0, slots := 0, locals := 24 } : Room).slots) := by
  refine MetFree.of_bodySF (plainFor_of_name pn_com_example_salish_salish_LongRange) hisR ?_
  intro p e s m args below meth c s₁ Bd hml0 hP hK
  obtain ⟨rfl, hZ, hh⟩ := hP
  have hx := Bd.exec
  have hby := Bd.bytes
  have hml : c.maxLocals = 5 := hml0
  have hown : s.vm.findClass "com/example/salish/salish/LongRange" = some m.cls := findClass_of_methodNamed Bd.named
  have hnm := (name_of_methodNamed Bd.named Bd.method).1
  have X0 : Stand p l e ({ frames := 2, cells := 0, slots := 0, locals := 24 } : Room) s m #[(.ref a), (.long pf), (.long pl)] below meth c s₁ [] 0 0 := Stand.of_body Bd
  have e0 : s₁.heap = h0 := by rw [← hh, Bd.state]; rfl
  have N0 := Fr.nil n0
  show Go p e below s (fun v h L => QI Z a pf pl ua ub h0 n0 v h L) 0 0 _
  refine Go.pull (V := s₁.setTop (mkF m 0 #[rv a, .val (.long pf), .second, .val (.long pl), .second] [])) (fun t k => castTop (efI m a pf pl) k) ?_
  refine Go.pull (V := s₁.setTop (mkF m 1 #[rv a, .val (.long pf), .second, .val (.long pl), .second] [(.ref a)])) (fun t k => XS.aloadN X0.here hx rfl (hb hby dI_0) rfl rfl k) ?_
  obtain ⟨_, _, ⟨T1, L1, k1, n1⟩, -, X1, ⟨Lc1, hQ1, l1, y1, z1⟩, st1⟩ := X0.specialBack hx (y := (⟨"java/lang/Record", "<init>", "()V"⟩ : MethodName)) rfl hown (mvT hZ (hw _ (List.mem_of_getElem? (i := 6) rfl))) (mvT hZ (hw _ (List.mem_of_getElem? (i := 7) rfl))) (mvT hZ (hw _ (List.mem_of_getElem? (i := 10) rfl))) (by decide) (backOf (W := 0) (rmR l Z a0 hw [] a h0 n0 ) hZ (hw _ (List.mem_of_getElem? (i := 10) rfl)) (hw _ (List.mem_of_getElem? (i := 9) rfl)) (by decide) (by decide)) (g := (mkF m 1 #[rv a, .val (.long pf), .second, .val (.long pl), .second] [(.ref a)])) rfl (by rw [hml]; rfl) (Steps.refl _) (a := a) (argsL := []) (rest := []) (lenOf pd_0 rfl) rfl (by show 2 * 0 + _ ≤ _; exact Nat.le_of_eq rfl) (hb hby dI_1) (fun _ _ => ⟨rfl, e0, (by decide : 0 + 0 ≤ _), (by decide : 0 + 0 ≤ _)⟩)
  dsimp only [Pt.U, Pt.locs, Pt.cells, Pt.slots] at X1 l1 y1 z1 st1 hQ1
  subst l1 y1 z1
  obtain ⟨rfl, N1q, e1⟩ := hQ1
  have N1 := Fr.app N0 N1q
  refine Go.pull (V := T1.setTop (mkF m 4 #[rv a, .val (.long pf), .second, .val (.long pl), .second] [])) (fun _ k => st1.trans k) ?_
  refine Go.pull (V := T1.setTop (mkF m 5 #[rv a, .val (.long pf), .second, .val (.long pl), .second] [(.ref a)])) (fun t k => XS.aloadN X1.here hx rfl (hb hby dI_4) rfl rfl k) ?_
  refine Go.pull (V := T1.setTop (mkF m 6 #[rv a, .val (.long pf), .second, .val (.long pl), .second] [(.long pf), (.ref a)])) (fun t k => XS.lloadN X1.here hx rfl (hb hby dI_5) rfl  k) ?_
  obtain ⟨T2, h2, X2, e2, W2, st2⟩ := putF X1 hx hZ hown (host := "") (Or.inl (hw _ (List.mem_of_getElem? (i := 14) rfl))) Via.refl e1 Fu Ea (Or.inr ⟨(hw _ (List.mem_of_getElem? (i := 15) rfl)), rfl, hnm⟩) (hw _ (List.mem_of_getElem? (i := 1) rfl)) (ty := .long) (by decide) rfl rfl (g := (mkF m 6 #[rv a, .val (.long pf), .second, .val (.long pl), .second] [(.long pf), (.ref a)])) rfl rfl (hb hby dI_6)
  have Fw2 : Fld Z h2 a "com/example/salish/salish/LongRange" "least" "J" (.long pf) := Fu.same W2
  have K2 : Keep h0 h2 [a] := (Keep.refl h0 [a]).wr W2 (Or.inl (List.mem_of_getElem? (i := 0) rfl))
  have N2 := Fr.snoc X2 N1 g_a
  refine Go.pull (V := T2.setTop (mkF m 9 #[rv a, .val (.long pf), .second, .val (.long pl), .second] [])) st2 ?_
  refine Go.pull (V := T2.setTop (mkF m 10 #[rv a, .val (.long pf), .second, .val (.long pl), .second] [(.ref a)])) (fun t k => XS.aloadN X2.here hx rfl (hb hby dI_9) rfl rfl k) ?_
  refine Go.pull (V := T2.setTop (mkF m 11 #[rv a, .val (.long pf), .second, .val (.long pl), .second] [(.long pl), (.ref a)])) (fun t k => XS.lloadN X2.here hx rfl (hb hby dI_10) rfl  k) ?_
  obtain ⟨T3, h3, X3, e3, W3, st3⟩ := putF X2 hx hZ hown (host := "") (Or.inl (hw _ (List.mem_of_getElem? (i := 16) rfl))) Via.refl e2 (Fv.other W2 (Or.inr (slot_ne (Or.inr (hw _ (List.mem_of_getElem? (i := 17) rfl))) (Or.inr (hw _ (List.mem_of_getElem? (i := 15) rfl))) (by decide) (t := .long) (t' := .long) (by decide) (by decide)))) (Ea.wr W2) (Or.inr ⟨(hw _ (List.mem_of_getElem? (i := 17) rfl)), rfl, hnm⟩) (hw _ (List.mem_of_getElem? (i := 1) rfl)) (ty := .long) (by decide) rfl rfl (g := (mkF m 11 #[rv a, .val (.long pf), .second, .val (.long pl), .second] [(.long pl), (.ref a)])) rfl rfl (hb hby dI_11)
  have Fw3 : Fld Z h3 a "com/example/salish/salish/LongRange" "most" "J" (.long pl) := (Fv.other W2 (Or.inr (slot_ne (Or.inr (hw _ (List.mem_of_getElem? (i := 17) rfl))) (Or.inr (hw _ (List.mem_of_getElem? (i := 15) rfl))) (by decide) (t := .long) (t' := .long) (by decide) (by decide)))).same W3
  have K3 : Keep h0 h3 [a] := K2.wr W3 (Or.inl (List.mem_of_getElem? (i := 0) rfl))
  have N3 := Fr.snoc X3 N2 g_a
  refine Go.pull (V := T3.setTop (mkF m 14 #[rv a, .val (.long pf), .second, .val (.long pl), .second] [])) st3 ?_
  exact Go.ret0 X3 hx Bd.notSynchronized Bd.returns (hb hby dI_14) (by rw [e3]; exact ⟨rfl, N3, K3, (Fw2.other W3 (Or.inr (slot_ne (Or.inr (hw _ (List.mem_of_getElem? (i := 15) rfl))) (Or.inr (hw _ (List.mem_of_getElem? (i := 17) rfl))) (by decide) (t := .long) (t' := .long) (by decide) (by decide)))), Fw3⟩) (by decide) (by decide)
theorem dA_0 : decode prog_3_method_3_code 0 = .ok (.aload_n 0, 1) := by decide +kernel
theorem dA_1 : decode prog_3_method_3_code 1 = .ok (.getfield 7, 3) := by decide +kernel
theorem dA_4 : decode prog_3_method_3_code 4 = .ok (.lload_n 1, 1) := by decide +kernel
theorem dA_5 : decode prog_3_method_3_code 5 = .ok (.lcmp, 1) := by decide +kernel
theorem dA_6 : decode prog_3_method_3_code 6 = .ok (.ifCond .gt 16, 3) := by decide +kernel
theorem dA_9 : decode prog_3_method_3_code 9 = .ok (.lload_n 1, 1) := by decide +kernel
theorem dA_10 : decode prog_3_method_3_code 10 = .ok (.aload_n 0, 1) := by decide +kernel
theorem dA_11 : decode prog_3_method_3_code 11 = .ok (.getfield 13, 3) := by decide +kernel
theorem dA_14 : decode prog_3_method_3_code 14 = .ok (.lcmp, 1) := by decide +kernel
theorem dA_15 : decode prog_3_method_3_code 15 = .ok (.ifCond .gt 7, 3) := by decide +kernel
theorem dA_18 : decode prog_3_method_3_code 18 = .ok (.iconst 1, 1) := by decide +kernel
theorem dA_19 : decode prog_3_method_3_code 19 = .ok (.goto 4, 3) := by decide +kernel
theorem dA_22 : decode prog_3_method_3_code 22 = .ok (.iconst 0, 1) := by decide +kernel
theorem dA_23 : decode prog_3_method_3_code 23 = .ok (.ireturn, 1) := by decide +kernel
theorem efA (m : MethodId) (x0 : Addr) (x1 : Int64) : entryFrame m #[(.ref x0), (.long x1)] 3 = mkF m 0 #[rv x0, .val (.long x1), .second] [] := by first | (simp [entryFrame, mkF, argsToLocals, Value.category]; done) | rfl
def QA (Z : State) (a : Addr) (pv : Int64) (pf : Int64) (pl : Int64) (h0 : Heap) (n0 : Nat) (v : Option Value) (h : Heap) (L : List Loc) : Prop := v = some (.int (own_in pf pl pv)) ∧ Fr n0 L ∧ h = h0
set_option maxRecDepth 65536 in
set_option maxHeartbeats 40000000 in
theorem rmA (l : Launch) (Z : State) (a0 : Array Value) (hw : ∀ d ∈ tables_1, d.before a0 Z = true) (ws : List Jvm.Cond) (a : Addr) (pv : Int64) (pf : Int64) (pl : Int64) (h0 : Heap) (n0 : Nat) (Fp : Fld Z h0 a "com/example/salish/salish/LongRange" "least" "J" (.long pf)) (Fq : Fld Z h0 a "com/example/salish/salish/LongRange" "most" "J" (.long pl)) :
    MetFree l (⟨"com/example/salish/salish/LongRange", "contains", "(J)Z"⟩ : MethodName) (head1 (Jvm.Cond.code (⟨"com/example/salish/salish/LongRange", "contains", "(J)Z"⟩ : MethodName) prog_3_method_3_code 3 (some .boolean) :: ws) ({ frames := 0, cells := 0, slots := 0, locals := 0 } : Room)) (fun as' U => as' = #[(.ref a), (.long pv)] ∧ Z.Warmed39 U.vm ∧ U.heap = h0) (fun _ _ _ _ _ => True) (fun _ U o U' => ∃ v L, o = .returned v ∧ QA Z a pv pf pl h0 n0 v U'.heap L ∧ FrameEnd U o U' L ({ frames := 0, cells := 0, slots := 0, locals := 0 } : Room).cells ({ frames := 0, cells := 0, slots := 0, locals := 0 } : Room).slots) := by
  refine MetFree.of_bodySF (plainFor_of_name pn_com_example_salish_salish_LongRange) hisR ?_
  intro p e s m args below meth c s₁ Bd hml0 hP hK
  obtain ⟨rfl, hZ, hh⟩ := hP
  have hx := Bd.exec
  have hby := Bd.bytes
  have hml : c.maxLocals = 3 := hml0
  have hown : s.vm.findClass "com/example/salish/salish/LongRange" = some m.cls := findClass_of_methodNamed Bd.named
  have hnm := (name_of_methodNamed Bd.named Bd.method).1
  have X0 : Stand p l e ({ frames := 0, cells := 0, slots := 0, locals := 0 } : Room) s m #[(.ref a), (.long pv)] below meth c s₁ [] 0 0 := Stand.of_body Bd
  have e0 : s₁.heap = h0 := by rw [← hh, Bd.state]; rfl
  have N0 := Fr.nil n0
  show Go p e below s (fun v h L => QA Z a pv pf pl h0 n0 v h L) 0 0 _
  refine Go.pull (V := s₁.setTop (mkF m 0 #[rv a, .val (.long pv), .second] [])) (fun t k => castTop (efA m a pv) k) ?_
  refine Go.pull (V := s₁.setTop (mkF m 1 #[rv a, .val (.long pv), .second] [(.ref a)])) (fun t k => XS.aloadN X0.here hx rfl (hb hby dA_0) rfl rfl k) ?_
  obtain ⟨T1, X1, e1, st1⟩ := getF X0 hx hZ hown (host := "") (Or.inl (hw _ (List.mem_of_getElem? (i := 14) rfl))) Via.refl e0 Fp (g := (mkF m 1 #[rv a, .val (.long pv), .second] [(.ref a)])) rfl rfl (hb hby dA_1)
  refine Go.pull (V := T1.setTop (mkF m 4 #[rv a, .val (.long pv), .second] [(.long pf)])) st1 ?_
  refine Go.pull (V := T1.setTop (mkF m 5 #[rv a, .val (.long pv), .second] [(.long pv), (.long pf)])) (fun t k => XS.lloadN X1.here hx rfl (hb hby dA_4) rfl  k) ?_
  refine Go.pull (V := T1.setTop (mkF m 6 #[rv a, .val (.long pv), .second] [(.int (XT.cmpL pf pv))])) (fun t k => XT.lcmp X1.here hx rfl (hb hby dA_5) rfl k) ?_
  by_cases hc6_2 : pv < pf
  · skip
    refine Go.pull (V := T1.setTop (mkF m 22 #[rv a, .val (.long pv), .second] [])) (fun t k => XS.ifYes X1.here hx rfl (pc0 := 6) (pc' := 22) rfl (hb hby dA_6) rfl (XT.ll_gt_t hc6_2) (by decide) (by decide) k) ?_
    refine Go.pull (V := T1.setTop (mkF m 23 #[rv a, .val (.long pv), .second] [(.int 0)])) (fun t k => XS.iconst X1.here hx rfl (hb hby dA_22) k) ?_
    exact Go.retN X1 hx Bd.notSynchronized (t := .boolean) Bd.returns (by simp) (hb hby dA_23) ⟨(by rw [own_in, if_pos hc6_2] <;> rfl), N0, e1⟩ (by decide) (by decide)
  · skip
    refine Go.pull (V := T1.setTop (mkF m 9 #[rv a, .val (.long pv), .second] [])) (fun t k => XS.ifNo X1.here hx rfl (hb hby dA_6) rfl (XT.ll_gt_f hc6_2) k) ?_
    refine Go.pull (V := T1.setTop (mkF m 10 #[rv a, .val (.long pv), .second] [(.long pv)])) (fun t k => XS.lloadN X1.here hx rfl (hb hby dA_9) rfl  k) ?_
    refine Go.pull (V := T1.setTop (mkF m 11 #[rv a, .val (.long pv), .second] [(.ref a), (.long pv)])) (fun t k => XS.aloadN X1.here hx rfl (hb hby dA_10) rfl rfl k) ?_
    obtain ⟨T3, X3, e3, st3⟩ := getF X1 hx hZ hown (host := "") (Or.inl (hw _ (List.mem_of_getElem? (i := 16) rfl))) Via.refl e1 Fq (g := (mkF m 11 #[rv a, .val (.long pv), .second] [(.ref a), (.long pv)])) rfl rfl (hb hby dA_11)
    refine Go.pull (V := T3.setTop (mkF m 14 #[rv a, .val (.long pv), .second] [(.long pl), (.long pv)])) st3 ?_
    refine Go.pull (V := T3.setTop (mkF m 15 #[rv a, .val (.long pv), .second] [(.int (XT.cmpL pv pl))])) (fun t k => XT.lcmp X3.here hx rfl (hb hby dA_14) rfl k) ?_
    by_cases hc15_4 : pl < pv
    · skip
      refine Go.pull (V := T3.setTop (mkF m 22 #[rv a, .val (.long pv), .second] [])) (fun t k => XS.ifYes X3.here hx rfl (pc0 := 15) (pc' := 22) rfl (hb hby dA_15) rfl (XT.ll_gt_t hc15_4) (by decide) (by decide) k) ?_
      refine Go.pull (V := T3.setTop (mkF m 23 #[rv a, .val (.long pv), .second] [(.int 0)])) (fun t k => XS.iconst X3.here hx rfl (hb hby dA_22) k) ?_
      exact Go.retN X3 hx Bd.notSynchronized (t := .boolean) Bd.returns (by simp) (hb hby dA_23) ⟨(by rw [own_in, if_neg hc6_2, if_pos hc15_4] <;> rfl), N0, e3⟩ (by decide) (by decide)
    · skip
      refine Go.pull (V := T3.setTop (mkF m 18 #[rv a, .val (.long pv), .second] [])) (fun t k => XS.ifNo X3.here hx rfl (hb hby dA_15) rfl (XT.ll_gt_f hc15_4) k) ?_
      refine Go.pull (V := T3.setTop (mkF m 19 #[rv a, .val (.long pv), .second] [(.int 1)])) (fun t k => XS.iconst X3.here hx rfl (hb hby dA_18) k) ?_
      refine Go.pull (V := T3.setTop (mkF m 23 #[rv a, .val (.long pv), .second] [(.int 1)])) (fun t k => XS.goto X3.here hx rfl (pc0 := 19) (pc' := 23) rfl (hb hby dA_19) (by decide) (by decide) k) ?_
      exact Go.retN X3 hx Bd.notSynchronized (t := .boolean) Bd.returns (by simp) (hb hby dA_23) ⟨(by rw [own_in, if_neg hc6_2, if_neg hc15_4] <;> rfl), N0, e3⟩ (by decide) (by decide)
theorem dY_0 : decode jdk_29_method_70_code 0 = .ok (.lload_n 0, 1) := by decide +kernel
theorem dY_1 : decode jdk_29_method_70_code 1 = .ok (.lload_n 2, 1) := by decide +kernel
theorem dY_2 : decode jdk_29_method_70_code 2 = .ok (.lcmp, 1) := by decide +kernel
theorem dY_3 : decode jdk_29_method_70_code 3 = .ok (.ifCond .gt 7, 3) := by decide +kernel
theorem dY_6 : decode jdk_29_method_70_code 6 = .ok (.lload_n 0, 1) := by decide +kernel
theorem dY_7 : decode jdk_29_method_70_code 7 = .ok (.goto 4, 3) := by decide +kernel
theorem dY_10 : decode jdk_29_method_70_code 10 = .ok (.lload_n 2, 1) := by decide +kernel
theorem dY_11 : decode jdk_29_method_70_code 11 = .ok (.lreturn, 1) := by decide +kernel
theorem efY (m : MethodId) (x0 : Int64) (x1 : Int64) : entryFrame m #[(.long x0), (.long x1)] 4 = mkF m 0 #[.val (.long x0), .second, .val (.long x1), .second] [] := by first | (simp [entryFrame, mkF, argsToLocals, Value.category]; done) | rfl
def QY (Z : State) (pa : Int64) (pb : Int64) (h0 : Heap) (n0 : Nat) (v : Option Value) (h : Heap) (L : List Loc) : Prop := v = some (.long (own_min pa pb)) ∧ Fr n0 L ∧ h = h0
set_option maxRecDepth 65536 in
set_option maxHeartbeats 40000000 in
theorem rmY (l : Launch) (Z : State) (a0 : Array Value) (hw : ∀ d ∈ tables_1, d.before a0 Z = true) (ws : List Jvm.Cond) (pa : Int64) (pb : Int64) (h0 : Heap) (n0 : Nat) :
    MetFree l (⟨"java/lang/Math", "min", "(JJ)J"⟩ : MethodName) (head1 (Jvm.Cond.code (⟨"java/lang/Math", "min", "(JJ)J"⟩ : MethodName) jdk_29_method_70_code 4 (some .long) :: ws) ({ frames := 0, cells := 0, slots := 0, locals := 0 } : Room)) (fun as' U => as' = #[(.long pa), (.long pb)] ∧ Z.Warmed39 U.vm ∧ U.heap = h0) (fun _ _ _ _ _ => True) (fun _ U o U' => ∃ v L, o = .returned v ∧ QY Z pa pb h0 n0 v U'.heap L ∧ FrameEnd U o U' L ({ frames := 0, cells := 0, slots := 0, locals := 0 } : Room).cells ({ frames := 0, cells := 0, slots := 0, locals := 0 } : Room).slots) := by
  refine MetFree.of_bodySF (Jvm.Free.JP.mathPlain rfl (by decide +kernel)) hisR ?_
  intro p e s m args below meth c s₁ Bd hml0 hP hK
  obtain ⟨rfl, hZ, hh⟩ := hP
  have hx := Bd.exec
  have hby := Bd.bytes
  have hml : c.maxLocals = 4 := hml0
  have hown : s.vm.findClass "java/lang/Math" = some m.cls := findClass_of_methodNamed Bd.named
  have hnm := (name_of_methodNamed Bd.named Bd.method).1
  have X0 : Stand p l e ({ frames := 0, cells := 0, slots := 0, locals := 0 } : Room) s m #[(.long pa), (.long pb)] below meth c s₁ [] 0 0 := Stand.of_body Bd
  have e0 : s₁.heap = h0 := by rw [← hh, Bd.state]; rfl
  have N0 := Fr.nil n0
  show Go p e below s (fun v h L => QY Z pa pb h0 n0 v h L) 0 0 _
  refine Go.pull (V := s₁.setTop (mkF m 0 #[.val (.long pa), .second, .val (.long pb), .second] [])) (fun t k => castTop (efY m pa pb) k) ?_
  refine Go.pull (V := s₁.setTop (mkF m 1 #[.val (.long pa), .second, .val (.long pb), .second] [(.long pa)])) (fun t k => XS.lloadN X0.here hx rfl (hb hby dY_0) rfl  k) ?_
  refine Go.pull (V := s₁.setTop (mkF m 2 #[.val (.long pa), .second, .val (.long pb), .second] [(.long pb), (.long pa)])) (fun t k => XS.lloadN X0.here hx rfl (hb hby dY_1) rfl  k) ?_
  refine Go.pull (V := s₁.setTop (mkF m 3 #[.val (.long pa), .second, .val (.long pb), .second] [(.int (XT.cmpL pa pb))])) (fun t k => XT.lcmp X0.here hx rfl (hb hby dY_2) rfl k) ?_
  by_cases hc3_1 : pb < pa
  · skip
    refine Go.pull (V := s₁.setTop (mkF m 10 #[.val (.long pa), .second, .val (.long pb), .second] [])) (fun t k => XS.ifYes X0.here hx rfl (pc0 := 3) (pc' := 10) rfl (hb hby dY_3) rfl (XT.ll_gt_t hc3_1) (by decide) (by decide) k) ?_
    refine Go.pull (V := s₁.setTop (mkF m 11 #[.val (.long pa), .second, .val (.long pb), .second] [(.long pb)])) (fun t k => XS.lloadN X0.here hx rfl (hb hby dY_10) rfl  k) ?_
    exact Go.retJ X0 hx Bd.notSynchronized Bd.returns (hb hby dY_11) ⟨(by rw [own_min, if_pos hc3_1] <;> rfl), N0, e0⟩ (by decide) (by decide)
  · skip
    refine Go.pull (V := s₁.setTop (mkF m 6 #[.val (.long pa), .second, .val (.long pb), .second] [])) (fun t k => XS.ifNo X0.here hx rfl (hb hby dY_3) rfl (XT.ll_gt_f hc3_1) k) ?_
    refine Go.pull (V := s₁.setTop (mkF m 7 #[.val (.long pa), .second, .val (.long pb), .second] [(.long pa)])) (fun t k => XS.lloadN X0.here hx rfl (hb hby dY_6) rfl  k) ?_
    refine Go.pull (V := s₁.setTop (mkF m 11 #[.val (.long pa), .second, .val (.long pb), .second] [(.long pa)])) (fun t k => XS.goto X0.here hx rfl (pc0 := 7) (pc' := 11) rfl (hb hby dY_7) (by decide) (by decide) k) ?_
    exact Go.retJ X0 hx Bd.notSynchronized Bd.returns (hb hby dY_11) ⟨(by rw [own_min, if_neg hc3_1] <;> rfl), N0, e0⟩ (by decide) (by decide)
theorem dX_0 : decode jdk_29_method_66_code 0 = .ok (.lload_n 0, 1) := by decide +kernel
theorem dX_1 : decode jdk_29_method_66_code 1 = .ok (.lload_n 2, 1) := by decide +kernel
theorem dX_2 : decode jdk_29_method_66_code 2 = .ok (.lcmp, 1) := by decide +kernel
theorem dX_3 : decode jdk_29_method_66_code 3 = .ok (.ifCond .lt 7, 3) := by decide +kernel
theorem dX_6 : decode jdk_29_method_66_code 6 = .ok (.lload_n 0, 1) := by decide +kernel
theorem dX_7 : decode jdk_29_method_66_code 7 = .ok (.goto 4, 3) := by decide +kernel
theorem dX_10 : decode jdk_29_method_66_code 10 = .ok (.lload_n 2, 1) := by decide +kernel
theorem dX_11 : decode jdk_29_method_66_code 11 = .ok (.lreturn, 1) := by decide +kernel
theorem efX (m : MethodId) (x0 : Int64) (x1 : Int64) : entryFrame m #[(.long x0), (.long x1)] 4 = mkF m 0 #[.val (.long x0), .second, .val (.long x1), .second] [] := by first | (simp [entryFrame, mkF, argsToLocals, Value.category]; done) | rfl
def QX (Z : State) (pa : Int64) (pb : Int64) (h0 : Heap) (n0 : Nat) (v : Option Value) (h : Heap) (L : List Loc) : Prop := v = some (.long (own_max pa pb)) ∧ Fr n0 L ∧ h = h0
set_option maxRecDepth 65536 in
set_option maxHeartbeats 40000000 in
theorem rmX (l : Launch) (Z : State) (a0 : Array Value) (hw : ∀ d ∈ tables_1, d.before a0 Z = true) (ws : List Jvm.Cond) (pa : Int64) (pb : Int64) (h0 : Heap) (n0 : Nat) :
    MetFree l (⟨"java/lang/Math", "max", "(JJ)J"⟩ : MethodName) (head1 (Jvm.Cond.code (⟨"java/lang/Math", "max", "(JJ)J"⟩ : MethodName) jdk_29_method_66_code 4 (some .long) :: ws) ({ frames := 0, cells := 0, slots := 0, locals := 0 } : Room)) (fun as' U => as' = #[(.long pa), (.long pb)] ∧ Z.Warmed39 U.vm ∧ U.heap = h0) (fun _ _ _ _ _ => True) (fun _ U o U' => ∃ v L, o = .returned v ∧ QX Z pa pb h0 n0 v U'.heap L ∧ FrameEnd U o U' L ({ frames := 0, cells := 0, slots := 0, locals := 0 } : Room).cells ({ frames := 0, cells := 0, slots := 0, locals := 0 } : Room).slots) := by
  refine MetFree.of_bodySF (Jvm.Free.JP.mathPlain rfl (by decide +kernel)) hisR ?_
  intro p e s m args below meth c s₁ Bd hml0 hP hK
  obtain ⟨rfl, hZ, hh⟩ := hP
  have hx := Bd.exec
  have hby := Bd.bytes
  have hml : c.maxLocals = 4 := hml0
  have hown : s.vm.findClass "java/lang/Math" = some m.cls := findClass_of_methodNamed Bd.named
  have hnm := (name_of_methodNamed Bd.named Bd.method).1
  have X0 : Stand p l e ({ frames := 0, cells := 0, slots := 0, locals := 0 } : Room) s m #[(.long pa), (.long pb)] below meth c s₁ [] 0 0 := Stand.of_body Bd
  have e0 : s₁.heap = h0 := by rw [← hh, Bd.state]; rfl
  have N0 := Fr.nil n0
  show Go p e below s (fun v h L => QX Z pa pb h0 n0 v h L) 0 0 _
  refine Go.pull (V := s₁.setTop (mkF m 0 #[.val (.long pa), .second, .val (.long pb), .second] [])) (fun t k => castTop (efX m pa pb) k) ?_
  refine Go.pull (V := s₁.setTop (mkF m 1 #[.val (.long pa), .second, .val (.long pb), .second] [(.long pa)])) (fun t k => XS.lloadN X0.here hx rfl (hb hby dX_0) rfl  k) ?_
  refine Go.pull (V := s₁.setTop (mkF m 2 #[.val (.long pa), .second, .val (.long pb), .second] [(.long pb), (.long pa)])) (fun t k => XS.lloadN X0.here hx rfl (hb hby dX_1) rfl  k) ?_
  refine Go.pull (V := s₁.setTop (mkF m 3 #[.val (.long pa), .second, .val (.long pb), .second] [(.int (XT.cmpL pa pb))])) (fun t k => XT.lcmp X0.here hx rfl (hb hby dX_2) rfl k) ?_
  by_cases hc3_1 : pa < pb
  · skip
    refine Go.pull (V := s₁.setTop (mkF m 10 #[.val (.long pa), .second, .val (.long pb), .second] [])) (fun t k => XS.ifYes X0.here hx rfl (pc0 := 3) (pc' := 10) rfl (hb hby dX_3) rfl (XT.ll_lt_t hc3_1) (by decide) (by decide) k) ?_
    refine Go.pull (V := s₁.setTop (mkF m 11 #[.val (.long pa), .second, .val (.long pb), .second] [(.long pb)])) (fun t k => XS.lloadN X0.here hx rfl (hb hby dX_10) rfl  k) ?_
    exact Go.retJ X0 hx Bd.notSynchronized Bd.returns (hb hby dX_11) ⟨(by rw [own_max, if_pos hc3_1] <;> rfl), N0, e0⟩ (by decide) (by decide)
  · skip
    refine Go.pull (V := s₁.setTop (mkF m 6 #[.val (.long pa), .second, .val (.long pb), .second] [])) (fun t k => XS.ifNo X0.here hx rfl (hb hby dX_3) rfl (XT.ll_lt_f hc3_1) k) ?_
    refine Go.pull (V := s₁.setTop (mkF m 7 #[.val (.long pa), .second, .val (.long pb), .second] [(.long pa)])) (fun t k => XS.lloadN X0.here hx rfl (hb hby dX_6) rfl  k) ?_
    refine Go.pull (V := s₁.setTop (mkF m 11 #[.val (.long pa), .second, .val (.long pb), .second] [(.long pa)])) (fun t k => XS.goto X0.here hx rfl (pc0 := 7) (pc' := 11) rfl (hb hby dX_7) (by decide) (by decide) k) ?_
    exact Go.retJ X0 hx Bd.notSynchronized Bd.returns (hb hby dX_11) ⟨(by rw [own_max, if_neg hc3_1] <;> rfl), N0, e0⟩ (by decide) (by decide)
theorem ef0 (m : MethodId) (x0 : Int64) (x1 : Int64) (x2 : Int64) (x3 : Int32) : entryFrame m #[(.long x0), (.long x1), (.long x2), (.int x3)] maxLocals = mkF m 0 #[.val (.long x0), .second, .val (.long x1), .second, .val (.long x2), .second, iv x3, .unset, .unset, .unset, .unset, .unset, .unset, .unset, .unset, .unset, .unset, .unset] [] := by first | (simp [entryFrame, mkF, argsToLocals, Value.category, maxLocals]; done) | rfl
theorem pn_com_example_salish_salish_LongRangeContainsPinLaw : plainName "com/example/salish/salish/LongRangeContainsPinLaw" = true := by first | (simp [plainName, overriddenIn]; done) | decide +kernel
def Q0 (Z : State) (pa : Int64) (pb : Int64) (pc' : Int64) (pk : Int32) (h0 : Heap) (n0 : Nat) (v : Option Value) (h : Heap) (L : List Loc) : Prop := v = some (.int 1) ∧ Fr n0 L
set_option maxRecDepth 65536 in
set_option maxHeartbeats 40000000 in
theorem rm0 (l : Launch) (Z : State) (a0 : Array Value) (hw : ∀ d ∈ tables_1, d.before a0 Z = true) (ws : List Jvm.Cond) (pa : Int64) (pb : Int64) (pc' : Int64) (pk : Int32) (h0 : Heap) (n0 : Nat) (Z0 : n0 ≤ h0.size) :
    MetFree l x (head1 (Jvm.Cond.code x code maxLocals ret :: ws) room_1) (fun as' U => as' = #[(.long pa), (.long pb), (.long pc'), (.int pk)] ∧ Z.Warmed39 U.vm ∧ U.heap = h0) (fun _ _ _ _ _ => True) (fun _ U o U' => ∃ v L, o = .returned v ∧ Q0 Z pa pb pc' pk h0 n0 v U'.heap L ∧ FrameEnd U o U' L 16 128) := by
  refine MetFree.of_bodySF (plainFor_of_name pn_com_example_salish_salish_LongRangeContainsPinLaw) hisR ?_
  intro p e s m args below meth c s₁ Bd hml0 hP hK
  obtain ⟨rfl, hZ, hh⟩ := hP
  have hx := Bd.exec
  have hby := Bd.bytes
  have hml : c.maxLocals = 18 := hml0
  have hown : s.vm.findClass "com/example/salish/salish/LongRangeContainsPinLaw" = some m.cls := findClass_of_methodNamed Bd.named
  have hnm := (name_of_methodNamed Bd.named Bd.method).1
  have X0 : Stand p l e room_1 s m #[(.long pa), (.long pb), (.long pc'), (.int pk)] below meth c s₁ [] 0 0 := Stand.of_body Bd
  have e0 : s₁.heap = h0 := by rw [← hh, Bd.state]; rfl
  have N0 := Fr.nil n0
  show Go p e below s (fun v h L => Q0 Z pa pb pc' pk h0 n0 v h L) 16 128 _
  refine Go.pull (V := s₁.setTop (mkF m 0 #[.val (.long pa), .second, .val (.long pb), .second, .val (.long pc'), .second, iv pk, .unset, .unset, .unset, .unset, .unset, .unset, .unset, .unset, .unset, .unset, .unset] [])) (fun t k => castTop (ef0 m pa pb pc' pk) k) ?_
  refine Go.pull (V := s₁.setTop (mkF m 1 #[.val (.long pa), .second, .val (.long pb), .second, .val (.long pc'), .second, iv pk, .unset, .unset, .unset, .unset, .unset, .unset, .unset, .unset, .unset, .unset, .unset] [(.long pa)])) (fun t k => XS.lloadN X0.here hx rfl (hb hby at_0) rfl  k) ?_
  refine Go.pull (V := s₁.setTop (mkF m 3 #[.val (.long pa), .second, .val (.long pb), .second, .val (.long pc'), .second, iv pk, .val (.long pa), .second, .unset, .unset, .unset, .unset, .unset, .unset, .unset, .unset, .unset] [])) (fun t k => XS.lstore X0.here hx rfl (hb hby at_1) rfl (l' := #[.val (.long pa), .second, .val (.long pb), .second, .val (.long pc'), .second, iv pk, .val (.long pa), .second, .unset, .unset, .unset, .unset, .unset, .unset, .unset, .unset, .unset]) rfl k) ?_
  have J84_1 : ∀ (zm : Int64) (zo : Int64) (zp : Int32) (zv : Int64), Go p e below s (fun v h L => Q0 Z pa pb pc' pk h0 n0 v h L) 16 128 (s₁.setTop (mkF m 84 #[.val (.long pa), .second, .val (.long pb), .second, .val (.long pc'), .second, iv pk, .val (.long pa), .second, .val (.long zm), .second, .val (.long zo), .second, iv zp, .val (.long zv), .second, .unset, .unset] [])) := by
    intro zm zo zp zv
    by_cases hp2 : zv < pa
    · skip
      by_cases hp3 : zm < zv
      · skip
        obtain ⟨T4, h4, X4, e4, E4, A4, D4, -, st4⟩ := newO X0 hx hZ hown (hw _ (List.mem_of_getElem? (i := 0) rfl)) (hw _ (List.mem_of_getElem? (i := 1) rfl)) (hw _ (List.mem_of_getElem? (i := 2) rfl)) e0 (g := (mkF m 84 #[.val (.long pa), .second, .val (.long pb), .second, .val (.long pc'), .second, iv pk, .val (.long pa), .second, .val (.long zm), .second, .val (.long zo), .second, iv zp, .val (.long zv), .second, .unset, .unset] [])) rfl (hb hby at_84) (by decide) (by decide)
        obtain ⟨b4, g4⟩ : ∃ z, z = h0.size := ⟨_, rfl⟩
        rw [← g4] at A4 D4 st4
        have sz_b4 : h0.size ≤ b4 := Nat.le_trans ((Keep.refl h0 [])).1 (Nat.le_of_eq g4.symm)
        have g_b4 : n0 ≤ b4 := Nat.le_trans Z0 sz_b4
        have K4 : Keep h0 h4 [] := (Keep.refl h0 []).ext E4
        have F5 : Fld Z h4 b4 "com/example/salish/salish/LongRange" "least" "J" (.long 0) := D4 (Or.inr (hw _ (List.mem_of_getElem? (i := 15) rfl))) (ty := .long) (by decide)
        have F6 : Fld Z h4 b4 "com/example/salish/salish/LongRange" "most" "J" (.long 0) := D4 (Or.inr (hw _ (List.mem_of_getElem? (i := 17) rfl))) (ty := .long) (by decide)
        refine Go.pull (V := T4.setTop (mkF m 87 #[.val (.long pa), .second, .val (.long pb), .second, .val (.long pc'), .second, iv pk, .val (.long pa), .second, .val (.long zm), .second, .val (.long zo), .second, iv zp, .val (.long zv), .second, .unset, .unset] [(.ref b4)])) st4 ?_
        refine Go.pull (V := T4.setTop (mkF m 88 #[.val (.long pa), .second, .val (.long pb), .second, .val (.long pc'), .second, iv pk, .val (.long pa), .second, .val (.long zm), .second, .val (.long zo), .second, iv zp, .val (.long zv), .second, .unset, .unset] [(.ref b4), (.ref b4)])) (fun t k => XS.dup X4.here hx rfl (hb hby at_87) rfl rfl k) ?_
        refine Go.pull (V := T4.setTop (mkF m 90 #[.val (.long pa), .second, .val (.long pb), .second, .val (.long pc'), .second, iv pk, .val (.long pa), .second, .val (.long zm), .second, .val (.long zo), .second, iv zp, .val (.long zv), .second, .unset, .unset] [(.long pa), (.ref b4), (.ref b4)])) (fun t k => XS.lload X4.here hx rfl (hb hby at_88) rfl  k) ?_
        refine Go.pull (V := T4.setTop (mkF m 92 #[.val (.long pa), .second, .val (.long pb), .second, .val (.long pc'), .second, iv pk, .val (.long pa), .second, .val (.long zm), .second, .val (.long zo), .second, iv zp, .val (.long zv), .second, .unset, .unset] [(.long zm), (.long pa), (.ref b4), (.ref b4)])) (fun t k => XS.lload X4.here hx rfl (hb hby at_90) rfl  k) ?_
        obtain ⟨_, _, ⟨T7, L7, k7, n7⟩, -, X7, ⟨Lc7, hQ7, l7, y7, z7⟩, st7⟩ := X4.specialBack hx (y := (⟨"com/example/salish/salish/LongRange", "<init>", "(JJ)V"⟩ : MethodName)) rfl hown (mvT hZ (hw _ (List.mem_of_getElem? (i := 3) rfl))) (mvT hZ (hw _ (List.mem_of_getElem? (i := 4) rfl))) (mvT hZ (hw _ (List.mem_of_getElem? (i := 5) rfl))) (by decide) (backOf (W := 1) (rmI l Z a0 hw [] b4 pa zm (.long 0) (.long 0) h4 n0 (g_b4) A4 F5 F6) hZ (hw _ (List.mem_of_getElem? (i := 5) rfl)) (hw _ (List.mem_of_getElem? (i := 2) rfl)) (by decide) (by decide)) (g := (mkF m 92 #[.val (.long pa), .second, .val (.long pb), .second, .val (.long pc'), .second, iv pk, .val (.long pa), .second, .val (.long zm), .second, .val (.long zo), .second, iv zp, .val (.long zv), .second, .unset, .unset] [(.long zm), (.long pa), (.ref b4), (.ref b4)])) rfl (by rw [hml]; rfl) (Steps.refl _) (a := b4) (argsL := [(.long pa), (.long zm)]) (rest := [(.ref b4)]) (lenOf pd_1 rfl) rfl (by show 2 * 0 + _ ≤ _; exact Nat.le_of_eq rfl) (hb hby at_92) (fun _ _ => ⟨rfl, e4, (by decide : 1 + 0 ≤ _), (by decide : 2 + 0 ≤ _)⟩)
        dsimp only [Pt.U, Pt.locs, Pt.cells, Pt.slots] at X7 l7 y7 z7 st7 hQ7
        subst l7 y7 z7
        obtain ⟨rfl, N7q, Kc7, Fc7_0, Fc7_1⟩ := hQ7
        have K7 : Keep h0 T7.heap [] := K4.trans Kc7 ((allS (Or.inr sz_b4) all0))
        have N7 := Fr.app N0 N7q
        refine Go.pull (V := T7.setTop (mkF m 95 #[.val (.long pa), .second, .val (.long pb), .second, .val (.long pc'), .second, iv pk, .val (.long pa), .second, .val (.long zm), .second, .val (.long zo), .second, iv zp, .val (.long zv), .second, .unset, .unset] [(.ref b4)])) (fun _ k => st7.trans k) ?_
        refine Go.pull (V := T7.setTop (mkF m 97 #[.val (.long pa), .second, .val (.long pb), .second, .val (.long pc'), .second, iv pk, .val (.long pa), .second, .val (.long zm), .second, .val (.long zo), .second, iv zp, .val (.long zv), .second, rv b4, .unset] [])) (fun t k => XS.astore X7.here hx rfl (hb hby at_95) rfl rfl (l' := #[.val (.long pa), .second, .val (.long pb), .second, .val (.long pc'), .second, iv pk, .val (.long pa), .second, .val (.long zm), .second, .val (.long zo), .second, iv zp, .val (.long zv), .second, rv b4, .unset]) rfl k) ?_
        refine Go.pull (V := T7.setTop (mkF m 99 #[.val (.long pa), .second, .val (.long pb), .second, .val (.long pc'), .second, iv pk, .val (.long pa), .second, .val (.long zm), .second, .val (.long zo), .second, iv zp, .val (.long zv), .second, rv b4, .unset] [(.long zv)])) (fun t k => XS.lload X7.here hx rfl (hb hby at_97) rfl  k) ?_
        refine Go.pull (V := T7.setTop (mkF m 101 #[.val (.long pa), .second, .val (.long pb), .second, .val (.long pc'), .second, iv pk, .val (.long pa), .second, .val (.long zm), .second, .val (.long zo), .second, iv zp, .val (.long zv), .second, rv b4, .unset] [(.long zm), (.long zv)])) (fun t k => XS.lload X7.here hx rfl (hb hby at_99) rfl  k) ?_
        obtain ⟨_, _, ⟨T8, L8, k8, n8⟩, -, X8, ⟨Lc8, hQ8, l8, y8, z8⟩, st8⟩ := Jvm.LawKit.callS X7 hx (y := (⟨"java/lang/Math", "min", "(JJ)J"⟩ : MethodName)) hown (mvT hZ (hw _ (List.mem_of_getElem? (i := 18) rfl))) (mvT hZ (hw _ (List.mem_of_getElem? (i := 19) rfl))) (mvT hZ (hw _ (List.mem_of_getElem? (i := 20) rfl))) (mvT hZ (hw _ (List.mem_of_getElem? (i := 21) rfl))) (by decide) (backOf (W := 0) (rmY l Z a0 hw [] zv zm T7.heap n0 ) hZ (hw _ (List.mem_of_getElem? (i := 21) rfl)) (hw _ (List.mem_of_getElem? (i := 20) rfl)) (by decide) (by decide)) (g := (mkF m 101 #[.val (.long pa), .second, .val (.long pb), .second, .val (.long pc'), .second, iv pk, .val (.long pa), .second, .val (.long zm), .second, .val (.long zo), .second, iv zp, .val (.long zv), .second, rv b4, .unset] [(.long zm), (.long zv)])) rfl (by rw [hml]; rfl) (argsL := [(.long zv), (.long zm)]) (rest := []) (lenOf pd_2 rfl) rfl (by show 2 * 0 + _ ≤ _; exact Nat.le_of_eq rfl) (hb hby at_101) (fun _ _ => ⟨rfl, rfl, (by decide : 1 + 0 ≤ _), (by decide : 2 + 0 ≤ _)⟩)
        dsimp only [Pt.U, Pt.locs, Pt.cells, Pt.slots] at X8 l8 y8 z8 st8 hQ8
        subst l8 y8 z8
        obtain ⟨rfl, N8q, e8⟩ := hQ8
        have N8 := Fr.app N7 N8q
        refine Go.pull (V := T8.setTop (mkF m 104 #[.val (.long pa), .second, .val (.long pb), .second, .val (.long pc'), .second, iv pk, .val (.long pa), .second, .val (.long zm), .second, .val (.long zo), .second, iv zp, .val (.long zv), .second, rv b4, .unset] [(.long (own_min zv zm))])) st8 ?_
        refine Go.pull (V := T8.setTop (mkF m 106 #[.val (.long pa), .second, .val (.long pb), .second, .val (.long pc'), .second, iv pk, .val (.long pa), .second, .val (.long zm), .second, .val (.long zo), .second, iv zp, .val (.long zv), .second, rv b4, .unset] [(.long zv), (.long (own_min zv zm))])) (fun t k => XS.lload X8.here hx rfl (hb hby at_104) rfl  k) ?_
        refine Go.pull (V := T8.setTop (mkF m 107 #[.val (.long pa), .second, .val (.long pb), .second, .val (.long pc'), .second, iv pk, .val (.long pa), .second, .val (.long zm), .second, .val (.long zo), .second, iv zp, .val (.long zv), .second, rv b4, .unset] [(.int (XT.cmpL (own_min zv zm) zv))])) (fun t k => XT.lcmp X8.here hx rfl (hb hby at_106) rfl k) ?_
        refine Go.pull (V := T8.setTop (mkF m 127 #[.val (.long pa), .second, .val (.long pb), .second, .val (.long pc'), .second, iv pk, .val (.long pa), .second, .val (.long zm), .second, .val (.long zo), .second, iv zp, .val (.long zv), .second, rv b4, .unset] [])) (fun t k => XS.ifYes X8.here hx rfl (pc0 := 107) (pc' := 127) rfl (hb hby at_107) rfl (XT.ll_ne_t (own_min_n hp3)) (by decide) (by decide) k) ?_
        refine Go.pull (V := T8.setTop (mkF m 128 #[.val (.long pa), .second, .val (.long pb), .second, .val (.long pc'), .second, iv pk, .val (.long pa), .second, .val (.long zm), .second, .val (.long zo), .second, iv zp, .val (.long zv), .second, rv b4, .unset] [(.int 0)])) (fun t k => XS.iconst X8.here hx rfl (hb hby at_127) k) ?_
        refine Go.pull (V := T8.setTop (mkF m 130 #[.val (.long pa), .second, .val (.long pb), .second, .val (.long pc'), .second, iv pk, .val (.long pa), .second, .val (.long zm), .second, .val (.long zo), .second, iv zp, .val (.long zv), .second, rv b4, iv 0] [])) (fun t k => XS.istore X8.here hx rfl (hb hby at_128) rfl (l' := #[.val (.long pa), .second, .val (.long pb), .second, .val (.long pc'), .second, iv pk, .val (.long pa), .second, .val (.long zm), .second, .val (.long zo), .second, iv zp, .val (.long zv), .second, rv b4, iv 0]) rfl k) ?_
        refine Go.pull (V := T8.setTop (mkF m 132 #[.val (.long pa), .second, .val (.long pb), .second, .val (.long pc'), .second, iv pk, .val (.long pa), .second, .val (.long zm), .second, .val (.long zo), .second, iv zp, .val (.long zv), .second, rv b4, iv 0] [(.ref b4)])) (fun t k => XS.aload X8.here hx rfl (hb hby at_130) rfl rfl k) ?_
        refine Go.pull (V := T8.setTop (mkF m 134 #[.val (.long pa), .second, .val (.long pb), .second, .val (.long pc'), .second, iv pk, .val (.long pa), .second, .val (.long zm), .second, .val (.long zo), .second, iv zp, .val (.long zv), .second, rv b4, iv 0] [(.long zv), (.ref b4)])) (fun t k => XS.lload X8.here hx rfl (hb hby at_132) rfl  k) ?_
        obtain ⟨cq9, kq9, q9a, q9b, q9c⟩ := isOf hZ e8 (A4.keep Kc7)
        obtain ⟨_, _, ⟨T9, L9, k9, n9⟩, -, X9, ⟨Lc9, hQ9, l9, y9, z9⟩, st9⟩ := X8.virtualBack hx (y := (⟨"com/example/salish/salish/LongRange", "contains", "(J)Z"⟩ : MethodName)) (z := (⟨"com/example/salish/salish/LongRange", "contains", "(J)Z"⟩ : MethodName)) hown (mvT hZ (hw _ (List.mem_of_getElem? (i := 25) rfl))) (mvT hZ (hw _ (List.mem_of_getElem? (i := 26) rfl))) (notFace_of_selects (args := #[]) (mvT hZ (hw _ (List.mem_of_getElem? (i := 28) rfl)))) (mvT hZ (hw _ (List.mem_of_getElem? (i := 28) rfl))) (mvT hZ (hw _ (List.mem_of_getElem? (i := 27) rfl))) (by decide) (backOf (W := 0) (rmA l Z a0 hw [] b4 zv pa zm T7.heap n0 Fc7_0 Fc7_1) hZ (hw _ (List.mem_of_getElem? (i := 29) rfl)) (hw _ (List.mem_of_getElem? (i := 2) rfl)) (by decide) (by decide)) q9a q9c (g := (mkF m 134 #[.val (.long pa), .second, .val (.long pb), .second, .val (.long pc'), .second, iv pk, .val (.long pa), .second, .val (.long zm), .second, .val (.long zo), .second, iv zp, .val (.long zv), .second, rv b4, iv 0] [(.long zv), (.ref b4)])) rfl (by rw [hml]; rfl) (Steps.refl _) (argsL := [(.long zv)]) (rest := []) (lenOf pd_3 rfl) rfl (by show 2 * 0 + _ ≤ _; exact Nat.le_of_eq rfl) (hb hby at_134) (fun _ _ => ⟨rfl, e8, (by decide : 1 + 0 ≤ _), (by decide : 2 + 0 ≤ _)⟩)
        dsimp only [Pt.U, Pt.locs, Pt.cells, Pt.slots] at X9 l9 y9 z9 st9 hQ9
        subst l9 y9 z9
        obtain ⟨hv9, N9q, e9⟩ := hQ9
        rw [(show (own_in pa zm zv) = (0 : Int32) from by rw [own_in, if_pos hp2])] at hv9; subst hv9
        have N9 := Fr.app N8 N9q
        refine Go.pull (V := T9.setTop (mkF m 137 #[.val (.long pa), .second, .val (.long pb), .second, .val (.long pc'), .second, iv pk, .val (.long pa), .second, .val (.long zm), .second, .val (.long zo), .second, iv zp, .val (.long zv), .second, rv b4, iv 0] [(.int 0)])) (fun _ k => st9.trans k) ?_
        refine Go.pull (V := T9.setTop (mkF m 139 #[.val (.long pa), .second, .val (.long pb), .second, .val (.long pc'), .second, iv pk, .val (.long pa), .second, .val (.long zm), .second, .val (.long zo), .second, iv zp, .val (.long zv), .second, rv b4, iv 0] [(.int 0), (.int 0)])) (fun t k => XS.iload X9.here hx rfl (hb hby at_137) rfl  k) ?_
        refine Go.pull (V := T9.setTop (mkF m 142 #[.val (.long pa), .second, .val (.long pb), .second, .val (.long pc'), .second, iv pk, .val (.long pa), .second, .val (.long zm), .second, .val (.long zo), .second, iv zp, .val (.long zv), .second, rv b4, iv 0] [])) (fun t k => XS.icmpNo X9.here hx rfl (hb hby at_139) rfl (XT.ii_ne_f (by decide)) k) ?_
        refine Go.pull (V := T9.setTop (mkF m 143 #[.val (.long pa), .second, .val (.long pb), .second, .val (.long pc'), .second, iv pk, .val (.long pa), .second, .val (.long zm), .second, .val (.long zo), .second, iv zp, .val (.long zv), .second, rv b4, iv 0] [(.int 1)])) (fun t k => XS.iconst X9.here hx rfl (hb hby at_142) k) ?_
        refine Go.pull (V := T9.setTop (mkF m 147 #[.val (.long pa), .second, .val (.long pb), .second, .val (.long pc'), .second, iv pk, .val (.long pa), .second, .val (.long zm), .second, .val (.long zo), .second, iv zp, .val (.long zv), .second, rv b4, iv 0] [(.int 1)])) (fun t k => XS.goto X9.here hx rfl (pc0 := 143) (pc' := 147) rfl (hb hby at_143) (by decide) (by decide) k) ?_
        exact Go.retN X9 hx Bd.notSynchronized (t := .boolean) Bd.returns (by simp) (hb hby at_147) ⟨rfl, N9⟩ (by decide) (by decide)
      · skip
        obtain ⟨T10, h10, X10, e10, E10, A10, D10, -, st10⟩ := newO X0 hx hZ hown (hw _ (List.mem_of_getElem? (i := 0) rfl)) (hw _ (List.mem_of_getElem? (i := 1) rfl)) (hw _ (List.mem_of_getElem? (i := 2) rfl)) e0 (g := (mkF m 84 #[.val (.long pa), .second, .val (.long pb), .second, .val (.long pc'), .second, iv pk, .val (.long pa), .second, .val (.long zm), .second, .val (.long zo), .second, iv zp, .val (.long zv), .second, .unset, .unset] [])) rfl (hb hby at_84) (by decide) (by decide)
        obtain ⟨b10, g10⟩ : ∃ z, z = h0.size := ⟨_, rfl⟩
        rw [← g10] at A10 D10 st10
        have sz_b10 : h0.size ≤ b10 := Nat.le_trans ((Keep.refl h0 [])).1 (Nat.le_of_eq g10.symm)
        have g_b10 : n0 ≤ b10 := Nat.le_trans Z0 sz_b10
        have K10 : Keep h0 h10 [] := (Keep.refl h0 []).ext E10
        have F11 : Fld Z h10 b10 "com/example/salish/salish/LongRange" "least" "J" (.long 0) := D10 (Or.inr (hw _ (List.mem_of_getElem? (i := 15) rfl))) (ty := .long) (by decide)
        have F12 : Fld Z h10 b10 "com/example/salish/salish/LongRange" "most" "J" (.long 0) := D10 (Or.inr (hw _ (List.mem_of_getElem? (i := 17) rfl))) (ty := .long) (by decide)
        refine Go.pull (V := T10.setTop (mkF m 87 #[.val (.long pa), .second, .val (.long pb), .second, .val (.long pc'), .second, iv pk, .val (.long pa), .second, .val (.long zm), .second, .val (.long zo), .second, iv zp, .val (.long zv), .second, .unset, .unset] [(.ref b10)])) st10 ?_
        refine Go.pull (V := T10.setTop (mkF m 88 #[.val (.long pa), .second, .val (.long pb), .second, .val (.long pc'), .second, iv pk, .val (.long pa), .second, .val (.long zm), .second, .val (.long zo), .second, iv zp, .val (.long zv), .second, .unset, .unset] [(.ref b10), (.ref b10)])) (fun t k => XS.dup X10.here hx rfl (hb hby at_87) rfl rfl k) ?_
        refine Go.pull (V := T10.setTop (mkF m 90 #[.val (.long pa), .second, .val (.long pb), .second, .val (.long pc'), .second, iv pk, .val (.long pa), .second, .val (.long zm), .second, .val (.long zo), .second, iv zp, .val (.long zv), .second, .unset, .unset] [(.long pa), (.ref b10), (.ref b10)])) (fun t k => XS.lload X10.here hx rfl (hb hby at_88) rfl  k) ?_
        refine Go.pull (V := T10.setTop (mkF m 92 #[.val (.long pa), .second, .val (.long pb), .second, .val (.long pc'), .second, iv pk, .val (.long pa), .second, .val (.long zm), .second, .val (.long zo), .second, iv zp, .val (.long zv), .second, .unset, .unset] [(.long zm), (.long pa), (.ref b10), (.ref b10)])) (fun t k => XS.lload X10.here hx rfl (hb hby at_90) rfl  k) ?_
        obtain ⟨_, _, ⟨T13, L13, k13, n13⟩, -, X13, ⟨Lc13, hQ13, l13, y13, z13⟩, st13⟩ := X10.specialBack hx (y := (⟨"com/example/salish/salish/LongRange", "<init>", "(JJ)V"⟩ : MethodName)) rfl hown (mvT hZ (hw _ (List.mem_of_getElem? (i := 3) rfl))) (mvT hZ (hw _ (List.mem_of_getElem? (i := 4) rfl))) (mvT hZ (hw _ (List.mem_of_getElem? (i := 5) rfl))) (by decide) (backOf (W := 1) (rmI l Z a0 hw [] b10 pa zm (.long 0) (.long 0) h10 n0 (g_b10) A10 F11 F12) hZ (hw _ (List.mem_of_getElem? (i := 5) rfl)) (hw _ (List.mem_of_getElem? (i := 2) rfl)) (by decide) (by decide)) (g := (mkF m 92 #[.val (.long pa), .second, .val (.long pb), .second, .val (.long pc'), .second, iv pk, .val (.long pa), .second, .val (.long zm), .second, .val (.long zo), .second, iv zp, .val (.long zv), .second, .unset, .unset] [(.long zm), (.long pa), (.ref b10), (.ref b10)])) rfl (by rw [hml]; rfl) (Steps.refl _) (a := b10) (argsL := [(.long pa), (.long zm)]) (rest := [(.ref b10)]) (lenOf pd_1 rfl) rfl (by show 2 * 0 + _ ≤ _; exact Nat.le_of_eq rfl) (hb hby at_92) (fun _ _ => ⟨rfl, e10, (by decide : 1 + 0 ≤ _), (by decide : 2 + 0 ≤ _)⟩)
        dsimp only [Pt.U, Pt.locs, Pt.cells, Pt.slots] at X13 l13 y13 z13 st13 hQ13
        subst l13 y13 z13
        obtain ⟨rfl, N13q, Kc13, Fc13_0, Fc13_1⟩ := hQ13
        have K13 : Keep h0 T13.heap [] := K10.trans Kc13 ((allS (Or.inr sz_b10) all0))
        have N13 := Fr.app N0 N13q
        refine Go.pull (V := T13.setTop (mkF m 95 #[.val (.long pa), .second, .val (.long pb), .second, .val (.long pc'), .second, iv pk, .val (.long pa), .second, .val (.long zm), .second, .val (.long zo), .second, iv zp, .val (.long zv), .second, .unset, .unset] [(.ref b10)])) (fun _ k => st13.trans k) ?_
        refine Go.pull (V := T13.setTop (mkF m 97 #[.val (.long pa), .second, .val (.long pb), .second, .val (.long pc'), .second, iv pk, .val (.long pa), .second, .val (.long zm), .second, .val (.long zo), .second, iv zp, .val (.long zv), .second, rv b10, .unset] [])) (fun t k => XS.astore X13.here hx rfl (hb hby at_95) rfl rfl (l' := #[.val (.long pa), .second, .val (.long pb), .second, .val (.long pc'), .second, iv pk, .val (.long pa), .second, .val (.long zm), .second, .val (.long zo), .second, iv zp, .val (.long zv), .second, rv b10, .unset]) rfl k) ?_
        refine Go.pull (V := T13.setTop (mkF m 99 #[.val (.long pa), .second, .val (.long pb), .second, .val (.long pc'), .second, iv pk, .val (.long pa), .second, .val (.long zm), .second, .val (.long zo), .second, iv zp, .val (.long zv), .second, rv b10, .unset] [(.long zv)])) (fun t k => XS.lload X13.here hx rfl (hb hby at_97) rfl  k) ?_
        refine Go.pull (V := T13.setTop (mkF m 101 #[.val (.long pa), .second, .val (.long pb), .second, .val (.long pc'), .second, iv pk, .val (.long pa), .second, .val (.long zm), .second, .val (.long zo), .second, iv zp, .val (.long zv), .second, rv b10, .unset] [(.long zm), (.long zv)])) (fun t k => XS.lload X13.here hx rfl (hb hby at_99) rfl  k) ?_
        obtain ⟨_, _, ⟨T14, L14, k14, n14⟩, -, X14, ⟨Lc14, hQ14, l14, y14, z14⟩, st14⟩ := Jvm.LawKit.callS X13 hx (y := (⟨"java/lang/Math", "min", "(JJ)J"⟩ : MethodName)) hown (mvT hZ (hw _ (List.mem_of_getElem? (i := 18) rfl))) (mvT hZ (hw _ (List.mem_of_getElem? (i := 19) rfl))) (mvT hZ (hw _ (List.mem_of_getElem? (i := 20) rfl))) (mvT hZ (hw _ (List.mem_of_getElem? (i := 21) rfl))) (by decide) (backOf (W := 0) (rmY l Z a0 hw [] zv zm T13.heap n0 ) hZ (hw _ (List.mem_of_getElem? (i := 21) rfl)) (hw _ (List.mem_of_getElem? (i := 20) rfl)) (by decide) (by decide)) (g := (mkF m 101 #[.val (.long pa), .second, .val (.long pb), .second, .val (.long pc'), .second, iv pk, .val (.long pa), .second, .val (.long zm), .second, .val (.long zo), .second, iv zp, .val (.long zv), .second, rv b10, .unset] [(.long zm), (.long zv)])) rfl (by rw [hml]; rfl) (argsL := [(.long zv), (.long zm)]) (rest := []) (lenOf pd_2 rfl) rfl (by show 2 * 0 + _ ≤ _; exact Nat.le_of_eq rfl) (hb hby at_101) (fun _ _ => ⟨rfl, rfl, (by decide : 1 + 0 ≤ _), (by decide : 2 + 0 ≤ _)⟩)
        dsimp only [Pt.U, Pt.locs, Pt.cells, Pt.slots] at X14 l14 y14 z14 st14 hQ14
        subst l14 y14 z14
        obtain ⟨rfl, N14q, e14⟩ := hQ14
        have N14 := Fr.app N13 N14q
        refine Go.pull (V := T14.setTop (mkF m 104 #[.val (.long pa), .second, .val (.long pb), .second, .val (.long pc'), .second, iv pk, .val (.long pa), .second, .val (.long zm), .second, .val (.long zo), .second, iv zp, .val (.long zv), .second, rv b10, .unset] [(.long (own_min zv zm))])) st14 ?_
        refine Go.pull (V := T14.setTop (mkF m 106 #[.val (.long pa), .second, .val (.long pb), .second, .val (.long pc'), .second, iv pk, .val (.long pa), .second, .val (.long zm), .second, .val (.long zo), .second, iv zp, .val (.long zv), .second, rv b10, .unset] [(.long zv), (.long (own_min zv zm))])) (fun t k => XS.lload X14.here hx rfl (hb hby at_104) rfl  k) ?_
        refine Go.pull (V := T14.setTop (mkF m 107 #[.val (.long pa), .second, .val (.long pb), .second, .val (.long pc'), .second, iv pk, .val (.long pa), .second, .val (.long zm), .second, .val (.long zo), .second, iv zp, .val (.long zv), .second, rv b10, .unset] [(.int (XT.cmpL (own_min zv zm) zv))])) (fun t k => XT.lcmp X14.here hx rfl (hb hby at_106) rfl k) ?_
        refine Go.pull (V := T14.setTop (mkF m 110 #[.val (.long pa), .second, .val (.long pb), .second, .val (.long pc'), .second, iv pk, .val (.long pa), .second, .val (.long zm), .second, .val (.long zo), .second, iv zp, .val (.long zv), .second, rv b10, .unset] [])) (fun t k => XS.ifNo X14.here hx rfl (hb hby at_107) rfl (XT.ll_ne_f (own_min_y hp3)) k) ?_
        refine Go.pull (V := T14.setTop (mkF m 112 #[.val (.long pa), .second, .val (.long pb), .second, .val (.long pc'), .second, iv pk, .val (.long pa), .second, .val (.long zm), .second, .val (.long zo), .second, iv zp, .val (.long zv), .second, rv b10, .unset] [(.long zv)])) (fun t k => XS.lload X14.here hx rfl (hb hby at_110) rfl  k) ?_
        refine Go.pull (V := T14.setTop (mkF m 114 #[.val (.long pa), .second, .val (.long pb), .second, .val (.long pc'), .second, iv pk, .val (.long pa), .second, .val (.long zm), .second, .val (.long zo), .second, iv zp, .val (.long zv), .second, rv b10, .unset] [(.long pa), (.long zv)])) (fun t k => XS.lload X14.here hx rfl (hb hby at_112) rfl  k) ?_
        obtain ⟨_, _, ⟨T15, L15, k15, n15⟩, -, X15, ⟨Lc15, hQ15, l15, y15, z15⟩, st15⟩ := Jvm.LawKit.callS X14 hx (y := (⟨"java/lang/Math", "max", "(JJ)J"⟩ : MethodName)) hown (mvT hZ (hw _ (List.mem_of_getElem? (i := 22) rfl))) (mvT hZ (hw _ (List.mem_of_getElem? (i := 23) rfl))) (mvT hZ (hw _ (List.mem_of_getElem? (i := 20) rfl))) (mvT hZ (hw _ (List.mem_of_getElem? (i := 24) rfl))) (by decide) (backOf (W := 0) (rmX l Z a0 hw [] zv pa T13.heap n0 ) hZ (hw _ (List.mem_of_getElem? (i := 24) rfl)) (hw _ (List.mem_of_getElem? (i := 20) rfl)) (by decide) (by decide)) (g := (mkF m 114 #[.val (.long pa), .second, .val (.long pb), .second, .val (.long pc'), .second, iv pk, .val (.long pa), .second, .val (.long zm), .second, .val (.long zo), .second, iv zp, .val (.long zv), .second, rv b10, .unset] [(.long pa), (.long zv)])) rfl (by rw [hml]; rfl) (argsL := [(.long zv), (.long pa)]) (rest := []) (lenOf pd_2 rfl) rfl (by show 2 * 0 + _ ≤ _; exact Nat.le_of_eq rfl) (hb hby at_114) (fun _ _ => ⟨rfl, e14, (by decide : 1 + 0 ≤ _), (by decide : 2 + 0 ≤ _)⟩)
        dsimp only [Pt.U, Pt.locs, Pt.cells, Pt.slots] at X15 l15 y15 z15 st15 hQ15
        subst l15 y15 z15
        obtain ⟨rfl, N15q, e15⟩ := hQ15
        have N15 := Fr.app N14 N15q
        refine Go.pull (V := T15.setTop (mkF m 117 #[.val (.long pa), .second, .val (.long pb), .second, .val (.long pc'), .second, iv pk, .val (.long pa), .second, .val (.long zm), .second, .val (.long zo), .second, iv zp, .val (.long zv), .second, rv b10, .unset] [(.long (own_max zv pa))])) st15 ?_
        refine Go.pull (V := T15.setTop (mkF m 119 #[.val (.long pa), .second, .val (.long pb), .second, .val (.long pc'), .second, iv pk, .val (.long pa), .second, .val (.long zm), .second, .val (.long zo), .second, iv zp, .val (.long zv), .second, rv b10, .unset] [(.long zv), (.long (own_max zv pa))])) (fun t k => XS.lload X15.here hx rfl (hb hby at_117) rfl  k) ?_
        refine Go.pull (V := T15.setTop (mkF m 120 #[.val (.long pa), .second, .val (.long pb), .second, .val (.long pc'), .second, iv pk, .val (.long pa), .second, .val (.long zm), .second, .val (.long zo), .second, iv zp, .val (.long zv), .second, rv b10, .unset] [(.int (XT.cmpL (own_max zv pa) zv))])) (fun t k => XT.lcmp X15.here hx rfl (hb hby at_119) rfl k) ?_
        refine Go.pull (V := T15.setTop (mkF m 127 #[.val (.long pa), .second, .val (.long pb), .second, .val (.long pc'), .second, iv pk, .val (.long pa), .second, .val (.long zm), .second, .val (.long zo), .second, iv zp, .val (.long zv), .second, rv b10, .unset] [])) (fun t k => XS.ifYes X15.here hx rfl (pc0 := 120) (pc' := 127) rfl (hb hby at_120) rfl (XT.ll_ne_t (own_max_n hp2)) (by decide) (by decide) k) ?_
        refine Go.pull (V := T15.setTop (mkF m 128 #[.val (.long pa), .second, .val (.long pb), .second, .val (.long pc'), .second, iv pk, .val (.long pa), .second, .val (.long zm), .second, .val (.long zo), .second, iv zp, .val (.long zv), .second, rv b10, .unset] [(.int 0)])) (fun t k => XS.iconst X15.here hx rfl (hb hby at_127) k) ?_
        refine Go.pull (V := T15.setTop (mkF m 130 #[.val (.long pa), .second, .val (.long pb), .second, .val (.long pc'), .second, iv pk, .val (.long pa), .second, .val (.long zm), .second, .val (.long zo), .second, iv zp, .val (.long zv), .second, rv b10, iv 0] [])) (fun t k => XS.istore X15.here hx rfl (hb hby at_128) rfl (l' := #[.val (.long pa), .second, .val (.long pb), .second, .val (.long pc'), .second, iv pk, .val (.long pa), .second, .val (.long zm), .second, .val (.long zo), .second, iv zp, .val (.long zv), .second, rv b10, iv 0]) rfl k) ?_
        refine Go.pull (V := T15.setTop (mkF m 132 #[.val (.long pa), .second, .val (.long pb), .second, .val (.long pc'), .second, iv pk, .val (.long pa), .second, .val (.long zm), .second, .val (.long zo), .second, iv zp, .val (.long zv), .second, rv b10, iv 0] [(.ref b10)])) (fun t k => XS.aload X15.here hx rfl (hb hby at_130) rfl rfl k) ?_
        refine Go.pull (V := T15.setTop (mkF m 134 #[.val (.long pa), .second, .val (.long pb), .second, .val (.long pc'), .second, iv pk, .val (.long pa), .second, .val (.long zm), .second, .val (.long zo), .second, iv zp, .val (.long zv), .second, rv b10, iv 0] [(.long zv), (.ref b10)])) (fun t k => XS.lload X15.here hx rfl (hb hby at_132) rfl  k) ?_
        obtain ⟨cq16, kq16, q16a, q16b, q16c⟩ := isOf hZ e15 (A10.keep Kc13)
        obtain ⟨_, _, ⟨T16, L16, k16, n16⟩, -, X16, ⟨Lc16, hQ16, l16, y16, z16⟩, st16⟩ := X15.virtualBack hx (y := (⟨"com/example/salish/salish/LongRange", "contains", "(J)Z"⟩ : MethodName)) (z := (⟨"com/example/salish/salish/LongRange", "contains", "(J)Z"⟩ : MethodName)) hown (mvT hZ (hw _ (List.mem_of_getElem? (i := 25) rfl))) (mvT hZ (hw _ (List.mem_of_getElem? (i := 26) rfl))) (notFace_of_selects (args := #[]) (mvT hZ (hw _ (List.mem_of_getElem? (i := 28) rfl)))) (mvT hZ (hw _ (List.mem_of_getElem? (i := 28) rfl))) (mvT hZ (hw _ (List.mem_of_getElem? (i := 27) rfl))) (by decide) (backOf (W := 0) (rmA l Z a0 hw [] b10 zv pa zm T13.heap n0 Fc13_0 Fc13_1) hZ (hw _ (List.mem_of_getElem? (i := 29) rfl)) (hw _ (List.mem_of_getElem? (i := 2) rfl)) (by decide) (by decide)) q16a q16c (g := (mkF m 134 #[.val (.long pa), .second, .val (.long pb), .second, .val (.long pc'), .second, iv pk, .val (.long pa), .second, .val (.long zm), .second, .val (.long zo), .second, iv zp, .val (.long zv), .second, rv b10, iv 0] [(.long zv), (.ref b10)])) rfl (by rw [hml]; rfl) (Steps.refl _) (argsL := [(.long zv)]) (rest := []) (lenOf pd_3 rfl) rfl (by show 2 * 0 + _ ≤ _; exact Nat.le_of_eq rfl) (hb hby at_134) (fun _ _ => ⟨rfl, e15, (by decide : 1 + 0 ≤ _), (by decide : 2 + 0 ≤ _)⟩)
        dsimp only [Pt.U, Pt.locs, Pt.cells, Pt.slots] at X16 l16 y16 z16 st16 hQ16
        subst l16 y16 z16
        obtain ⟨hv16, N16q, e16⟩ := hQ16
        rw [(show (own_in pa zm zv) = (0 : Int32) from by rw [own_in, if_pos hp2])] at hv16; subst hv16
        have N16 := Fr.app N15 N16q
        refine Go.pull (V := T16.setTop (mkF m 137 #[.val (.long pa), .second, .val (.long pb), .second, .val (.long pc'), .second, iv pk, .val (.long pa), .second, .val (.long zm), .second, .val (.long zo), .second, iv zp, .val (.long zv), .second, rv b10, iv 0] [(.int 0)])) (fun _ k => st16.trans k) ?_
        refine Go.pull (V := T16.setTop (mkF m 139 #[.val (.long pa), .second, .val (.long pb), .second, .val (.long pc'), .second, iv pk, .val (.long pa), .second, .val (.long zm), .second, .val (.long zo), .second, iv zp, .val (.long zv), .second, rv b10, iv 0] [(.int 0), (.int 0)])) (fun t k => XS.iload X16.here hx rfl (hb hby at_137) rfl  k) ?_
        refine Go.pull (V := T16.setTop (mkF m 142 #[.val (.long pa), .second, .val (.long pb), .second, .val (.long pc'), .second, iv pk, .val (.long pa), .second, .val (.long zm), .second, .val (.long zo), .second, iv zp, .val (.long zv), .second, rv b10, iv 0] [])) (fun t k => XS.icmpNo X16.here hx rfl (hb hby at_139) rfl (XT.ii_ne_f (by decide)) k) ?_
        refine Go.pull (V := T16.setTop (mkF m 143 #[.val (.long pa), .second, .val (.long pb), .second, .val (.long pc'), .second, iv pk, .val (.long pa), .second, .val (.long zm), .second, .val (.long zo), .second, iv zp, .val (.long zv), .second, rv b10, iv 0] [(.int 1)])) (fun t k => XS.iconst X16.here hx rfl (hb hby at_142) k) ?_
        refine Go.pull (V := T16.setTop (mkF m 147 #[.val (.long pa), .second, .val (.long pb), .second, .val (.long pc'), .second, iv pk, .val (.long pa), .second, .val (.long zm), .second, .val (.long zo), .second, iv zp, .val (.long zv), .second, rv b10, iv 0] [(.int 1)])) (fun t k => XS.goto X16.here hx rfl (pc0 := 143) (pc' := 147) rfl (hb hby at_143) (by decide) (by decide) k) ?_
        exact Go.retN X16 hx Bd.notSynchronized (t := .boolean) Bd.returns (by simp) (hb hby at_147) ⟨rfl, N16⟩ (by decide) (by decide)
    · skip
      by_cases hp17 : zm < zv
      · skip
        obtain ⟨T18, h18, X18, e18, E18, A18, D18, -, st18⟩ := newO X0 hx hZ hown (hw _ (List.mem_of_getElem? (i := 0) rfl)) (hw _ (List.mem_of_getElem? (i := 1) rfl)) (hw _ (List.mem_of_getElem? (i := 2) rfl)) e0 (g := (mkF m 84 #[.val (.long pa), .second, .val (.long pb), .second, .val (.long pc'), .second, iv pk, .val (.long pa), .second, .val (.long zm), .second, .val (.long zo), .second, iv zp, .val (.long zv), .second, .unset, .unset] [])) rfl (hb hby at_84) (by decide) (by decide)
        obtain ⟨b18, g18⟩ : ∃ z, z = h0.size := ⟨_, rfl⟩
        rw [← g18] at A18 D18 st18
        have sz_b18 : h0.size ≤ b18 := Nat.le_trans ((Keep.refl h0 [])).1 (Nat.le_of_eq g18.symm)
        have g_b18 : n0 ≤ b18 := Nat.le_trans Z0 sz_b18
        have K18 : Keep h0 h18 [] := (Keep.refl h0 []).ext E18
        have F19 : Fld Z h18 b18 "com/example/salish/salish/LongRange" "least" "J" (.long 0) := D18 (Or.inr (hw _ (List.mem_of_getElem? (i := 15) rfl))) (ty := .long) (by decide)
        have F20 : Fld Z h18 b18 "com/example/salish/salish/LongRange" "most" "J" (.long 0) := D18 (Or.inr (hw _ (List.mem_of_getElem? (i := 17) rfl))) (ty := .long) (by decide)
        refine Go.pull (V := T18.setTop (mkF m 87 #[.val (.long pa), .second, .val (.long pb), .second, .val (.long pc'), .second, iv pk, .val (.long pa), .second, .val (.long zm), .second, .val (.long zo), .second, iv zp, .val (.long zv), .second, .unset, .unset] [(.ref b18)])) st18 ?_
        refine Go.pull (V := T18.setTop (mkF m 88 #[.val (.long pa), .second, .val (.long pb), .second, .val (.long pc'), .second, iv pk, .val (.long pa), .second, .val (.long zm), .second, .val (.long zo), .second, iv zp, .val (.long zv), .second, .unset, .unset] [(.ref b18), (.ref b18)])) (fun t k => XS.dup X18.here hx rfl (hb hby at_87) rfl rfl k) ?_
        refine Go.pull (V := T18.setTop (mkF m 90 #[.val (.long pa), .second, .val (.long pb), .second, .val (.long pc'), .second, iv pk, .val (.long pa), .second, .val (.long zm), .second, .val (.long zo), .second, iv zp, .val (.long zv), .second, .unset, .unset] [(.long pa), (.ref b18), (.ref b18)])) (fun t k => XS.lload X18.here hx rfl (hb hby at_88) rfl  k) ?_
        refine Go.pull (V := T18.setTop (mkF m 92 #[.val (.long pa), .second, .val (.long pb), .second, .val (.long pc'), .second, iv pk, .val (.long pa), .second, .val (.long zm), .second, .val (.long zo), .second, iv zp, .val (.long zv), .second, .unset, .unset] [(.long zm), (.long pa), (.ref b18), (.ref b18)])) (fun t k => XS.lload X18.here hx rfl (hb hby at_90) rfl  k) ?_
        obtain ⟨_, _, ⟨T21, L21, k21, n21⟩, -, X21, ⟨Lc21, hQ21, l21, y21, z21⟩, st21⟩ := X18.specialBack hx (y := (⟨"com/example/salish/salish/LongRange", "<init>", "(JJ)V"⟩ : MethodName)) rfl hown (mvT hZ (hw _ (List.mem_of_getElem? (i := 3) rfl))) (mvT hZ (hw _ (List.mem_of_getElem? (i := 4) rfl))) (mvT hZ (hw _ (List.mem_of_getElem? (i := 5) rfl))) (by decide) (backOf (W := 1) (rmI l Z a0 hw [] b18 pa zm (.long 0) (.long 0) h18 n0 (g_b18) A18 F19 F20) hZ (hw _ (List.mem_of_getElem? (i := 5) rfl)) (hw _ (List.mem_of_getElem? (i := 2) rfl)) (by decide) (by decide)) (g := (mkF m 92 #[.val (.long pa), .second, .val (.long pb), .second, .val (.long pc'), .second, iv pk, .val (.long pa), .second, .val (.long zm), .second, .val (.long zo), .second, iv zp, .val (.long zv), .second, .unset, .unset] [(.long zm), (.long pa), (.ref b18), (.ref b18)])) rfl (by rw [hml]; rfl) (Steps.refl _) (a := b18) (argsL := [(.long pa), (.long zm)]) (rest := [(.ref b18)]) (lenOf pd_1 rfl) rfl (by show 2 * 0 + _ ≤ _; exact Nat.le_of_eq rfl) (hb hby at_92) (fun _ _ => ⟨rfl, e18, (by decide : 1 + 0 ≤ _), (by decide : 2 + 0 ≤ _)⟩)
        dsimp only [Pt.U, Pt.locs, Pt.cells, Pt.slots] at X21 l21 y21 z21 st21 hQ21
        subst l21 y21 z21
        obtain ⟨rfl, N21q, Kc21, Fc21_0, Fc21_1⟩ := hQ21
        have K21 : Keep h0 T21.heap [] := K18.trans Kc21 ((allS (Or.inr sz_b18) all0))
        have N21 := Fr.app N0 N21q
        refine Go.pull (V := T21.setTop (mkF m 95 #[.val (.long pa), .second, .val (.long pb), .second, .val (.long pc'), .second, iv pk, .val (.long pa), .second, .val (.long zm), .second, .val (.long zo), .second, iv zp, .val (.long zv), .second, .unset, .unset] [(.ref b18)])) (fun _ k => st21.trans k) ?_
        refine Go.pull (V := T21.setTop (mkF m 97 #[.val (.long pa), .second, .val (.long pb), .second, .val (.long pc'), .second, iv pk, .val (.long pa), .second, .val (.long zm), .second, .val (.long zo), .second, iv zp, .val (.long zv), .second, rv b18, .unset] [])) (fun t k => XS.astore X21.here hx rfl (hb hby at_95) rfl rfl (l' := #[.val (.long pa), .second, .val (.long pb), .second, .val (.long pc'), .second, iv pk, .val (.long pa), .second, .val (.long zm), .second, .val (.long zo), .second, iv zp, .val (.long zv), .second, rv b18, .unset]) rfl k) ?_
        refine Go.pull (V := T21.setTop (mkF m 99 #[.val (.long pa), .second, .val (.long pb), .second, .val (.long pc'), .second, iv pk, .val (.long pa), .second, .val (.long zm), .second, .val (.long zo), .second, iv zp, .val (.long zv), .second, rv b18, .unset] [(.long zv)])) (fun t k => XS.lload X21.here hx rfl (hb hby at_97) rfl  k) ?_
        refine Go.pull (V := T21.setTop (mkF m 101 #[.val (.long pa), .second, .val (.long pb), .second, .val (.long pc'), .second, iv pk, .val (.long pa), .second, .val (.long zm), .second, .val (.long zo), .second, iv zp, .val (.long zv), .second, rv b18, .unset] [(.long zm), (.long zv)])) (fun t k => XS.lload X21.here hx rfl (hb hby at_99) rfl  k) ?_
        obtain ⟨_, _, ⟨T22, L22, k22, n22⟩, -, X22, ⟨Lc22, hQ22, l22, y22, z22⟩, st22⟩ := Jvm.LawKit.callS X21 hx (y := (⟨"java/lang/Math", "min", "(JJ)J"⟩ : MethodName)) hown (mvT hZ (hw _ (List.mem_of_getElem? (i := 18) rfl))) (mvT hZ (hw _ (List.mem_of_getElem? (i := 19) rfl))) (mvT hZ (hw _ (List.mem_of_getElem? (i := 20) rfl))) (mvT hZ (hw _ (List.mem_of_getElem? (i := 21) rfl))) (by decide) (backOf (W := 0) (rmY l Z a0 hw [] zv zm T21.heap n0 ) hZ (hw _ (List.mem_of_getElem? (i := 21) rfl)) (hw _ (List.mem_of_getElem? (i := 20) rfl)) (by decide) (by decide)) (g := (mkF m 101 #[.val (.long pa), .second, .val (.long pb), .second, .val (.long pc'), .second, iv pk, .val (.long pa), .second, .val (.long zm), .second, .val (.long zo), .second, iv zp, .val (.long zv), .second, rv b18, .unset] [(.long zm), (.long zv)])) rfl (by rw [hml]; rfl) (argsL := [(.long zv), (.long zm)]) (rest := []) (lenOf pd_2 rfl) rfl (by show 2 * 0 + _ ≤ _; exact Nat.le_of_eq rfl) (hb hby at_101) (fun _ _ => ⟨rfl, rfl, (by decide : 1 + 0 ≤ _), (by decide : 2 + 0 ≤ _)⟩)
        dsimp only [Pt.U, Pt.locs, Pt.cells, Pt.slots] at X22 l22 y22 z22 st22 hQ22
        subst l22 y22 z22
        obtain ⟨rfl, N22q, e22⟩ := hQ22
        have N22 := Fr.app N21 N22q
        refine Go.pull (V := T22.setTop (mkF m 104 #[.val (.long pa), .second, .val (.long pb), .second, .val (.long pc'), .second, iv pk, .val (.long pa), .second, .val (.long zm), .second, .val (.long zo), .second, iv zp, .val (.long zv), .second, rv b18, .unset] [(.long (own_min zv zm))])) st22 ?_
        refine Go.pull (V := T22.setTop (mkF m 106 #[.val (.long pa), .second, .val (.long pb), .second, .val (.long pc'), .second, iv pk, .val (.long pa), .second, .val (.long zm), .second, .val (.long zo), .second, iv zp, .val (.long zv), .second, rv b18, .unset] [(.long zv), (.long (own_min zv zm))])) (fun t k => XS.lload X22.here hx rfl (hb hby at_104) rfl  k) ?_
        refine Go.pull (V := T22.setTop (mkF m 107 #[.val (.long pa), .second, .val (.long pb), .second, .val (.long pc'), .second, iv pk, .val (.long pa), .second, .val (.long zm), .second, .val (.long zo), .second, iv zp, .val (.long zv), .second, rv b18, .unset] [(.int (XT.cmpL (own_min zv zm) zv))])) (fun t k => XT.lcmp X22.here hx rfl (hb hby at_106) rfl k) ?_
        refine Go.pull (V := T22.setTop (mkF m 127 #[.val (.long pa), .second, .val (.long pb), .second, .val (.long pc'), .second, iv pk, .val (.long pa), .second, .val (.long zm), .second, .val (.long zo), .second, iv zp, .val (.long zv), .second, rv b18, .unset] [])) (fun t k => XS.ifYes X22.here hx rfl (pc0 := 107) (pc' := 127) rfl (hb hby at_107) rfl (XT.ll_ne_t (own_min_n hp17)) (by decide) (by decide) k) ?_
        refine Go.pull (V := T22.setTop (mkF m 128 #[.val (.long pa), .second, .val (.long pb), .second, .val (.long pc'), .second, iv pk, .val (.long pa), .second, .val (.long zm), .second, .val (.long zo), .second, iv zp, .val (.long zv), .second, rv b18, .unset] [(.int 0)])) (fun t k => XS.iconst X22.here hx rfl (hb hby at_127) k) ?_
        refine Go.pull (V := T22.setTop (mkF m 130 #[.val (.long pa), .second, .val (.long pb), .second, .val (.long pc'), .second, iv pk, .val (.long pa), .second, .val (.long zm), .second, .val (.long zo), .second, iv zp, .val (.long zv), .second, rv b18, iv 0] [])) (fun t k => XS.istore X22.here hx rfl (hb hby at_128) rfl (l' := #[.val (.long pa), .second, .val (.long pb), .second, .val (.long pc'), .second, iv pk, .val (.long pa), .second, .val (.long zm), .second, .val (.long zo), .second, iv zp, .val (.long zv), .second, rv b18, iv 0]) rfl k) ?_
        refine Go.pull (V := T22.setTop (mkF m 132 #[.val (.long pa), .second, .val (.long pb), .second, .val (.long pc'), .second, iv pk, .val (.long pa), .second, .val (.long zm), .second, .val (.long zo), .second, iv zp, .val (.long zv), .second, rv b18, iv 0] [(.ref b18)])) (fun t k => XS.aload X22.here hx rfl (hb hby at_130) rfl rfl k) ?_
        refine Go.pull (V := T22.setTop (mkF m 134 #[.val (.long pa), .second, .val (.long pb), .second, .val (.long pc'), .second, iv pk, .val (.long pa), .second, .val (.long zm), .second, .val (.long zo), .second, iv zp, .val (.long zv), .second, rv b18, iv 0] [(.long zv), (.ref b18)])) (fun t k => XS.lload X22.here hx rfl (hb hby at_132) rfl  k) ?_
        obtain ⟨cq23, kq23, q23a, q23b, q23c⟩ := isOf hZ e22 (A18.keep Kc21)
        obtain ⟨_, _, ⟨T23, L23, k23, n23⟩, -, X23, ⟨Lc23, hQ23, l23, y23, z23⟩, st23⟩ := X22.virtualBack hx (y := (⟨"com/example/salish/salish/LongRange", "contains", "(J)Z"⟩ : MethodName)) (z := (⟨"com/example/salish/salish/LongRange", "contains", "(J)Z"⟩ : MethodName)) hown (mvT hZ (hw _ (List.mem_of_getElem? (i := 25) rfl))) (mvT hZ (hw _ (List.mem_of_getElem? (i := 26) rfl))) (notFace_of_selects (args := #[]) (mvT hZ (hw _ (List.mem_of_getElem? (i := 28) rfl)))) (mvT hZ (hw _ (List.mem_of_getElem? (i := 28) rfl))) (mvT hZ (hw _ (List.mem_of_getElem? (i := 27) rfl))) (by decide) (backOf (W := 0) (rmA l Z a0 hw [] b18 zv pa zm T21.heap n0 Fc21_0 Fc21_1) hZ (hw _ (List.mem_of_getElem? (i := 29) rfl)) (hw _ (List.mem_of_getElem? (i := 2) rfl)) (by decide) (by decide)) q23a q23c (g := (mkF m 134 #[.val (.long pa), .second, .val (.long pb), .second, .val (.long pc'), .second, iv pk, .val (.long pa), .second, .val (.long zm), .second, .val (.long zo), .second, iv zp, .val (.long zv), .second, rv b18, iv 0] [(.long zv), (.ref b18)])) rfl (by rw [hml]; rfl) (Steps.refl _) (argsL := [(.long zv)]) (rest := []) (lenOf pd_3 rfl) rfl (by show 2 * 0 + _ ≤ _; exact Nat.le_of_eq rfl) (hb hby at_134) (fun _ _ => ⟨rfl, e22, (by decide : 1 + 0 ≤ _), (by decide : 2 + 0 ≤ _)⟩)
        dsimp only [Pt.U, Pt.locs, Pt.cells, Pt.slots] at X23 l23 y23 z23 st23 hQ23
        subst l23 y23 z23
        obtain ⟨hv23, N23q, e23⟩ := hQ23
        rw [(show (own_in pa zm zv) = (0 : Int32) from by rw [own_in, if_neg hp2, if_pos hp17])] at hv23; subst hv23
        have N23 := Fr.app N22 N23q
        refine Go.pull (V := T23.setTop (mkF m 137 #[.val (.long pa), .second, .val (.long pb), .second, .val (.long pc'), .second, iv pk, .val (.long pa), .second, .val (.long zm), .second, .val (.long zo), .second, iv zp, .val (.long zv), .second, rv b18, iv 0] [(.int 0)])) (fun _ k => st23.trans k) ?_
        refine Go.pull (V := T23.setTop (mkF m 139 #[.val (.long pa), .second, .val (.long pb), .second, .val (.long pc'), .second, iv pk, .val (.long pa), .second, .val (.long zm), .second, .val (.long zo), .second, iv zp, .val (.long zv), .second, rv b18, iv 0] [(.int 0), (.int 0)])) (fun t k => XS.iload X23.here hx rfl (hb hby at_137) rfl  k) ?_
        refine Go.pull (V := T23.setTop (mkF m 142 #[.val (.long pa), .second, .val (.long pb), .second, .val (.long pc'), .second, iv pk, .val (.long pa), .second, .val (.long zm), .second, .val (.long zo), .second, iv zp, .val (.long zv), .second, rv b18, iv 0] [])) (fun t k => XS.icmpNo X23.here hx rfl (hb hby at_139) rfl (XT.ii_ne_f (by decide)) k) ?_
        refine Go.pull (V := T23.setTop (mkF m 143 #[.val (.long pa), .second, .val (.long pb), .second, .val (.long pc'), .second, iv pk, .val (.long pa), .second, .val (.long zm), .second, .val (.long zo), .second, iv zp, .val (.long zv), .second, rv b18, iv 0] [(.int 1)])) (fun t k => XS.iconst X23.here hx rfl (hb hby at_142) k) ?_
        refine Go.pull (V := T23.setTop (mkF m 147 #[.val (.long pa), .second, .val (.long pb), .second, .val (.long pc'), .second, iv pk, .val (.long pa), .second, .val (.long zm), .second, .val (.long zo), .second, iv zp, .val (.long zv), .second, rv b18, iv 0] [(.int 1)])) (fun t k => XS.goto X23.here hx rfl (pc0 := 143) (pc' := 147) rfl (hb hby at_143) (by decide) (by decide) k) ?_
        exact Go.retN X23 hx Bd.notSynchronized (t := .boolean) Bd.returns (by simp) (hb hby at_147) ⟨rfl, N23⟩ (by decide) (by decide)
      · skip
        obtain ⟨T24, h24, X24, e24, E24, A24, D24, -, st24⟩ := newO X0 hx hZ hown (hw _ (List.mem_of_getElem? (i := 0) rfl)) (hw _ (List.mem_of_getElem? (i := 1) rfl)) (hw _ (List.mem_of_getElem? (i := 2) rfl)) e0 (g := (mkF m 84 #[.val (.long pa), .second, .val (.long pb), .second, .val (.long pc'), .second, iv pk, .val (.long pa), .second, .val (.long zm), .second, .val (.long zo), .second, iv zp, .val (.long zv), .second, .unset, .unset] [])) rfl (hb hby at_84) (by decide) (by decide)
        obtain ⟨b24, g24⟩ : ∃ z, z = h0.size := ⟨_, rfl⟩
        rw [← g24] at A24 D24 st24
        have sz_b24 : h0.size ≤ b24 := Nat.le_trans ((Keep.refl h0 [])).1 (Nat.le_of_eq g24.symm)
        have g_b24 : n0 ≤ b24 := Nat.le_trans Z0 sz_b24
        have K24 : Keep h0 h24 [] := (Keep.refl h0 []).ext E24
        have F25 : Fld Z h24 b24 "com/example/salish/salish/LongRange" "least" "J" (.long 0) := D24 (Or.inr (hw _ (List.mem_of_getElem? (i := 15) rfl))) (ty := .long) (by decide)
        have F26 : Fld Z h24 b24 "com/example/salish/salish/LongRange" "most" "J" (.long 0) := D24 (Or.inr (hw _ (List.mem_of_getElem? (i := 17) rfl))) (ty := .long) (by decide)
        refine Go.pull (V := T24.setTop (mkF m 87 #[.val (.long pa), .second, .val (.long pb), .second, .val (.long pc'), .second, iv pk, .val (.long pa), .second, .val (.long zm), .second, .val (.long zo), .second, iv zp, .val (.long zv), .second, .unset, .unset] [(.ref b24)])) st24 ?_
        refine Go.pull (V := T24.setTop (mkF m 88 #[.val (.long pa), .second, .val (.long pb), .second, .val (.long pc'), .second, iv pk, .val (.long pa), .second, .val (.long zm), .second, .val (.long zo), .second, iv zp, .val (.long zv), .second, .unset, .unset] [(.ref b24), (.ref b24)])) (fun t k => XS.dup X24.here hx rfl (hb hby at_87) rfl rfl k) ?_
        refine Go.pull (V := T24.setTop (mkF m 90 #[.val (.long pa), .second, .val (.long pb), .second, .val (.long pc'), .second, iv pk, .val (.long pa), .second, .val (.long zm), .second, .val (.long zo), .second, iv zp, .val (.long zv), .second, .unset, .unset] [(.long pa), (.ref b24), (.ref b24)])) (fun t k => XS.lload X24.here hx rfl (hb hby at_88) rfl  k) ?_
        refine Go.pull (V := T24.setTop (mkF m 92 #[.val (.long pa), .second, .val (.long pb), .second, .val (.long pc'), .second, iv pk, .val (.long pa), .second, .val (.long zm), .second, .val (.long zo), .second, iv zp, .val (.long zv), .second, .unset, .unset] [(.long zm), (.long pa), (.ref b24), (.ref b24)])) (fun t k => XS.lload X24.here hx rfl (hb hby at_90) rfl  k) ?_
        obtain ⟨_, _, ⟨T27, L27, k27, n27⟩, -, X27, ⟨Lc27, hQ27, l27, y27, z27⟩, st27⟩ := X24.specialBack hx (y := (⟨"com/example/salish/salish/LongRange", "<init>", "(JJ)V"⟩ : MethodName)) rfl hown (mvT hZ (hw _ (List.mem_of_getElem? (i := 3) rfl))) (mvT hZ (hw _ (List.mem_of_getElem? (i := 4) rfl))) (mvT hZ (hw _ (List.mem_of_getElem? (i := 5) rfl))) (by decide) (backOf (W := 1) (rmI l Z a0 hw [] b24 pa zm (.long 0) (.long 0) h24 n0 (g_b24) A24 F25 F26) hZ (hw _ (List.mem_of_getElem? (i := 5) rfl)) (hw _ (List.mem_of_getElem? (i := 2) rfl)) (by decide) (by decide)) (g := (mkF m 92 #[.val (.long pa), .second, .val (.long pb), .second, .val (.long pc'), .second, iv pk, .val (.long pa), .second, .val (.long zm), .second, .val (.long zo), .second, iv zp, .val (.long zv), .second, .unset, .unset] [(.long zm), (.long pa), (.ref b24), (.ref b24)])) rfl (by rw [hml]; rfl) (Steps.refl _) (a := b24) (argsL := [(.long pa), (.long zm)]) (rest := [(.ref b24)]) (lenOf pd_1 rfl) rfl (by show 2 * 0 + _ ≤ _; exact Nat.le_of_eq rfl) (hb hby at_92) (fun _ _ => ⟨rfl, e24, (by decide : 1 + 0 ≤ _), (by decide : 2 + 0 ≤ _)⟩)
        dsimp only [Pt.U, Pt.locs, Pt.cells, Pt.slots] at X27 l27 y27 z27 st27 hQ27
        subst l27 y27 z27
        obtain ⟨rfl, N27q, Kc27, Fc27_0, Fc27_1⟩ := hQ27
        have K27 : Keep h0 T27.heap [] := K24.trans Kc27 ((allS (Or.inr sz_b24) all0))
        have N27 := Fr.app N0 N27q
        refine Go.pull (V := T27.setTop (mkF m 95 #[.val (.long pa), .second, .val (.long pb), .second, .val (.long pc'), .second, iv pk, .val (.long pa), .second, .val (.long zm), .second, .val (.long zo), .second, iv zp, .val (.long zv), .second, .unset, .unset] [(.ref b24)])) (fun _ k => st27.trans k) ?_
        refine Go.pull (V := T27.setTop (mkF m 97 #[.val (.long pa), .second, .val (.long pb), .second, .val (.long pc'), .second, iv pk, .val (.long pa), .second, .val (.long zm), .second, .val (.long zo), .second, iv zp, .val (.long zv), .second, rv b24, .unset] [])) (fun t k => XS.astore X27.here hx rfl (hb hby at_95) rfl rfl (l' := #[.val (.long pa), .second, .val (.long pb), .second, .val (.long pc'), .second, iv pk, .val (.long pa), .second, .val (.long zm), .second, .val (.long zo), .second, iv zp, .val (.long zv), .second, rv b24, .unset]) rfl k) ?_
        refine Go.pull (V := T27.setTop (mkF m 99 #[.val (.long pa), .second, .val (.long pb), .second, .val (.long pc'), .second, iv pk, .val (.long pa), .second, .val (.long zm), .second, .val (.long zo), .second, iv zp, .val (.long zv), .second, rv b24, .unset] [(.long zv)])) (fun t k => XS.lload X27.here hx rfl (hb hby at_97) rfl  k) ?_
        refine Go.pull (V := T27.setTop (mkF m 101 #[.val (.long pa), .second, .val (.long pb), .second, .val (.long pc'), .second, iv pk, .val (.long pa), .second, .val (.long zm), .second, .val (.long zo), .second, iv zp, .val (.long zv), .second, rv b24, .unset] [(.long zm), (.long zv)])) (fun t k => XS.lload X27.here hx rfl (hb hby at_99) rfl  k) ?_
        obtain ⟨_, _, ⟨T28, L28, k28, n28⟩, -, X28, ⟨Lc28, hQ28, l28, y28, z28⟩, st28⟩ := Jvm.LawKit.callS X27 hx (y := (⟨"java/lang/Math", "min", "(JJ)J"⟩ : MethodName)) hown (mvT hZ (hw _ (List.mem_of_getElem? (i := 18) rfl))) (mvT hZ (hw _ (List.mem_of_getElem? (i := 19) rfl))) (mvT hZ (hw _ (List.mem_of_getElem? (i := 20) rfl))) (mvT hZ (hw _ (List.mem_of_getElem? (i := 21) rfl))) (by decide) (backOf (W := 0) (rmY l Z a0 hw [] zv zm T27.heap n0 ) hZ (hw _ (List.mem_of_getElem? (i := 21) rfl)) (hw _ (List.mem_of_getElem? (i := 20) rfl)) (by decide) (by decide)) (g := (mkF m 101 #[.val (.long pa), .second, .val (.long pb), .second, .val (.long pc'), .second, iv pk, .val (.long pa), .second, .val (.long zm), .second, .val (.long zo), .second, iv zp, .val (.long zv), .second, rv b24, .unset] [(.long zm), (.long zv)])) rfl (by rw [hml]; rfl) (argsL := [(.long zv), (.long zm)]) (rest := []) (lenOf pd_2 rfl) rfl (by show 2 * 0 + _ ≤ _; exact Nat.le_of_eq rfl) (hb hby at_101) (fun _ _ => ⟨rfl, rfl, (by decide : 1 + 0 ≤ _), (by decide : 2 + 0 ≤ _)⟩)
        dsimp only [Pt.U, Pt.locs, Pt.cells, Pt.slots] at X28 l28 y28 z28 st28 hQ28
        subst l28 y28 z28
        obtain ⟨rfl, N28q, e28⟩ := hQ28
        have N28 := Fr.app N27 N28q
        refine Go.pull (V := T28.setTop (mkF m 104 #[.val (.long pa), .second, .val (.long pb), .second, .val (.long pc'), .second, iv pk, .val (.long pa), .second, .val (.long zm), .second, .val (.long zo), .second, iv zp, .val (.long zv), .second, rv b24, .unset] [(.long (own_min zv zm))])) st28 ?_
        refine Go.pull (V := T28.setTop (mkF m 106 #[.val (.long pa), .second, .val (.long pb), .second, .val (.long pc'), .second, iv pk, .val (.long pa), .second, .val (.long zm), .second, .val (.long zo), .second, iv zp, .val (.long zv), .second, rv b24, .unset] [(.long zv), (.long (own_min zv zm))])) (fun t k => XS.lload X28.here hx rfl (hb hby at_104) rfl  k) ?_
        refine Go.pull (V := T28.setTop (mkF m 107 #[.val (.long pa), .second, .val (.long pb), .second, .val (.long pc'), .second, iv pk, .val (.long pa), .second, .val (.long zm), .second, .val (.long zo), .second, iv zp, .val (.long zv), .second, rv b24, .unset] [(.int (XT.cmpL (own_min zv zm) zv))])) (fun t k => XT.lcmp X28.here hx rfl (hb hby at_106) rfl k) ?_
        refine Go.pull (V := T28.setTop (mkF m 110 #[.val (.long pa), .second, .val (.long pb), .second, .val (.long pc'), .second, iv pk, .val (.long pa), .second, .val (.long zm), .second, .val (.long zo), .second, iv zp, .val (.long zv), .second, rv b24, .unset] [])) (fun t k => XS.ifNo X28.here hx rfl (hb hby at_107) rfl (XT.ll_ne_f (own_min_y hp17)) k) ?_
        refine Go.pull (V := T28.setTop (mkF m 112 #[.val (.long pa), .second, .val (.long pb), .second, .val (.long pc'), .second, iv pk, .val (.long pa), .second, .val (.long zm), .second, .val (.long zo), .second, iv zp, .val (.long zv), .second, rv b24, .unset] [(.long zv)])) (fun t k => XS.lload X28.here hx rfl (hb hby at_110) rfl  k) ?_
        refine Go.pull (V := T28.setTop (mkF m 114 #[.val (.long pa), .second, .val (.long pb), .second, .val (.long pc'), .second, iv pk, .val (.long pa), .second, .val (.long zm), .second, .val (.long zo), .second, iv zp, .val (.long zv), .second, rv b24, .unset] [(.long pa), (.long zv)])) (fun t k => XS.lload X28.here hx rfl (hb hby at_112) rfl  k) ?_
        obtain ⟨_, _, ⟨T29, L29, k29, n29⟩, -, X29, ⟨Lc29, hQ29, l29, y29, z29⟩, st29⟩ := Jvm.LawKit.callS X28 hx (y := (⟨"java/lang/Math", "max", "(JJ)J"⟩ : MethodName)) hown (mvT hZ (hw _ (List.mem_of_getElem? (i := 22) rfl))) (mvT hZ (hw _ (List.mem_of_getElem? (i := 23) rfl))) (mvT hZ (hw _ (List.mem_of_getElem? (i := 20) rfl))) (mvT hZ (hw _ (List.mem_of_getElem? (i := 24) rfl))) (by decide) (backOf (W := 0) (rmX l Z a0 hw [] zv pa T27.heap n0 ) hZ (hw _ (List.mem_of_getElem? (i := 24) rfl)) (hw _ (List.mem_of_getElem? (i := 20) rfl)) (by decide) (by decide)) (g := (mkF m 114 #[.val (.long pa), .second, .val (.long pb), .second, .val (.long pc'), .second, iv pk, .val (.long pa), .second, .val (.long zm), .second, .val (.long zo), .second, iv zp, .val (.long zv), .second, rv b24, .unset] [(.long pa), (.long zv)])) rfl (by rw [hml]; rfl) (argsL := [(.long zv), (.long pa)]) (rest := []) (lenOf pd_2 rfl) rfl (by show 2 * 0 + _ ≤ _; exact Nat.le_of_eq rfl) (hb hby at_114) (fun _ _ => ⟨rfl, e28, (by decide : 1 + 0 ≤ _), (by decide : 2 + 0 ≤ _)⟩)
        dsimp only [Pt.U, Pt.locs, Pt.cells, Pt.slots] at X29 l29 y29 z29 st29 hQ29
        subst l29 y29 z29
        obtain ⟨rfl, N29q, e29⟩ := hQ29
        have N29 := Fr.app N28 N29q
        refine Go.pull (V := T29.setTop (mkF m 117 #[.val (.long pa), .second, .val (.long pb), .second, .val (.long pc'), .second, iv pk, .val (.long pa), .second, .val (.long zm), .second, .val (.long zo), .second, iv zp, .val (.long zv), .second, rv b24, .unset] [(.long (own_max zv pa))])) st29 ?_
        refine Go.pull (V := T29.setTop (mkF m 119 #[.val (.long pa), .second, .val (.long pb), .second, .val (.long pc'), .second, iv pk, .val (.long pa), .second, .val (.long zm), .second, .val (.long zo), .second, iv zp, .val (.long zv), .second, rv b24, .unset] [(.long zv), (.long (own_max zv pa))])) (fun t k => XS.lload X29.here hx rfl (hb hby at_117) rfl  k) ?_
        refine Go.pull (V := T29.setTop (mkF m 120 #[.val (.long pa), .second, .val (.long pb), .second, .val (.long pc'), .second, iv pk, .val (.long pa), .second, .val (.long zm), .second, .val (.long zo), .second, iv zp, .val (.long zv), .second, rv b24, .unset] [(.int (XT.cmpL (own_max zv pa) zv))])) (fun t k => XT.lcmp X29.here hx rfl (hb hby at_119) rfl k) ?_
        refine Go.pull (V := T29.setTop (mkF m 123 #[.val (.long pa), .second, .val (.long pb), .second, .val (.long pc'), .second, iv pk, .val (.long pa), .second, .val (.long zm), .second, .val (.long zo), .second, iv zp, .val (.long zv), .second, rv b24, .unset] [])) (fun t k => XS.ifNo X29.here hx rfl (hb hby at_120) rfl (XT.ll_ne_f (own_max_y hp2)) k) ?_
        refine Go.pull (V := T29.setTop (mkF m 124 #[.val (.long pa), .second, .val (.long pb), .second, .val (.long pc'), .second, iv pk, .val (.long pa), .second, .val (.long zm), .second, .val (.long zo), .second, iv zp, .val (.long zv), .second, rv b24, .unset] [(.int 1)])) (fun t k => XS.iconst X29.here hx rfl (hb hby at_123) k) ?_
        refine Go.pull (V := T29.setTop (mkF m 128 #[.val (.long pa), .second, .val (.long pb), .second, .val (.long pc'), .second, iv pk, .val (.long pa), .second, .val (.long zm), .second, .val (.long zo), .second, iv zp, .val (.long zv), .second, rv b24, .unset] [(.int 1)])) (fun t k => XS.goto X29.here hx rfl (pc0 := 124) (pc' := 128) rfl (hb hby at_124) (by decide) (by decide) k) ?_
        refine Go.pull (V := T29.setTop (mkF m 130 #[.val (.long pa), .second, .val (.long pb), .second, .val (.long pc'), .second, iv pk, .val (.long pa), .second, .val (.long zm), .second, .val (.long zo), .second, iv zp, .val (.long zv), .second, rv b24, iv 1] [])) (fun t k => XS.istore X29.here hx rfl (hb hby at_128) rfl (l' := #[.val (.long pa), .second, .val (.long pb), .second, .val (.long pc'), .second, iv pk, .val (.long pa), .second, .val (.long zm), .second, .val (.long zo), .second, iv zp, .val (.long zv), .second, rv b24, iv 1]) rfl k) ?_
        refine Go.pull (V := T29.setTop (mkF m 132 #[.val (.long pa), .second, .val (.long pb), .second, .val (.long pc'), .second, iv pk, .val (.long pa), .second, .val (.long zm), .second, .val (.long zo), .second, iv zp, .val (.long zv), .second, rv b24, iv 1] [(.ref b24)])) (fun t k => XS.aload X29.here hx rfl (hb hby at_130) rfl rfl k) ?_
        refine Go.pull (V := T29.setTop (mkF m 134 #[.val (.long pa), .second, .val (.long pb), .second, .val (.long pc'), .second, iv pk, .val (.long pa), .second, .val (.long zm), .second, .val (.long zo), .second, iv zp, .val (.long zv), .second, rv b24, iv 1] [(.long zv), (.ref b24)])) (fun t k => XS.lload X29.here hx rfl (hb hby at_132) rfl  k) ?_
        obtain ⟨cq30, kq30, q30a, q30b, q30c⟩ := isOf hZ e29 (A24.keep Kc27)
        obtain ⟨_, _, ⟨T30, L30, k30, n30⟩, -, X30, ⟨Lc30, hQ30, l30, y30, z30⟩, st30⟩ := X29.virtualBack hx (y := (⟨"com/example/salish/salish/LongRange", "contains", "(J)Z"⟩ : MethodName)) (z := (⟨"com/example/salish/salish/LongRange", "contains", "(J)Z"⟩ : MethodName)) hown (mvT hZ (hw _ (List.mem_of_getElem? (i := 25) rfl))) (mvT hZ (hw _ (List.mem_of_getElem? (i := 26) rfl))) (notFace_of_selects (args := #[]) (mvT hZ (hw _ (List.mem_of_getElem? (i := 28) rfl)))) (mvT hZ (hw _ (List.mem_of_getElem? (i := 28) rfl))) (mvT hZ (hw _ (List.mem_of_getElem? (i := 27) rfl))) (by decide) (backOf (W := 0) (rmA l Z a0 hw [] b24 zv pa zm T27.heap n0 Fc27_0 Fc27_1) hZ (hw _ (List.mem_of_getElem? (i := 29) rfl)) (hw _ (List.mem_of_getElem? (i := 2) rfl)) (by decide) (by decide)) q30a q30c (g := (mkF m 134 #[.val (.long pa), .second, .val (.long pb), .second, .val (.long pc'), .second, iv pk, .val (.long pa), .second, .val (.long zm), .second, .val (.long zo), .second, iv zp, .val (.long zv), .second, rv b24, iv 1] [(.long zv), (.ref b24)])) rfl (by rw [hml]; rfl) (Steps.refl _) (argsL := [(.long zv)]) (rest := []) (lenOf pd_3 rfl) rfl (by show 2 * 0 + _ ≤ _; exact Nat.le_of_eq rfl) (hb hby at_134) (fun _ _ => ⟨rfl, e29, (by decide : 1 + 0 ≤ _), (by decide : 2 + 0 ≤ _)⟩)
        dsimp only [Pt.U, Pt.locs, Pt.cells, Pt.slots] at X30 l30 y30 z30 st30 hQ30
        subst l30 y30 z30
        obtain ⟨hv30, N30q, e30⟩ := hQ30
        rw [(show (own_in pa zm zv) = (1 : Int32) from by rw [own_in, if_neg hp2, if_neg hp17])] at hv30; subst hv30
        have N30 := Fr.app N29 N30q
        refine Go.pull (V := T30.setTop (mkF m 137 #[.val (.long pa), .second, .val (.long pb), .second, .val (.long pc'), .second, iv pk, .val (.long pa), .second, .val (.long zm), .second, .val (.long zo), .second, iv zp, .val (.long zv), .second, rv b24, iv 1] [(.int 1)])) (fun _ k => st30.trans k) ?_
        refine Go.pull (V := T30.setTop (mkF m 139 #[.val (.long pa), .second, .val (.long pb), .second, .val (.long pc'), .second, iv pk, .val (.long pa), .second, .val (.long zm), .second, .val (.long zo), .second, iv zp, .val (.long zv), .second, rv b24, iv 1] [(.int 1), (.int 1)])) (fun t k => XS.iload X30.here hx rfl (hb hby at_137) rfl  k) ?_
        refine Go.pull (V := T30.setTop (mkF m 142 #[.val (.long pa), .second, .val (.long pb), .second, .val (.long pc'), .second, iv pk, .val (.long pa), .second, .val (.long zm), .second, .val (.long zo), .second, iv zp, .val (.long zv), .second, rv b24, iv 1] [])) (fun t k => XS.icmpNo X30.here hx rfl (hb hby at_139) rfl (XT.ii_ne_f (by decide)) k) ?_
        refine Go.pull (V := T30.setTop (mkF m 143 #[.val (.long pa), .second, .val (.long pb), .second, .val (.long pc'), .second, iv pk, .val (.long pa), .second, .val (.long zm), .second, .val (.long zo), .second, iv zp, .val (.long zv), .second, rv b24, iv 1] [(.int 1)])) (fun t k => XS.iconst X30.here hx rfl (hb hby at_142) k) ?_
        refine Go.pull (V := T30.setTop (mkF m 147 #[.val (.long pa), .second, .val (.long pb), .second, .val (.long pc'), .second, iv pk, .val (.long pa), .second, .val (.long zm), .second, .val (.long zo), .second, iv zp, .val (.long zv), .second, rv b24, iv 1] [(.int 1)])) (fun t k => XS.goto X30.here hx rfl (pc0 := 143) (pc' := 147) rfl (hb hby at_143) (by decide) (by decide) k) ?_
        exact Go.retN X30 hx Bd.notSynchronized (t := .boolean) Bd.returns (by simp) (hb hby at_147) ⟨rfl, N30⟩ (by decide) (by decide)
  refine Go.pull (V := s₁.setTop (mkF m 5 #[.val (.long pa), .second, .val (.long pb), .second, .val (.long pc'), .second, iv pk, .val (.long pa), .second, .unset, .unset, .unset, .unset, .unset, .unset, .unset, .unset, .unset] [(.int pk)])) (fun t k => XS.iload X0.here hx rfl (hb hby at_3) rfl  k) ?_
  refine Go.pull (V := s₁.setTop (mkF m 6 #[.val (.long pa), .second, .val (.long pb), .second, .val (.long pc'), .second, iv pk, .val (.long pa), .second, .unset, .unset, .unset, .unset, .unset, .unset, .unset, .unset, .unset] [(.int 2), (.int pk)])) (fun t k => XS.iconst X0.here hx rfl (hb hby at_5) k) ?_
  refine Go.pull (V := s₁.setTop (mkF m 7 #[.val (.long pa), .second, .val (.long pb), .second, .val (.long pc'), .second, iv pk, .val (.long pa), .second, .unset, .unset, .unset, .unset, .unset, .unset, .unset, .unset, .unset] [(.int (pk >>> ((2 : Int32) &&& 31)))])) (fun t k => XS.ishr X0.here hx rfl (hb hby at_6) rfl k) ?_
  refine Go.pull (V := s₁.setTop (mkF m 8 #[.val (.long pa), .second, .val (.long pb), .second, .val (.long pc'), .second, iv pk, .val (.long pa), .second, .unset, .unset, .unset, .unset, .unset, .unset, .unset, .unset, .unset] [(.int 1), (.int (pk >>> ((2 : Int32) &&& 31)))])) (fun t k => XS.iconst X0.here hx rfl (hb hby at_7) k) ?_
  refine Go.pull (V := s₁.setTop (mkF m 9 #[.val (.long pa), .second, .val (.long pb), .second, .val (.long pc'), .second, iv pk, .val (.long pa), .second, .unset, .unset, .unset, .unset, .unset, .unset, .unset, .unset, .unset] [(.int ((pk >>> ((2 : Int32) &&& 31)) &&& (1 : Int32)))])) (fun t k => XS.iand X0.here hx rfl (hb hby at_8) rfl k) ?_
  by_cases hc9_31 : ((pk >>> ((2 : Int32) &&& 31)) &&& (1 : Int32)) = 0
  · skip
    refine Go.pull (V := s₁.setTop (mkF m 18 #[.val (.long pa), .second, .val (.long pb), .second, .val (.long pc'), .second, iv pk, .val (.long pa), .second, .unset, .unset, .unset, .unset, .unset, .unset, .unset, .unset, .unset] [])) (fun t k => XS.ifYes X0.here hx rfl (pc0 := 9) (pc' := 18) rfl (hb hby at_9) rfl (XT.i0_eq_t hc9_31) (by decide) (by decide) k) ?_
    refine Go.pull (V := s₁.setTop (mkF m 19 #[.val (.long pa), .second, .val (.long pb), .second, .val (.long pc'), .second, iv pk, .val (.long pa), .second, .unset, .unset, .unset, .unset, .unset, .unset, .unset, .unset, .unset] [(.long pa)])) (fun t k => XS.lloadN X0.here hx rfl (hb hby at_18) rfl  k) ?_
    refine Go.pull (V := s₁.setTop (mkF m 21 #[.val (.long pa), .second, .val (.long pb), .second, .val (.long pc'), .second, iv pk, .val (.long pa), .second, .unset, .unset, .unset, .unset, .unset, .unset, .unset, .unset, .unset] [(.int pk), (.long pa)])) (fun t k => XS.iload X0.here hx rfl (hb hby at_19) rfl  k) ?_
    refine Go.pull (V := s₁.setTop (mkF m 22 #[.val (.long pa), .second, .val (.long pb), .second, .val (.long pc'), .second, iv pk, .val (.long pa), .second, .unset, .unset, .unset, .unset, .unset, .unset, .unset, .unset, .unset] [(.int 3), (.int pk), (.long pa)])) (fun t k => XS.iconst X0.here hx rfl (hb hby at_21) k) ?_
    refine Go.pull (V := s₁.setTop (mkF m 23 #[.val (.long pa), .second, .val (.long pb), .second, .val (.long pc'), .second, iv pk, .val (.long pa), .second, .unset, .unset, .unset, .unset, .unset, .unset, .unset, .unset, .unset] [(.int (pk >>> ((3 : Int32) &&& 31))), (.long pa)])) (fun t k => XS.ishr X0.here hx rfl (hb hby at_22) rfl k) ?_
    refine Go.pull (V := s₁.setTop (mkF m 24 #[.val (.long pa), .second, .val (.long pb), .second, .val (.long pc'), .second, iv pk, .val (.long pa), .second, .unset, .unset, .unset, .unset, .unset, .unset, .unset, .unset, .unset] [(.int 3), (.int (pk >>> ((3 : Int32) &&& 31))), (.long pa)])) (fun t k => XS.iconst X0.here hx rfl (hb hby at_23) k) ?_
    refine Go.pull (V := s₁.setTop (mkF m 25 #[.val (.long pa), .second, .val (.long pb), .second, .val (.long pc'), .second, iv pk, .val (.long pa), .second, .unset, .unset, .unset, .unset, .unset, .unset, .unset, .unset, .unset] [(.int ((pk >>> ((3 : Int32) &&& 31)) &&& (3 : Int32))), (.long pa)])) (fun t k => XS.iand X0.here hx rfl (hb hby at_24) rfl k) ?_
    refine Go.pull (V := s₁.setTop (mkF m 26 #[.val (.long pa), .second, .val (.long pb), .second, .val (.long pc'), .second, iv pk, .val (.long pa), .second, .unset, .unset, .unset, .unset, .unset, .unset, .unset, .unset, .unset] [(.long (((pk >>> ((3 : Int32) &&& 31)) &&& (3 : Int32)).toInt64)), (.long pa)])) (fun t k => XS.i2l X0.here hx rfl (hb hby at_25) rfl k) ?_
    refine Go.pull (V := s₁.setTop (mkF m 27 #[.val (.long pa), .second, .val (.long pb), .second, .val (.long pc'), .second, iv pk, .val (.long pa), .second, .unset, .unset, .unset, .unset, .unset, .unset, .unset, .unset, .unset] [(.long (pa + (((pk >>> ((3 : Int32) &&& 31)) &&& (3 : Int32)).toInt64)))])) (fun t k => XS.ladd X0.here hx rfl (hb hby at_26) rfl k) ?_
    refine Go.pull (V := s₁.setTop (mkF m 28 #[.val (.long pa), .second, .val (.long pb), .second, .val (.long pc'), .second, iv pk, .val (.long pa), .second, .unset, .unset, .unset, .unset, .unset, .unset, .unset, .unset, .unset] [(.long 1), (.long (pa + (((pk >>> ((3 : Int32) &&& 31)) &&& (3 : Int32)).toInt64)))])) (fun t k => XS.lconst X0.here hx rfl (hb hby at_27) k) ?_
    refine Go.pull (V := s₁.setTop (mkF m 29 #[.val (.long pa), .second, .val (.long pb), .second, .val (.long pc'), .second, iv pk, .val (.long pa), .second, .unset, .unset, .unset, .unset, .unset, .unset, .unset, .unset, .unset] [(.long ((pa + (((pk >>> ((3 : Int32) &&& 31)) &&& (3 : Int32)).toInt64)) - (1 : Int64)))])) (fun t k => XS.lsub X0.here hx rfl (hb hby at_28) rfl k) ?_
    refine Go.pull (V := s₁.setTop (mkF m 31 #[.val (.long pa), .second, .val (.long pb), .second, .val (.long pc'), .second, iv pk, .val (.long pa), .second, .val (.long ((pa + (((pk >>> ((3 : Int32) &&& 31)) &&& (3 : Int32)).toInt64)) - (1 : Int64))), .second, .unset, .unset, .unset, .unset, .unset, .unset, .unset] [])) (fun t k => XS.lstore X0.here hx rfl (hb hby at_29) rfl (l' := #[.val (.long pa), .second, .val (.long pb), .second, .val (.long pc'), .second, iv pk, .val (.long pa), .second, .val (.long ((pa + (((pk >>> ((3 : Int32) &&& 31)) &&& (3 : Int32)).toInt64)) - (1 : Int64))), .second, .unset, .unset, .unset, .unset, .unset, .unset, .unset]) rfl k) ?_
    refine Go.pull (V := s₁.setTop (mkF m 33 #[.val (.long pa), .second, .val (.long pb), .second, .val (.long pc'), .second, iv pk, .val (.long pa), .second, .val (.long ((pa + (((pk >>> ((3 : Int32) &&& 31)) &&& (3 : Int32)).toInt64)) - (1 : Int64))), .second, .unset, .unset, .unset, .unset, .unset, .unset, .unset] [(.int pk)])) (fun t k => XS.iload X0.here hx rfl (hb hby at_31) rfl  k) ?_
    refine Go.pull (V := s₁.setTop (mkF m 34 #[.val (.long pa), .second, .val (.long pb), .second, .val (.long pc'), .second, iv pk, .val (.long pa), .second, .val (.long ((pa + (((pk >>> ((3 : Int32) &&& 31)) &&& (3 : Int32)).toInt64)) - (1 : Int64))), .second, .unset, .unset, .unset, .unset, .unset, .unset, .unset] [(.int 5), (.int pk)])) (fun t k => XS.iconst X0.here hx rfl (hb hby at_33) k) ?_
    refine Go.pull (V := s₁.setTop (mkF m 35 #[.val (.long pa), .second, .val (.long pb), .second, .val (.long pc'), .second, iv pk, .val (.long pa), .second, .val (.long ((pa + (((pk >>> ((3 : Int32) &&& 31)) &&& (3 : Int32)).toInt64)) - (1 : Int64))), .second, .unset, .unset, .unset, .unset, .unset, .unset, .unset] [(.int (pk >>> ((5 : Int32) &&& 31)))])) (fun t k => XS.ishr X0.here hx rfl (hb hby at_34) rfl k) ?_
    refine Go.pull (V := s₁.setTop (mkF m 36 #[.val (.long pa), .second, .val (.long pb), .second, .val (.long pc'), .second, iv pk, .val (.long pa), .second, .val (.long ((pa + (((pk >>> ((3 : Int32) &&& 31)) &&& (3 : Int32)).toInt64)) - (1 : Int64))), .second, .unset, .unset, .unset, .unset, .unset, .unset, .unset] [(.int 3), (.int (pk >>> ((5 : Int32) &&& 31)))])) (fun t k => XS.iconst X0.here hx rfl (hb hby at_35) k) ?_
    refine Go.pull (V := s₁.setTop (mkF m 37 #[.val (.long pa), .second, .val (.long pb), .second, .val (.long pc'), .second, iv pk, .val (.long pa), .second, .val (.long ((pa + (((pk >>> ((3 : Int32) &&& 31)) &&& (3 : Int32)).toInt64)) - (1 : Int64))), .second, .unset, .unset, .unset, .unset, .unset, .unset, .unset] [(.int ((pk >>> ((5 : Int32) &&& 31)) &&& (3 : Int32)))])) (fun t k => XS.iand X0.here hx rfl (hb hby at_36) rfl k) ?_
    refine Go.pull (V := s₁.setTop (mkF m 38 #[.val (.long pa), .second, .val (.long pb), .second, .val (.long pc'), .second, iv pk, .val (.long pa), .second, .val (.long ((pa + (((pk >>> ((3 : Int32) &&& 31)) &&& (3 : Int32)).toInt64)) - (1 : Int64))), .second, .unset, .unset, .unset, .unset, .unset, .unset, .unset] [(.int 1), (.int ((pk >>> ((5 : Int32) &&& 31)) &&& (3 : Int32)))])) (fun t k => XS.iconst X0.here hx rfl (hb hby at_37) k) ?_
    refine Go.pull (V := s₁.setTop (mkF m 39 #[.val (.long pa), .second, .val (.long pb), .second, .val (.long pc'), .second, iv pk, .val (.long pa), .second, .val (.long ((pa + (((pk >>> ((3 : Int32) &&& 31)) &&& (3 : Int32)).toInt64)) - (1 : Int64))), .second, .unset, .unset, .unset, .unset, .unset, .unset, .unset] [(.int (((pk >>> ((5 : Int32) &&& 31)) &&& (3 : Int32)) - (1 : Int32)))])) (fun t k => XS.isub X0.here hx rfl (hb hby at_38) rfl k) ?_
    refine Go.pull (V := s₁.setTop (mkF m 40 #[.val (.long pa), .second, .val (.long pb), .second, .val (.long pc'), .second, iv pk, .val (.long pa), .second, .val (.long ((pa + (((pk >>> ((3 : Int32) &&& 31)) &&& (3 : Int32)).toInt64)) - (1 : Int64))), .second, .unset, .unset, .unset, .unset, .unset, .unset, .unset] [(.long ((((pk >>> ((5 : Int32) &&& 31)) &&& (3 : Int32)) - (1 : Int32)).toInt64))])) (fun t k => XS.i2l X0.here hx rfl (hb hby at_39) rfl k) ?_
    refine Go.pull (V := s₁.setTop (mkF m 42 #[.val (.long pa), .second, .val (.long pb), .second, .val (.long pc'), .second, iv pk, .val (.long pa), .second, .val (.long ((pa + (((pk >>> ((3 : Int32) &&& 31)) &&& (3 : Int32)).toInt64)) - (1 : Int64))), .second, .val (.long ((((pk >>> ((5 : Int32) &&& 31)) &&& (3 : Int32)) - (1 : Int32)).toInt64)), .second, .unset, .unset, .unset, .unset, .unset] [])) (fun t k => XS.lstore X0.here hx rfl (hb hby at_40) rfl (l' := #[.val (.long pa), .second, .val (.long pb), .second, .val (.long pc'), .second, iv pk, .val (.long pa), .second, .val (.long ((pa + (((pk >>> ((3 : Int32) &&& 31)) &&& (3 : Int32)).toInt64)) - (1 : Int64))), .second, .val (.long ((((pk >>> ((5 : Int32) &&& 31)) &&& (3 : Int32)) - (1 : Int32)).toInt64)), .second, .unset, .unset, .unset, .unset, .unset]) rfl k) ?_
    refine Go.pull (V := s₁.setTop (mkF m 44 #[.val (.long pa), .second, .val (.long pb), .second, .val (.long pc'), .second, iv pk, .val (.long pa), .second, .val (.long ((pa + (((pk >>> ((3 : Int32) &&& 31)) &&& (3 : Int32)).toInt64)) - (1 : Int64))), .second, .val (.long ((((pk >>> ((5 : Int32) &&& 31)) &&& (3 : Int32)) - (1 : Int32)).toInt64)), .second, .unset, .unset, .unset, .unset, .unset] [(.int pk)])) (fun t k => XS.iload X0.here hx rfl (hb hby at_42) rfl  k) ?_
    refine Go.pull (V := s₁.setTop (mkF m 45 #[.val (.long pa), .second, .val (.long pb), .second, .val (.long pc'), .second, iv pk, .val (.long pa), .second, .val (.long ((pa + (((pk >>> ((3 : Int32) &&& 31)) &&& (3 : Int32)).toInt64)) - (1 : Int64))), .second, .val (.long ((((pk >>> ((5 : Int32) &&& 31)) &&& (3 : Int32)) - (1 : Int32)).toInt64)), .second, .unset, .unset, .unset, .unset, .unset] [(.int 3), (.int pk)])) (fun t k => XS.iconst X0.here hx rfl (hb hby at_44) k) ?_
    refine Go.pull (V := s₁.setTop (mkF m 46 #[.val (.long pa), .second, .val (.long pb), .second, .val (.long pc'), .second, iv pk, .val (.long pa), .second, .val (.long ((pa + (((pk >>> ((3 : Int32) &&& 31)) &&& (3 : Int32)).toInt64)) - (1 : Int64))), .second, .val (.long ((((pk >>> ((5 : Int32) &&& 31)) &&& (3 : Int32)) - (1 : Int32)).toInt64)), .second, .unset, .unset, .unset, .unset, .unset] [(.int (pk &&& (3 : Int32)))])) (fun t k => XS.iand X0.here hx rfl (hb hby at_45) rfl k) ?_
    refine Go.pull (V := s₁.setTop (mkF m 48 #[.val (.long pa), .second, .val (.long pb), .second, .val (.long pc'), .second, iv pk, .val (.long pa), .second, .val (.long ((pa + (((pk >>> ((3 : Int32) &&& 31)) &&& (3 : Int32)).toInt64)) - (1 : Int64))), .second, .val (.long ((((pk >>> ((5 : Int32) &&& 31)) &&& (3 : Int32)) - (1 : Int32)).toInt64)), .second, iv (pk &&& (3 : Int32)), .unset, .unset, .unset, .unset] [])) (fun t k => XS.istore X0.here hx rfl (hb hby at_46) rfl (l' := #[.val (.long pa), .second, .val (.long pb), .second, .val (.long pc'), .second, iv pk, .val (.long pa), .second, .val (.long ((pa + (((pk >>> ((3 : Int32) &&& 31)) &&& (3 : Int32)).toInt64)) - (1 : Int64))), .second, .val (.long ((((pk >>> ((5 : Int32) &&& 31)) &&& (3 : Int32)) - (1 : Int32)).toInt64)), .second, iv (pk &&& (3 : Int32)), .unset, .unset, .unset, .unset]) rfl k) ?_
    refine Go.pull (V := s₁.setTop (mkF m 50 #[.val (.long pa), .second, .val (.long pb), .second, .val (.long pc'), .second, iv pk, .val (.long pa), .second, .val (.long ((pa + (((pk >>> ((3 : Int32) &&& 31)) &&& (3 : Int32)).toInt64)) - (1 : Int64))), .second, .val (.long ((((pk >>> ((5 : Int32) &&& 31)) &&& (3 : Int32)) - (1 : Int32)).toInt64)), .second, iv (pk &&& (3 : Int32)), .unset, .unset, .unset, .unset] [(.int (pk &&& (3 : Int32)))])) (fun t k => XS.iload X0.here hx rfl (hb hby at_48) rfl  k) ?_
    refine Go.pull (V := s₁.setTop (mkF m 51 #[.val (.long pa), .second, .val (.long pb), .second, .val (.long pc'), .second, iv pk, .val (.long pa), .second, .val (.long ((pa + (((pk >>> ((3 : Int32) &&& 31)) &&& (3 : Int32)).toInt64)) - (1 : Int64))), .second, .val (.long ((((pk >>> ((5 : Int32) &&& 31)) &&& (3 : Int32)) - (1 : Int32)).toInt64)), .second, iv (pk &&& (3 : Int32)), .unset, .unset, .unset, .unset] [(.int 1), (.int (pk &&& (3 : Int32)))])) (fun t k => XS.iconst X0.here hx rfl (hb hby at_50) k) ?_
    by_cases hc51_32 : (pk &&& (3 : Int32)) = (1 : Int32)
    · skip
      refine Go.pull (V := s₁.setTop (mkF m 54 #[.val (.long pa), .second, .val (.long pb), .second, .val (.long pc'), .second, iv pk, .val (.long pa), .second, .val (.long ((pa + (((pk >>> ((3 : Int32) &&& 31)) &&& (3 : Int32)).toInt64)) - (1 : Int64))), .second, .val (.long ((((pk >>> ((5 : Int32) &&& 31)) &&& (3 : Int32)) - (1 : Int32)).toInt64)), .second, iv (pk &&& (3 : Int32)), .unset, .unset, .unset, .unset] [])) (fun t k => XS.icmpNo X0.here hx rfl (hb hby at_51) rfl (XT.ii_ne_f hc51_32) k) ?_
      refine Go.pull (V := s₁.setTop (mkF m 56 #[.val (.long pa), .second, .val (.long pb), .second, .val (.long pc'), .second, iv pk, .val (.long pa), .second, .val (.long ((pa + (((pk >>> ((3 : Int32) &&& 31)) &&& (3 : Int32)).toInt64)) - (1 : Int64))), .second, .val (.long ((((pk >>> ((5 : Int32) &&& 31)) &&& (3 : Int32)) - (1 : Int32)).toInt64)), .second, iv (pk &&& (3 : Int32)), .unset, .unset, .unset, .unset] [(.long pa)])) (fun t k => XS.lload X0.here hx rfl (hb hby at_54) rfl  k) ?_
      refine Go.pull (V := s₁.setTop (mkF m 58 #[.val (.long pa), .second, .val (.long pb), .second, .val (.long pc'), .second, iv pk, .val (.long pa), .second, .val (.long ((pa + (((pk >>> ((3 : Int32) &&& 31)) &&& (3 : Int32)).toInt64)) - (1 : Int64))), .second, .val (.long ((((pk >>> ((5 : Int32) &&& 31)) &&& (3 : Int32)) - (1 : Int32)).toInt64)), .second, iv (pk &&& (3 : Int32)), .unset, .unset, .unset, .unset] [(.long ((((pk >>> ((5 : Int32) &&& 31)) &&& (3 : Int32)) - (1 : Int32)).toInt64)), (.long pa)])) (fun t k => XS.lload X0.here hx rfl (hb hby at_56) rfl  k) ?_
      refine Go.pull (V := s₁.setTop (mkF m 59 #[.val (.long pa), .second, .val (.long pb), .second, .val (.long pc'), .second, iv pk, .val (.long pa), .second, .val (.long ((pa + (((pk >>> ((3 : Int32) &&& 31)) &&& (3 : Int32)).toInt64)) - (1 : Int64))), .second, .val (.long ((((pk >>> ((5 : Int32) &&& 31)) &&& (3 : Int32)) - (1 : Int32)).toInt64)), .second, iv (pk &&& (3 : Int32)), .unset, .unset, .unset, .unset] [(.long (pa + ((((pk >>> ((5 : Int32) &&& 31)) &&& (3 : Int32)) - (1 : Int32)).toInt64)))])) (fun t k => XS.ladd X0.here hx rfl (hb hby at_58) rfl k) ?_
      refine Go.pull (V := s₁.setTop (mkF m 61 #[.val (.long pa), .second, .val (.long pb), .second, .val (.long pc'), .second, iv pk, .val (.long pa), .second, .val (.long ((pa + (((pk >>> ((3 : Int32) &&& 31)) &&& (3 : Int32)).toInt64)) - (1 : Int64))), .second, .val (.long ((((pk >>> ((5 : Int32) &&& 31)) &&& (3 : Int32)) - (1 : Int32)).toInt64)), .second, iv (pk &&& (3 : Int32)), .val (.long (pa + ((((pk >>> ((5 : Int32) &&& 31)) &&& (3 : Int32)) - (1 : Int32)).toInt64))), .second, .unset, .unset] [])) (fun t k => XS.lstore X0.here hx rfl (hb hby at_59) rfl (l' := #[.val (.long pa), .second, .val (.long pb), .second, .val (.long pc'), .second, iv pk, .val (.long pa), .second, .val (.long ((pa + (((pk >>> ((3 : Int32) &&& 31)) &&& (3 : Int32)).toInt64)) - (1 : Int64))), .second, .val (.long ((((pk >>> ((5 : Int32) &&& 31)) &&& (3 : Int32)) - (1 : Int32)).toInt64)), .second, iv (pk &&& (3 : Int32)), .val (.long (pa + ((((pk >>> ((5 : Int32) &&& 31)) &&& (3 : Int32)) - (1 : Int32)).toInt64))), .second, .unset, .unset]) rfl k) ?_
      refine Go.pull (V := s₁.setTop (mkF m 84 #[.val (.long pa), .second, .val (.long pb), .second, .val (.long pc'), .second, iv pk, .val (.long pa), .second, .val (.long ((pa + (((pk >>> ((3 : Int32) &&& 31)) &&& (3 : Int32)).toInt64)) - (1 : Int64))), .second, .val (.long ((((pk >>> ((5 : Int32) &&& 31)) &&& (3 : Int32)) - (1 : Int32)).toInt64)), .second, iv (pk &&& (3 : Int32)), .val (.long (pa + ((((pk >>> ((5 : Int32) &&& 31)) &&& (3 : Int32)) - (1 : Int32)).toInt64))), .second, .unset, .unset] [])) (fun t k => XS.goto X0.here hx rfl (pc0 := 61) (pc' := 84) rfl (hb hby at_61) (by decide) (by decide) k) ?_
      exact J84_1 (((pa + (((pk >>> ((3 : Int32) &&& 31)) &&& (3 : Int32)).toInt64)) - (1 : Int64))) (((((pk >>> ((5 : Int32) &&& 31)) &&& (3 : Int32)) - (1 : Int32)).toInt64)) ((pk &&& (3 : Int32))) ((pa + ((((pk >>> ((5 : Int32) &&& 31)) &&& (3 : Int32)) - (1 : Int32)).toInt64))) 
    · skip
      refine Go.pull (V := s₁.setTop (mkF m 64 #[.val (.long pa), .second, .val (.long pb), .second, .val (.long pc'), .second, iv pk, .val (.long pa), .second, .val (.long ((pa + (((pk >>> ((3 : Int32) &&& 31)) &&& (3 : Int32)).toInt64)) - (1 : Int64))), .second, .val (.long ((((pk >>> ((5 : Int32) &&& 31)) &&& (3 : Int32)) - (1 : Int32)).toInt64)), .second, iv (pk &&& (3 : Int32)), .unset, .unset, .unset, .unset] [])) (fun t k => XS.icmpYes X0.here hx rfl (pc0 := 51) (pc' := 64) rfl (hb hby at_51) rfl (XT.ii_ne_t hc51_32) (by decide) (by decide) k) ?_
      refine Go.pull (V := s₁.setTop (mkF m 66 #[.val (.long pa), .second, .val (.long pb), .second, .val (.long pc'), .second, iv pk, .val (.long pa), .second, .val (.long ((pa + (((pk >>> ((3 : Int32) &&& 31)) &&& (3 : Int32)).toInt64)) - (1 : Int64))), .second, .val (.long ((((pk >>> ((5 : Int32) &&& 31)) &&& (3 : Int32)) - (1 : Int32)).toInt64)), .second, iv (pk &&& (3 : Int32)), .unset, .unset, .unset, .unset] [(.int (pk &&& (3 : Int32)))])) (fun t k => XS.iload X0.here hx rfl (hb hby at_64) rfl  k) ?_
      refine Go.pull (V := s₁.setTop (mkF m 67 #[.val (.long pa), .second, .val (.long pb), .second, .val (.long pc'), .second, iv pk, .val (.long pa), .second, .val (.long ((pa + (((pk >>> ((3 : Int32) &&& 31)) &&& (3 : Int32)).toInt64)) - (1 : Int64))), .second, .val (.long ((((pk >>> ((5 : Int32) &&& 31)) &&& (3 : Int32)) - (1 : Int32)).toInt64)), .second, iv (pk &&& (3 : Int32)), .unset, .unset, .unset, .unset] [(.int 2), (.int (pk &&& (3 : Int32)))])) (fun t k => XS.iconst X0.here hx rfl (hb hby at_66) k) ?_
      by_cases hc67_33 : (pk &&& (3 : Int32)) = (2 : Int32)
      · skip
        refine Go.pull (V := s₁.setTop (mkF m 70 #[.val (.long pa), .second, .val (.long pb), .second, .val (.long pc'), .second, iv pk, .val (.long pa), .second, .val (.long ((pa + (((pk >>> ((3 : Int32) &&& 31)) &&& (3 : Int32)).toInt64)) - (1 : Int64))), .second, .val (.long ((((pk >>> ((5 : Int32) &&& 31)) &&& (3 : Int32)) - (1 : Int32)).toInt64)), .second, iv (pk &&& (3 : Int32)), .unset, .unset, .unset, .unset] [])) (fun t k => XS.icmpNo X0.here hx rfl (hb hby at_67) rfl (XT.ii_ne_f hc67_33) k) ?_
        refine Go.pull (V := s₁.setTop (mkF m 72 #[.val (.long pa), .second, .val (.long pb), .second, .val (.long pc'), .second, iv pk, .val (.long pa), .second, .val (.long ((pa + (((pk >>> ((3 : Int32) &&& 31)) &&& (3 : Int32)).toInt64)) - (1 : Int64))), .second, .val (.long ((((pk >>> ((5 : Int32) &&& 31)) &&& (3 : Int32)) - (1 : Int32)).toInt64)), .second, iv (pk &&& (3 : Int32)), .unset, .unset, .unset, .unset] [(.long ((pa + (((pk >>> ((3 : Int32) &&& 31)) &&& (3 : Int32)).toInt64)) - (1 : Int64)))])) (fun t k => XS.lload X0.here hx rfl (hb hby at_70) rfl  k) ?_
        refine Go.pull (V := s₁.setTop (mkF m 74 #[.val (.long pa), .second, .val (.long pb), .second, .val (.long pc'), .second, iv pk, .val (.long pa), .second, .val (.long ((pa + (((pk >>> ((3 : Int32) &&& 31)) &&& (3 : Int32)).toInt64)) - (1 : Int64))), .second, .val (.long ((((pk >>> ((5 : Int32) &&& 31)) &&& (3 : Int32)) - (1 : Int32)).toInt64)), .second, iv (pk &&& (3 : Int32)), .unset, .unset, .unset, .unset] [(.long ((((pk >>> ((5 : Int32) &&& 31)) &&& (3 : Int32)) - (1 : Int32)).toInt64)), (.long ((pa + (((pk >>> ((3 : Int32) &&& 31)) &&& (3 : Int32)).toInt64)) - (1 : Int64)))])) (fun t k => XS.lload X0.here hx rfl (hb hby at_72) rfl  k) ?_
        refine Go.pull (V := s₁.setTop (mkF m 75 #[.val (.long pa), .second, .val (.long pb), .second, .val (.long pc'), .second, iv pk, .val (.long pa), .second, .val (.long ((pa + (((pk >>> ((3 : Int32) &&& 31)) &&& (3 : Int32)).toInt64)) - (1 : Int64))), .second, .val (.long ((((pk >>> ((5 : Int32) &&& 31)) &&& (3 : Int32)) - (1 : Int32)).toInt64)), .second, iv (pk &&& (3 : Int32)), .unset, .unset, .unset, .unset] [(.long (((pa + (((pk >>> ((3 : Int32) &&& 31)) &&& (3 : Int32)).toInt64)) - (1 : Int64)) + ((((pk >>> ((5 : Int32) &&& 31)) &&& (3 : Int32)) - (1 : Int32)).toInt64)))])) (fun t k => XS.ladd X0.here hx rfl (hb hby at_74) rfl k) ?_
        refine Go.pull (V := s₁.setTop (mkF m 77 #[.val (.long pa), .second, .val (.long pb), .second, .val (.long pc'), .second, iv pk, .val (.long pa), .second, .val (.long ((pa + (((pk >>> ((3 : Int32) &&& 31)) &&& (3 : Int32)).toInt64)) - (1 : Int64))), .second, .val (.long ((((pk >>> ((5 : Int32) &&& 31)) &&& (3 : Int32)) - (1 : Int32)).toInt64)), .second, iv (pk &&& (3 : Int32)), .val (.long (((pa + (((pk >>> ((3 : Int32) &&& 31)) &&& (3 : Int32)).toInt64)) - (1 : Int64)) + ((((pk >>> ((5 : Int32) &&& 31)) &&& (3 : Int32)) - (1 : Int32)).toInt64))), .second, .unset, .unset] [])) (fun t k => XS.lstore X0.here hx rfl (hb hby at_75) rfl (l' := #[.val (.long pa), .second, .val (.long pb), .second, .val (.long pc'), .second, iv pk, .val (.long pa), .second, .val (.long ((pa + (((pk >>> ((3 : Int32) &&& 31)) &&& (3 : Int32)).toInt64)) - (1 : Int64))), .second, .val (.long ((((pk >>> ((5 : Int32) &&& 31)) &&& (3 : Int32)) - (1 : Int32)).toInt64)), .second, iv (pk &&& (3 : Int32)), .val (.long (((pa + (((pk >>> ((3 : Int32) &&& 31)) &&& (3 : Int32)).toInt64)) - (1 : Int64)) + ((((pk >>> ((5 : Int32) &&& 31)) &&& (3 : Int32)) - (1 : Int32)).toInt64))), .second, .unset, .unset]) rfl k) ?_
        refine Go.pull (V := s₁.setTop (mkF m 84 #[.val (.long pa), .second, .val (.long pb), .second, .val (.long pc'), .second, iv pk, .val (.long pa), .second, .val (.long ((pa + (((pk >>> ((3 : Int32) &&& 31)) &&& (3 : Int32)).toInt64)) - (1 : Int64))), .second, .val (.long ((((pk >>> ((5 : Int32) &&& 31)) &&& (3 : Int32)) - (1 : Int32)).toInt64)), .second, iv (pk &&& (3 : Int32)), .val (.long (((pa + (((pk >>> ((3 : Int32) &&& 31)) &&& (3 : Int32)).toInt64)) - (1 : Int64)) + ((((pk >>> ((5 : Int32) &&& 31)) &&& (3 : Int32)) - (1 : Int32)).toInt64))), .second, .unset, .unset] [])) (fun t k => XS.goto X0.here hx rfl (pc0 := 77) (pc' := 84) rfl (hb hby at_77) (by decide) (by decide) k) ?_
        exact J84_1 (((pa + (((pk >>> ((3 : Int32) &&& 31)) &&& (3 : Int32)).toInt64)) - (1 : Int64))) (((((pk >>> ((5 : Int32) &&& 31)) &&& (3 : Int32)) - (1 : Int32)).toInt64)) ((pk &&& (3 : Int32))) ((((pa + (((pk >>> ((3 : Int32) &&& 31)) &&& (3 : Int32)).toInt64)) - (1 : Int64)) + ((((pk >>> ((5 : Int32) &&& 31)) &&& (3 : Int32)) - (1 : Int32)).toInt64))) 
      · skip
        refine Go.pull (V := s₁.setTop (mkF m 80 #[.val (.long pa), .second, .val (.long pb), .second, .val (.long pc'), .second, iv pk, .val (.long pa), .second, .val (.long ((pa + (((pk >>> ((3 : Int32) &&& 31)) &&& (3 : Int32)).toInt64)) - (1 : Int64))), .second, .val (.long ((((pk >>> ((5 : Int32) &&& 31)) &&& (3 : Int32)) - (1 : Int32)).toInt64)), .second, iv (pk &&& (3 : Int32)), .unset, .unset, .unset, .unset] [])) (fun t k => XS.icmpYes X0.here hx rfl (pc0 := 67) (pc' := 80) rfl (hb hby at_67) rfl (XT.ii_ne_t hc67_33) (by decide) (by decide) k) ?_
        refine Go.pull (V := s₁.setTop (mkF m 82 #[.val (.long pa), .second, .val (.long pb), .second, .val (.long pc'), .second, iv pk, .val (.long pa), .second, .val (.long ((pa + (((pk >>> ((3 : Int32) &&& 31)) &&& (3 : Int32)).toInt64)) - (1 : Int64))), .second, .val (.long ((((pk >>> ((5 : Int32) &&& 31)) &&& (3 : Int32)) - (1 : Int32)).toInt64)), .second, iv (pk &&& (3 : Int32)), .unset, .unset, .unset, .unset] [(.long pc')])) (fun t k => XS.lload X0.here hx rfl (hb hby at_80) rfl  k) ?_
        refine Go.pull (V := s₁.setTop (mkF m 84 #[.val (.long pa), .second, .val (.long pb), .second, .val (.long pc'), .second, iv pk, .val (.long pa), .second, .val (.long ((pa + (((pk >>> ((3 : Int32) &&& 31)) &&& (3 : Int32)).toInt64)) - (1 : Int64))), .second, .val (.long ((((pk >>> ((5 : Int32) &&& 31)) &&& (3 : Int32)) - (1 : Int32)).toInt64)), .second, iv (pk &&& (3 : Int32)), .val (.long pc'), .second, .unset, .unset] [])) (fun t k => XS.lstore X0.here hx rfl (hb hby at_82) rfl (l' := #[.val (.long pa), .second, .val (.long pb), .second, .val (.long pc'), .second, iv pk, .val (.long pa), .second, .val (.long ((pa + (((pk >>> ((3 : Int32) &&& 31)) &&& (3 : Int32)).toInt64)) - (1 : Int64))), .second, .val (.long ((((pk >>> ((5 : Int32) &&& 31)) &&& (3 : Int32)) - (1 : Int32)).toInt64)), .second, iv (pk &&& (3 : Int32)), .val (.long pc'), .second, .unset, .unset]) rfl k) ?_
        exact J84_1 (((pa + (((pk >>> ((3 : Int32) &&& 31)) &&& (3 : Int32)).toInt64)) - (1 : Int64))) (((((pk >>> ((5 : Int32) &&& 31)) &&& (3 : Int32)) - (1 : Int32)).toInt64)) ((pk &&& (3 : Int32))) (pc') 
  · skip
    refine Go.pull (V := s₁.setTop (mkF m 12 #[.val (.long pa), .second, .val (.long pb), .second, .val (.long pc'), .second, iv pk, .val (.long pa), .second, .unset, .unset, .unset, .unset, .unset, .unset, .unset, .unset, .unset] [])) (fun t k => XS.ifNo X0.here hx rfl (hb hby at_9) rfl (XT.i0_eq_f hc9_31) k) ?_
    refine Go.pull (V := s₁.setTop (mkF m 13 #[.val (.long pa), .second, .val (.long pb), .second, .val (.long pc'), .second, iv pk, .val (.long pa), .second, .unset, .unset, .unset, .unset, .unset, .unset, .unset, .unset, .unset] [(.long pb)])) (fun t k => XS.lloadN X0.here hx rfl (hb hby at_12) rfl  k) ?_
    refine Go.pull (V := s₁.setTop (mkF m 15 #[.val (.long pa), .second, .val (.long pb), .second, .val (.long pc'), .second, iv pk, .val (.long pa), .second, .val (.long pb), .second, .unset, .unset, .unset, .unset, .unset, .unset, .unset] [])) (fun t k => XS.lstore X0.here hx rfl (hb hby at_13) rfl (l' := #[.val (.long pa), .second, .val (.long pb), .second, .val (.long pc'), .second, iv pk, .val (.long pa), .second, .val (.long pb), .second, .unset, .unset, .unset, .unset, .unset, .unset, .unset]) rfl k) ?_
    refine Go.pull (V := s₁.setTop (mkF m 31 #[.val (.long pa), .second, .val (.long pb), .second, .val (.long pc'), .second, iv pk, .val (.long pa), .second, .val (.long pb), .second, .unset, .unset, .unset, .unset, .unset, .unset, .unset] [])) (fun t k => XS.goto X0.here hx rfl (pc0 := 15) (pc' := 31) rfl (hb hby at_15) (by decide) (by decide) k) ?_
    refine Go.pull (V := s₁.setTop (mkF m 33 #[.val (.long pa), .second, .val (.long pb), .second, .val (.long pc'), .second, iv pk, .val (.long pa), .second, .val (.long pb), .second, .unset, .unset, .unset, .unset, .unset, .unset, .unset] [(.int pk)])) (fun t k => XS.iload X0.here hx rfl (hb hby at_31) rfl  k) ?_
    refine Go.pull (V := s₁.setTop (mkF m 34 #[.val (.long pa), .second, .val (.long pb), .second, .val (.long pc'), .second, iv pk, .val (.long pa), .second, .val (.long pb), .second, .unset, .unset, .unset, .unset, .unset, .unset, .unset] [(.int 5), (.int pk)])) (fun t k => XS.iconst X0.here hx rfl (hb hby at_33) k) ?_
    refine Go.pull (V := s₁.setTop (mkF m 35 #[.val (.long pa), .second, .val (.long pb), .second, .val (.long pc'), .second, iv pk, .val (.long pa), .second, .val (.long pb), .second, .unset, .unset, .unset, .unset, .unset, .unset, .unset] [(.int (pk >>> ((5 : Int32) &&& 31)))])) (fun t k => XS.ishr X0.here hx rfl (hb hby at_34) rfl k) ?_
    refine Go.pull (V := s₁.setTop (mkF m 36 #[.val (.long pa), .second, .val (.long pb), .second, .val (.long pc'), .second, iv pk, .val (.long pa), .second, .val (.long pb), .second, .unset, .unset, .unset, .unset, .unset, .unset, .unset] [(.int 3), (.int (pk >>> ((5 : Int32) &&& 31)))])) (fun t k => XS.iconst X0.here hx rfl (hb hby at_35) k) ?_
    refine Go.pull (V := s₁.setTop (mkF m 37 #[.val (.long pa), .second, .val (.long pb), .second, .val (.long pc'), .second, iv pk, .val (.long pa), .second, .val (.long pb), .second, .unset, .unset, .unset, .unset, .unset, .unset, .unset] [(.int ((pk >>> ((5 : Int32) &&& 31)) &&& (3 : Int32)))])) (fun t k => XS.iand X0.here hx rfl (hb hby at_36) rfl k) ?_
    refine Go.pull (V := s₁.setTop (mkF m 38 #[.val (.long pa), .second, .val (.long pb), .second, .val (.long pc'), .second, iv pk, .val (.long pa), .second, .val (.long pb), .second, .unset, .unset, .unset, .unset, .unset, .unset, .unset] [(.int 1), (.int ((pk >>> ((5 : Int32) &&& 31)) &&& (3 : Int32)))])) (fun t k => XS.iconst X0.here hx rfl (hb hby at_37) k) ?_
    refine Go.pull (V := s₁.setTop (mkF m 39 #[.val (.long pa), .second, .val (.long pb), .second, .val (.long pc'), .second, iv pk, .val (.long pa), .second, .val (.long pb), .second, .unset, .unset, .unset, .unset, .unset, .unset, .unset] [(.int (((pk >>> ((5 : Int32) &&& 31)) &&& (3 : Int32)) - (1 : Int32)))])) (fun t k => XS.isub X0.here hx rfl (hb hby at_38) rfl k) ?_
    refine Go.pull (V := s₁.setTop (mkF m 40 #[.val (.long pa), .second, .val (.long pb), .second, .val (.long pc'), .second, iv pk, .val (.long pa), .second, .val (.long pb), .second, .unset, .unset, .unset, .unset, .unset, .unset, .unset] [(.long ((((pk >>> ((5 : Int32) &&& 31)) &&& (3 : Int32)) - (1 : Int32)).toInt64))])) (fun t k => XS.i2l X0.here hx rfl (hb hby at_39) rfl k) ?_
    refine Go.pull (V := s₁.setTop (mkF m 42 #[.val (.long pa), .second, .val (.long pb), .second, .val (.long pc'), .second, iv pk, .val (.long pa), .second, .val (.long pb), .second, .val (.long ((((pk >>> ((5 : Int32) &&& 31)) &&& (3 : Int32)) - (1 : Int32)).toInt64)), .second, .unset, .unset, .unset, .unset, .unset] [])) (fun t k => XS.lstore X0.here hx rfl (hb hby at_40) rfl (l' := #[.val (.long pa), .second, .val (.long pb), .second, .val (.long pc'), .second, iv pk, .val (.long pa), .second, .val (.long pb), .second, .val (.long ((((pk >>> ((5 : Int32) &&& 31)) &&& (3 : Int32)) - (1 : Int32)).toInt64)), .second, .unset, .unset, .unset, .unset, .unset]) rfl k) ?_
    refine Go.pull (V := s₁.setTop (mkF m 44 #[.val (.long pa), .second, .val (.long pb), .second, .val (.long pc'), .second, iv pk, .val (.long pa), .second, .val (.long pb), .second, .val (.long ((((pk >>> ((5 : Int32) &&& 31)) &&& (3 : Int32)) - (1 : Int32)).toInt64)), .second, .unset, .unset, .unset, .unset, .unset] [(.int pk)])) (fun t k => XS.iload X0.here hx rfl (hb hby at_42) rfl  k) ?_
    refine Go.pull (V := s₁.setTop (mkF m 45 #[.val (.long pa), .second, .val (.long pb), .second, .val (.long pc'), .second, iv pk, .val (.long pa), .second, .val (.long pb), .second, .val (.long ((((pk >>> ((5 : Int32) &&& 31)) &&& (3 : Int32)) - (1 : Int32)).toInt64)), .second, .unset, .unset, .unset, .unset, .unset] [(.int 3), (.int pk)])) (fun t k => XS.iconst X0.here hx rfl (hb hby at_44) k) ?_
    refine Go.pull (V := s₁.setTop (mkF m 46 #[.val (.long pa), .second, .val (.long pb), .second, .val (.long pc'), .second, iv pk, .val (.long pa), .second, .val (.long pb), .second, .val (.long ((((pk >>> ((5 : Int32) &&& 31)) &&& (3 : Int32)) - (1 : Int32)).toInt64)), .second, .unset, .unset, .unset, .unset, .unset] [(.int (pk &&& (3 : Int32)))])) (fun t k => XS.iand X0.here hx rfl (hb hby at_45) rfl k) ?_
    refine Go.pull (V := s₁.setTop (mkF m 48 #[.val (.long pa), .second, .val (.long pb), .second, .val (.long pc'), .second, iv pk, .val (.long pa), .second, .val (.long pb), .second, .val (.long ((((pk >>> ((5 : Int32) &&& 31)) &&& (3 : Int32)) - (1 : Int32)).toInt64)), .second, iv (pk &&& (3 : Int32)), .unset, .unset, .unset, .unset] [])) (fun t k => XS.istore X0.here hx rfl (hb hby at_46) rfl (l' := #[.val (.long pa), .second, .val (.long pb), .second, .val (.long pc'), .second, iv pk, .val (.long pa), .second, .val (.long pb), .second, .val (.long ((((pk >>> ((5 : Int32) &&& 31)) &&& (3 : Int32)) - (1 : Int32)).toInt64)), .second, iv (pk &&& (3 : Int32)), .unset, .unset, .unset, .unset]) rfl k) ?_
    refine Go.pull (V := s₁.setTop (mkF m 50 #[.val (.long pa), .second, .val (.long pb), .second, .val (.long pc'), .second, iv pk, .val (.long pa), .second, .val (.long pb), .second, .val (.long ((((pk >>> ((5 : Int32) &&& 31)) &&& (3 : Int32)) - (1 : Int32)).toInt64)), .second, iv (pk &&& (3 : Int32)), .unset, .unset, .unset, .unset] [(.int (pk &&& (3 : Int32)))])) (fun t k => XS.iload X0.here hx rfl (hb hby at_48) rfl  k) ?_
    refine Go.pull (V := s₁.setTop (mkF m 51 #[.val (.long pa), .second, .val (.long pb), .second, .val (.long pc'), .second, iv pk, .val (.long pa), .second, .val (.long pb), .second, .val (.long ((((pk >>> ((5 : Int32) &&& 31)) &&& (3 : Int32)) - (1 : Int32)).toInt64)), .second, iv (pk &&& (3 : Int32)), .unset, .unset, .unset, .unset] [(.int 1), (.int (pk &&& (3 : Int32)))])) (fun t k => XS.iconst X0.here hx rfl (hb hby at_50) k) ?_
    by_cases hc51_34 : (pk &&& (3 : Int32)) = (1 : Int32)
    · skip
      refine Go.pull (V := s₁.setTop (mkF m 54 #[.val (.long pa), .second, .val (.long pb), .second, .val (.long pc'), .second, iv pk, .val (.long pa), .second, .val (.long pb), .second, .val (.long ((((pk >>> ((5 : Int32) &&& 31)) &&& (3 : Int32)) - (1 : Int32)).toInt64)), .second, iv (pk &&& (3 : Int32)), .unset, .unset, .unset, .unset] [])) (fun t k => XS.icmpNo X0.here hx rfl (hb hby at_51) rfl (XT.ii_ne_f hc51_34) k) ?_
      refine Go.pull (V := s₁.setTop (mkF m 56 #[.val (.long pa), .second, .val (.long pb), .second, .val (.long pc'), .second, iv pk, .val (.long pa), .second, .val (.long pb), .second, .val (.long ((((pk >>> ((5 : Int32) &&& 31)) &&& (3 : Int32)) - (1 : Int32)).toInt64)), .second, iv (pk &&& (3 : Int32)), .unset, .unset, .unset, .unset] [(.long pa)])) (fun t k => XS.lload X0.here hx rfl (hb hby at_54) rfl  k) ?_
      refine Go.pull (V := s₁.setTop (mkF m 58 #[.val (.long pa), .second, .val (.long pb), .second, .val (.long pc'), .second, iv pk, .val (.long pa), .second, .val (.long pb), .second, .val (.long ((((pk >>> ((5 : Int32) &&& 31)) &&& (3 : Int32)) - (1 : Int32)).toInt64)), .second, iv (pk &&& (3 : Int32)), .unset, .unset, .unset, .unset] [(.long ((((pk >>> ((5 : Int32) &&& 31)) &&& (3 : Int32)) - (1 : Int32)).toInt64)), (.long pa)])) (fun t k => XS.lload X0.here hx rfl (hb hby at_56) rfl  k) ?_
      refine Go.pull (V := s₁.setTop (mkF m 59 #[.val (.long pa), .second, .val (.long pb), .second, .val (.long pc'), .second, iv pk, .val (.long pa), .second, .val (.long pb), .second, .val (.long ((((pk >>> ((5 : Int32) &&& 31)) &&& (3 : Int32)) - (1 : Int32)).toInt64)), .second, iv (pk &&& (3 : Int32)), .unset, .unset, .unset, .unset] [(.long (pa + ((((pk >>> ((5 : Int32) &&& 31)) &&& (3 : Int32)) - (1 : Int32)).toInt64)))])) (fun t k => XS.ladd X0.here hx rfl (hb hby at_58) rfl k) ?_
      refine Go.pull (V := s₁.setTop (mkF m 61 #[.val (.long pa), .second, .val (.long pb), .second, .val (.long pc'), .second, iv pk, .val (.long pa), .second, .val (.long pb), .second, .val (.long ((((pk >>> ((5 : Int32) &&& 31)) &&& (3 : Int32)) - (1 : Int32)).toInt64)), .second, iv (pk &&& (3 : Int32)), .val (.long (pa + ((((pk >>> ((5 : Int32) &&& 31)) &&& (3 : Int32)) - (1 : Int32)).toInt64))), .second, .unset, .unset] [])) (fun t k => XS.lstore X0.here hx rfl (hb hby at_59) rfl (l' := #[.val (.long pa), .second, .val (.long pb), .second, .val (.long pc'), .second, iv pk, .val (.long pa), .second, .val (.long pb), .second, .val (.long ((((pk >>> ((5 : Int32) &&& 31)) &&& (3 : Int32)) - (1 : Int32)).toInt64)), .second, iv (pk &&& (3 : Int32)), .val (.long (pa + ((((pk >>> ((5 : Int32) &&& 31)) &&& (3 : Int32)) - (1 : Int32)).toInt64))), .second, .unset, .unset]) rfl k) ?_
      refine Go.pull (V := s₁.setTop (mkF m 84 #[.val (.long pa), .second, .val (.long pb), .second, .val (.long pc'), .second, iv pk, .val (.long pa), .second, .val (.long pb), .second, .val (.long ((((pk >>> ((5 : Int32) &&& 31)) &&& (3 : Int32)) - (1 : Int32)).toInt64)), .second, iv (pk &&& (3 : Int32)), .val (.long (pa + ((((pk >>> ((5 : Int32) &&& 31)) &&& (3 : Int32)) - (1 : Int32)).toInt64))), .second, .unset, .unset] [])) (fun t k => XS.goto X0.here hx rfl (pc0 := 61) (pc' := 84) rfl (hb hby at_61) (by decide) (by decide) k) ?_
      exact J84_1 (pb) (((((pk >>> ((5 : Int32) &&& 31)) &&& (3 : Int32)) - (1 : Int32)).toInt64)) ((pk &&& (3 : Int32))) ((pa + ((((pk >>> ((5 : Int32) &&& 31)) &&& (3 : Int32)) - (1 : Int32)).toInt64))) 
    · skip
      refine Go.pull (V := s₁.setTop (mkF m 64 #[.val (.long pa), .second, .val (.long pb), .second, .val (.long pc'), .second, iv pk, .val (.long pa), .second, .val (.long pb), .second, .val (.long ((((pk >>> ((5 : Int32) &&& 31)) &&& (3 : Int32)) - (1 : Int32)).toInt64)), .second, iv (pk &&& (3 : Int32)), .unset, .unset, .unset, .unset] [])) (fun t k => XS.icmpYes X0.here hx rfl (pc0 := 51) (pc' := 64) rfl (hb hby at_51) rfl (XT.ii_ne_t hc51_34) (by decide) (by decide) k) ?_
      refine Go.pull (V := s₁.setTop (mkF m 66 #[.val (.long pa), .second, .val (.long pb), .second, .val (.long pc'), .second, iv pk, .val (.long pa), .second, .val (.long pb), .second, .val (.long ((((pk >>> ((5 : Int32) &&& 31)) &&& (3 : Int32)) - (1 : Int32)).toInt64)), .second, iv (pk &&& (3 : Int32)), .unset, .unset, .unset, .unset] [(.int (pk &&& (3 : Int32)))])) (fun t k => XS.iload X0.here hx rfl (hb hby at_64) rfl  k) ?_
      refine Go.pull (V := s₁.setTop (mkF m 67 #[.val (.long pa), .second, .val (.long pb), .second, .val (.long pc'), .second, iv pk, .val (.long pa), .second, .val (.long pb), .second, .val (.long ((((pk >>> ((5 : Int32) &&& 31)) &&& (3 : Int32)) - (1 : Int32)).toInt64)), .second, iv (pk &&& (3 : Int32)), .unset, .unset, .unset, .unset] [(.int 2), (.int (pk &&& (3 : Int32)))])) (fun t k => XS.iconst X0.here hx rfl (hb hby at_66) k) ?_
      by_cases hc67_35 : (pk &&& (3 : Int32)) = (2 : Int32)
      · skip
        refine Go.pull (V := s₁.setTop (mkF m 70 #[.val (.long pa), .second, .val (.long pb), .second, .val (.long pc'), .second, iv pk, .val (.long pa), .second, .val (.long pb), .second, .val (.long ((((pk >>> ((5 : Int32) &&& 31)) &&& (3 : Int32)) - (1 : Int32)).toInt64)), .second, iv (pk &&& (3 : Int32)), .unset, .unset, .unset, .unset] [])) (fun t k => XS.icmpNo X0.here hx rfl (hb hby at_67) rfl (XT.ii_ne_f hc67_35) k) ?_
        refine Go.pull (V := s₁.setTop (mkF m 72 #[.val (.long pa), .second, .val (.long pb), .second, .val (.long pc'), .second, iv pk, .val (.long pa), .second, .val (.long pb), .second, .val (.long ((((pk >>> ((5 : Int32) &&& 31)) &&& (3 : Int32)) - (1 : Int32)).toInt64)), .second, iv (pk &&& (3 : Int32)), .unset, .unset, .unset, .unset] [(.long pb)])) (fun t k => XS.lload X0.here hx rfl (hb hby at_70) rfl  k) ?_
        refine Go.pull (V := s₁.setTop (mkF m 74 #[.val (.long pa), .second, .val (.long pb), .second, .val (.long pc'), .second, iv pk, .val (.long pa), .second, .val (.long pb), .second, .val (.long ((((pk >>> ((5 : Int32) &&& 31)) &&& (3 : Int32)) - (1 : Int32)).toInt64)), .second, iv (pk &&& (3 : Int32)), .unset, .unset, .unset, .unset] [(.long ((((pk >>> ((5 : Int32) &&& 31)) &&& (3 : Int32)) - (1 : Int32)).toInt64)), (.long pb)])) (fun t k => XS.lload X0.here hx rfl (hb hby at_72) rfl  k) ?_
        refine Go.pull (V := s₁.setTop (mkF m 75 #[.val (.long pa), .second, .val (.long pb), .second, .val (.long pc'), .second, iv pk, .val (.long pa), .second, .val (.long pb), .second, .val (.long ((((pk >>> ((5 : Int32) &&& 31)) &&& (3 : Int32)) - (1 : Int32)).toInt64)), .second, iv (pk &&& (3 : Int32)), .unset, .unset, .unset, .unset] [(.long (pb + ((((pk >>> ((5 : Int32) &&& 31)) &&& (3 : Int32)) - (1 : Int32)).toInt64)))])) (fun t k => XS.ladd X0.here hx rfl (hb hby at_74) rfl k) ?_
        refine Go.pull (V := s₁.setTop (mkF m 77 #[.val (.long pa), .second, .val (.long pb), .second, .val (.long pc'), .second, iv pk, .val (.long pa), .second, .val (.long pb), .second, .val (.long ((((pk >>> ((5 : Int32) &&& 31)) &&& (3 : Int32)) - (1 : Int32)).toInt64)), .second, iv (pk &&& (3 : Int32)), .val (.long (pb + ((((pk >>> ((5 : Int32) &&& 31)) &&& (3 : Int32)) - (1 : Int32)).toInt64))), .second, .unset, .unset] [])) (fun t k => XS.lstore X0.here hx rfl (hb hby at_75) rfl (l' := #[.val (.long pa), .second, .val (.long pb), .second, .val (.long pc'), .second, iv pk, .val (.long pa), .second, .val (.long pb), .second, .val (.long ((((pk >>> ((5 : Int32) &&& 31)) &&& (3 : Int32)) - (1 : Int32)).toInt64)), .second, iv (pk &&& (3 : Int32)), .val (.long (pb + ((((pk >>> ((5 : Int32) &&& 31)) &&& (3 : Int32)) - (1 : Int32)).toInt64))), .second, .unset, .unset]) rfl k) ?_
        refine Go.pull (V := s₁.setTop (mkF m 84 #[.val (.long pa), .second, .val (.long pb), .second, .val (.long pc'), .second, iv pk, .val (.long pa), .second, .val (.long pb), .second, .val (.long ((((pk >>> ((5 : Int32) &&& 31)) &&& (3 : Int32)) - (1 : Int32)).toInt64)), .second, iv (pk &&& (3 : Int32)), .val (.long (pb + ((((pk >>> ((5 : Int32) &&& 31)) &&& (3 : Int32)) - (1 : Int32)).toInt64))), .second, .unset, .unset] [])) (fun t k => XS.goto X0.here hx rfl (pc0 := 77) (pc' := 84) rfl (hb hby at_77) (by decide) (by decide) k) ?_
        exact J84_1 (pb) (((((pk >>> ((5 : Int32) &&& 31)) &&& (3 : Int32)) - (1 : Int32)).toInt64)) ((pk &&& (3 : Int32))) ((pb + ((((pk >>> ((5 : Int32) &&& 31)) &&& (3 : Int32)) - (1 : Int32)).toInt64))) 
      · skip
        refine Go.pull (V := s₁.setTop (mkF m 80 #[.val (.long pa), .second, .val (.long pb), .second, .val (.long pc'), .second, iv pk, .val (.long pa), .second, .val (.long pb), .second, .val (.long ((((pk >>> ((5 : Int32) &&& 31)) &&& (3 : Int32)) - (1 : Int32)).toInt64)), .second, iv (pk &&& (3 : Int32)), .unset, .unset, .unset, .unset] [])) (fun t k => XS.icmpYes X0.here hx rfl (pc0 := 67) (pc' := 80) rfl (hb hby at_67) rfl (XT.ii_ne_t hc67_35) (by decide) (by decide) k) ?_
        refine Go.pull (V := s₁.setTop (mkF m 82 #[.val (.long pa), .second, .val (.long pb), .second, .val (.long pc'), .second, iv pk, .val (.long pa), .second, .val (.long pb), .second, .val (.long ((((pk >>> ((5 : Int32) &&& 31)) &&& (3 : Int32)) - (1 : Int32)).toInt64)), .second, iv (pk &&& (3 : Int32)), .unset, .unset, .unset, .unset] [(.long pc')])) (fun t k => XS.lload X0.here hx rfl (hb hby at_80) rfl  k) ?_
        refine Go.pull (V := s₁.setTop (mkF m 84 #[.val (.long pa), .second, .val (.long pb), .second, .val (.long pc'), .second, iv pk, .val (.long pa), .second, .val (.long pb), .second, .val (.long ((((pk >>> ((5 : Int32) &&& 31)) &&& (3 : Int32)) - (1 : Int32)).toInt64)), .second, iv (pk &&& (3 : Int32)), .val (.long pc'), .second, .unset, .unset] [])) (fun t k => XS.lstore X0.here hx rfl (hb hby at_82) rfl (l' := #[.val (.long pa), .second, .val (.long pb), .second, .val (.long pc'), .second, iv pk, .val (.long pa), .second, .val (.long pb), .second, .val (.long ((((pk >>> ((5 : Int32) &&& 31)) &&& (3 : Int32)) - (1 : Int32)).toInt64)), .second, iv (pk &&& (3 : Int32)), .val (.long pc'), .second, .unset, .unset]) rfl k) ?_
        exact J84_1 (pb) (((((pk >>> ((5 : Int32) &&& 31)) &&& (3 : Int32)) - (1 : Int32)).toInt64)) ((pk &&& (3 : Int32))) (pc') 
set_option maxRecDepth 65536 in
set_option maxHeartbeats 40000000 in
theorem comes_1 {Post : Tables → Env → Array Value → State → Outcome → State → Prop} (hpost : ∀ tb e args s v u, (limb_1_1.after args s (.returned v) u = true ∧ limb_1_2.after args s (.returned v) u = true ∧ True) → FrameEnd s (.returned v) u (Jvm.fieldLocs frame_1_writes args s ++ Jvm.arrayLocs frame_1_arrays args s ++ Jvm.staticLocs frame_1_statics s) 16 128 → Post tb e args s (.returned v) u) :
    ArmFor flags0 classFile x code maxLocals ret World_1 tables_1 room_1 Calls_1 rest_1 Pre_1 Post := by
  intro l hfl _ _ p e ha hc hk s m args below hf hA hF happ hP
  obtain ⟨hcalls, hrest, hpre⟩ := hP
  obtain ⟨-, -, -, hnamed, -, -, -, hat⟩ := (Spec.applies_iff hf).mp happ
  obtain ⟨hg, hn⟩ := and_e (Cond.before_iff.mp (show (Jvm.Cond.and given_1 narrow_1).before args s = true from hpre))
  obtain ⟨y1, y2⟩ := and_e hg
  obtain ⟨y3, y4⟩ := and_e y2
  obtain ⟨y5, y6⟩ := and_e y4
  obtain ⟨y7, y8⟩ := and_e y6
  obtain ⟨w0, w1, w2, w3, rfl⟩ : ∃ w0 w1 w2 w3 : Value, args = #[w0, w1, w2, w3] := by
    have hs : args.size = 4 := by simpa [Cond.value, given_1] using y1
    obtain ⟨L⟩ := args
    match L, hs with
    | [w0, w1, w2, w3], _ => exact ⟨w0, w1, w2, w3, rfl⟩
  have hw := fun d (hd : d ∈ tables_1) => atoms_spec (ws := Jvm.Cond.code x code maxLocals ret :: tables_1) hat d (List.mem_cons_of_mem _ hd)
  have hfit : Fit s := fun {y c} hc i hi => by
    obtain ⟨ha, rfl⟩ := Array.getElem?_eq_some_iff.mp hc
    have q := List.all_eq_true.mp ((Array.all_eq_true_iff_forall_mem.mp hF) _ (Array.getElem_mem ha)) i (List.mem_range.mpr hi)
    simpa [Array.getElem?_eq_getElem hi] using q
  obtain ⟨i0, ei0⟩ := isL_v y3
  obtain rfl : w0 = (.long i0) := Option.some.inj ei0
  obtain ⟨i1, ei1⟩ := isL_v y5
  obtain rfl : w1 = (.long i1) := Option.some.inj ei1
  obtain ⟨i2, ei2⟩ := isL_v y7
  obtain rfl : w2 = (.long i2) := Option.some.inj ei2
  obtain ⟨i3, ei3⟩ := is_v y8
  obtain rfl : w3 = (.int i3) := Option.some.inj ei3
  obtain ⟨n, o, h1, h2, h3, _, L, rfl, ⟨rfl, N⟩, hq⟩ := rm0 l s _ hw tables_1 i0 i1 i2 i3 s.heap s.heap.size (Nat.le_refl _)  p e ha hc hk s m _ below hf ((Spec.applies_iff_loose hf).mp happ).1 ⟨rfl, State.Warmed39.refl s, rfl⟩ trivial
  refine ⟨n, _, h1, h2, h3, hpost _ _ _ _ _ _ ⟨Cond.after_iff.mpr rfl, Cond.after_iff.mpr (eq_i res_at (Term.int_eval (1)) rfl), trivial⟩ ⟨hq.1, hq.2.1, (hq.2.2.sift fun y hy => Or.inr (N y hy)).mono (by decide) (by decide)⟩⟩
theorem main_1_1 : Claimed_1_1 := comes_1 fun _ _ _ _ _ _ h hF => ⟨h.1, hF⟩
theorem main_1_2 : Claimed_1_2 := comes_1 fun _ _ _ _ _ _ h hF => ⟨h.2.1, hF⟩
end Jvm.Pilot.@@N@@
namespace Jvm.Pilot.@@N@@
open Jvm Jvm.ClassFile Sem Op Lib Jvm.Free Jvm.Stand Jvm.Pilot.@@N@@.Jvm.D
/-! MADE BY PROGRAM (witnessworld.py) out of the Statement's table words and the real class files: 11 classes; the members and pool entries that the words name. The judged class is class 1, her method 1. -/
namespace start1
open Jvm.ClassFile
def u (s : String) : CpInfo := .utf8 (stringToUtf16 s)
/-- a pool by its gaps: so many unusable entries, then the entry; so many at the end -/
def gap : Nat → List CpInfo → List CpInfo
  | 0, r => r
  | n + 1, r => .unusable :: gap n r
def poolList (es : List (Nat × CpInfo)) (last : Nat) : List CpInfo := es.foldr (fun e r => gap e.1 (e.2 :: r)) (gap last [])
def pool (es : List (Nat × CpInfo)) (last : Nat) : Array CpInfo := ⟨poolList es last⟩
def fileOf (pool : Array CpInfo) (this : Nat) (attrs : Array Attribute := #[]) (ms : Array MethodInfo := #[]) (fl : Nat := 33) (sup : Nat := 0) (ifs : Array Nat := #[]) (fds : Array FieldInfo := #[]) : ClassFile where
  minorVersion := 0
  majorVersion := 65
  constantPool := pool
  accessFlags := fl
  thisClass := this
  superClass := sup
  interfaces := ifs
  fields := fds
  methods := ms
  attributes := attrs
def plain (name : String) (sup : Option ClassId) : Class where
  name := name
  kind := .ordinary
  loader := none
  accessFlags := 33
  super := sup
  interfaces := #[]
  cf := none
  fields := #[]
  methods := #[]
  instanceTypes := #[]
  staticTypes := #[]
  resolved := #[]
  callSites := []
  init := .initialized
  statics := none
  mirror := none

def pool0 : Array CpInfo := pool [(5, u "<init>"), (0, u "()V"), (1, .class_ 10), (1, u "java/lang/Object")] 113

def k0c0 : Code := { maxStack := 0, maxLocals := 1, code := object_method_1_code, exceptionTable := #[], attributes := #[] }
def k0m0 : Method := { name := "<init>", desc := "()V", sig := { parameters := [], returnType := none }, accessFlags := 1, code := some k0c0 }
/-- java/lang/Object -/
def k0 : Class := { plain "java/lang/Object" none with
  accessFlags := 33
  interfaces := #[]
  cf := some (fileOf pool0 8 #[] #[{ accessFlags := 1, nameIndex := 5, descriptorIndex := 6, attributes := #[] }] 33 0 #[] #[])
  fields := #[]
  methods := #[k0m0]
  instanceTypes := #[]
  staticTypes := #[]
  resolved := Array.replicate 124 none
  statics := none }

def pool1 : Array CpInfo := pool [(2, .class_ 4), (1, u "java/lang/Object"), (0, u "<init>"), (0, u "()V"), (0, .class_ 8), (0, u "com/example/salish/salish/LongRange"), (0, .methodref 7 10), (0, .nameAndType 5 11), (0, u "(JJ)V"), (0, .methodref 13 14), (0, .class_ 15), (0, .nameAndType 16 17), (0, u "java/lang/Math"), (0, u "min"), (0, u "(JJ)J"), (0, .methodref 13 19), (0, .nameAndType 20 17), (0, u "max"), (0, .methodref 7 22), (0, .nameAndType 23 24), (0, u "contains"), (0, u "(J)Z"), (0, .class_ 26), (0, u "com/example/salish/salish/LongRangeContainsPinLaw"), (2, u "law"), (0, u "(JJJI)Z")] 3

def k1m0 : Method := { name := "<init>", desc := "()V", sig := { parameters := [], returnType := none }, accessFlags := 2, code := none }
def k1c1 : Code := { maxStack := 6, maxLocals := 18, code := code, exceptionTable := #[], attributes := #[] }
def k1m1 : Method := { name := "law", desc := "(JJJI)Z", sig := { parameters := [.long, .long, .long, .int], returnType := some .boolean }, accessFlags := 9, code := some k1c1 }
/-- com/example/salish/salish/LongRangeContainsPinLaw -/
def k1 : Class := { plain "com/example/salish/salish/LongRangeContainsPinLaw" (some 0) with
  accessFlags := 49
  interfaces := #[]
  cf := some (fileOf pool1 25 #[] #[{ accessFlags := 2, nameIndex := 5, descriptorIndex := 6, attributes := #[] }, { accessFlags := 9, nameIndex := 29, descriptorIndex := 30, attributes := #[] }] 49 2 #[] #[])
  fields := #[]
  methods := #[k1m0, k1m1]
  instanceTypes := #[]
  staticTypes := #[]
  resolved := Array.replicate 34 none
  statics := none }

def pool2 : Array CpInfo := pool [(1, .methodref 2 3), (0, .class_ 4), (0, .nameAndType 5 6), (0, u "java/lang/Object"), (0, u "<init>"), (0, u "()V"), (0, .class_ 8), (0, u "java/lang/Record")] 13

def k2c0 : Code := { maxStack := 1, maxLocals := 1, code := jdk_30_method_1_code, exceptionTable := #[], attributes := #[] }
def k2m0 : Method := { name := "<init>", desc := "()V", sig := { parameters := [], returnType := none }, accessFlags := 4, code := some k2c0 }
/-- java/lang/Record -/
def k2 : Class := { plain "java/lang/Record" (some 0) with
  accessFlags := 1057
  interfaces := #[]
  cf := some (fileOf pool2 7 #[] #[{ accessFlags := 4, nameIndex := 5, descriptorIndex := 6, attributes := #[] }] 1057 2 #[] #[])
  fields := #[]
  methods := #[k2m0]
  instanceTypes := #[]
  staticTypes := #[]
  resolved := Array.replicate 22 none
  statics := none }

def pool3 : Array CpInfo := pool [(1, .methodref 2 3), (0, .class_ 4), (0, .nameAndType 5 6), (0, u "java/lang/Record"), (0, u "<init>"), (0, u "()V"), (0, .fieldref 8 9), (0, .class_ 10), (0, .nameAndType 11 12), (0, u "com/example/salish/salish/LongRange"), (0, u "least"), (0, u "J"), (0, .fieldref 8 14), (0, .nameAndType 15 12), (0, u "most"), (18, u "LEAST_LONG"), (0, u "Ljava/math/BigInteger;"), (12, u "MOST_LONG"), (6, u "EMPTY"), (0, u "Lcom/example/salish/salish/LongRange;"), (13, u "(JJ)V"), (30, u "contains"), (0, u "(J)Z")] 46

def k3c0 : Code := { maxStack := 3, maxLocals := 5, code := prog_3_method_1_code, exceptionTable := #[], attributes := #[] }
def k3m0 : Method := { name := "<init>", desc := "(JJ)V", sig := { parameters := [.long, .long], returnType := none }, accessFlags := 0, code := some k3c0 }
def k3c1 : Code := { maxStack := 4, maxLocals := 3, code := prog_3_method_3_code, exceptionTable := #[], attributes := #[] }
def k3m1 : Method := { name := "contains", desc := "(J)Z", sig := { parameters := [.long], returnType := some .boolean }, accessFlags := 0, code := some k3c1 }
/-- com/example/salish/salish/LongRange -/
def k3 : Class := { plain "com/example/salish/salish/LongRange" (some 2) with
  accessFlags := 48
  interfaces := #[]
  cf := some (fileOf pool3 8 #[] #[{ accessFlags := 0, nameIndex := 5, descriptorIndex := 70, attributes := #[] }, { accessFlags := 0, nameIndex := 101, descriptorIndex := 102, attributes := #[] }] 48 2 #[] #[{ accessFlags := 18, nameIndex := 11, descriptorIndex := 12, attributes := #[] }, { accessFlags := 18, nameIndex := 15, descriptorIndex := 12, attributes := #[] }, { accessFlags := 26, nameIndex := 34, descriptorIndex := 35, attributes := #[] }, { accessFlags := 26, nameIndex := 48, descriptorIndex := 35, attributes := #[] }, { accessFlags := 26, nameIndex := 55, descriptorIndex := 56, attributes := #[] }])
  fields := #[{ name := "least", type := .long, accessFlags := 18, slot := 0, constantValue := 0 }, { name := "most", type := .long, accessFlags := 18, slot := 1, constantValue := 0 }, { name := "LEAST_LONG", type := (.object "java/math/BigInteger"), accessFlags := 26, slot := 0, constantValue := 0 }, { name := "MOST_LONG", type := (.object "java/math/BigInteger"), accessFlags := 26, slot := 1, constantValue := 0 }, { name := "EMPTY", type := (.object "com/example/salish/salish/LongRange"), accessFlags := 26, slot := 2, constantValue := 0 }]
  methods := #[k3m0, k3m1]
  instanceTypes := #[.long, .long]
  staticTypes := #[(.object "java/math/BigInteger"), (.object "java/math/BigInteger"), (.object "com/example/salish/salish/LongRange")]
  resolved := Array.replicate 149 none
  statics := none }

def pool4 : Array CpInfo := pool [(1, .class_ 2), (0, u "java/lang/Math"), (1, .class_ 6), (1, u "java/lang/Object"), (0, u "<init>"), (0, u "()V"), (89, .class_ 100), (1, u "java/lang/Math$RandomNumberGeneratorHolder"), (20, u "(JJ)J"), (50, u "negativeZeroFloatBits"), (0, u "J"), (2, u "negativeZeroDoubleBits"), (21, u "max"), (2, u "min"), (43, u "$assertionsDisabled"), (0, u "Z"), (91, u "twoToTheDoubleScaleDown"), (0, u "D"), (4, u "twoToTheDoubleScaleUp"), (9, u "E"), (3, u "PI"), (2, u "TAU"), (2, u "DEGREES_TO_RADIANS"), (0, u "RADIANS_TO_DEGREES")] 94

def k4m0 : Method := { name := "<init>", desc := "()V", sig := { parameters := [], returnType := none }, accessFlags := 2, code := none }
def k4c1 : Code := { maxStack := 4, maxLocals := 4, code := jdk_29_method_66_code, exceptionTable := #[], attributes := #[] }
def k4m1 : Method := { name := "max", desc := "(JJ)J", sig := { parameters := [.long, .long], returnType := some .long }, accessFlags := 9, code := some k4c1 }
def k4c2 : Code := { maxStack := 4, maxLocals := 4, code := jdk_29_method_70_code, exceptionTable := #[], attributes := #[] }
def k4m2 : Method := { name := "min", desc := "(JJ)J", sig := { parameters := [.long, .long], returnType := some .long }, accessFlags := 9, code := some k4c2 }
/-- java/lang/Math -/
def k4 : Class := { plain "java/lang/Math" (some 0) with
  accessFlags := 49
  interfaces := #[]
  cf := some (fileOf pool4 1 #[.nestMembers #[98]] #[{ accessFlags := 2, nameIndex := 7, descriptorIndex := 8, attributes := #[] }, { accessFlags := 9, nameIndex := 198, descriptorIndex := 121, attributes := #[] }, { accessFlags := 9, nameIndex := 201, descriptorIndex := 121, attributes := #[] }] 49 4 #[] #[{ accessFlags := 25, nameIndex := 354, descriptorIndex := 339, attributes := #[] }, { accessFlags := 25, nameIndex := 358, descriptorIndex := 339, attributes := #[] }, { accessFlags := 25, nameIndex := 361, descriptorIndex := 339, attributes := #[] }, { accessFlags := 26, nameIndex := 364, descriptorIndex := 339, attributes := #[] }, { accessFlags := 26, nameIndex := 365, descriptorIndex := 339, attributes := #[] }, { accessFlags := 26, nameIndex := 172, descriptorIndex := 173, attributes := #[] }, { accessFlags := 26, nameIndex := 176, descriptorIndex := 173, attributes := #[] }, { accessFlags := 8, nameIndex := 344, descriptorIndex := 339, attributes := #[] }, { accessFlags := 8, nameIndex := 338, descriptorIndex := 339, attributes := #[] }, { accessFlags := 4120, nameIndex := 245, descriptorIndex := 246, attributes := #[] }])
  fields := #[{ name := "E", type := .double, accessFlags := 25, slot := 0, constantValue := 0 }, { name := "PI", type := .double, accessFlags := 25, slot := 1, constantValue := 0 }, { name := "TAU", type := .double, accessFlags := 25, slot := 2, constantValue := 0 }, { name := "DEGREES_TO_RADIANS", type := .double, accessFlags := 26, slot := 3, constantValue := 0 }, { name := "RADIANS_TO_DEGREES", type := .double, accessFlags := 26, slot := 4, constantValue := 0 }, { name := "negativeZeroFloatBits", type := .long, accessFlags := 26, slot := 5, constantValue := 0 }, { name := "negativeZeroDoubleBits", type := .long, accessFlags := 26, slot := 6, constantValue := 0 }, { name := "twoToTheDoubleScaleUp", type := .double, accessFlags := 8, slot := 7, constantValue := 0 }, { name := "twoToTheDoubleScaleDown", type := .double, accessFlags := 8, slot := 8, constantValue := 0 }, { name := "$assertionsDisabled", type := .boolean, accessFlags := 4120, slot := 9, constantValue := 0 }]
  methods := #[k4m0, k4m1, k4m2]
  instanceTypes := #[]
  staticTypes := #[.double, .double, .double, .double, .double, .long, .long, .double, .double, .boolean]
  resolved := Array.replicate 460 none
  statics := none }

def pool5 : Array CpInfo := pool [(1, u "java/lang/Cloneable"), (0, .class_ 1), (0, u "java/lang/Object"), (0, .class_ 3)] 3

/-- java/lang/Cloneable -/
def k5 : Class := { plain "java/lang/Cloneable" (some 0) with
  accessFlags := 1537
  interfaces := #[]
  cf := some (fileOf pool5 2 #[] #[] 1537 4 #[] #[])
  fields := #[]
  methods := #[]
  instanceTypes := #[]
  staticTypes := #[]
  resolved := Array.replicate 8 none
  statics := none }

def pool6 : Array CpInfo := pool [(1, u "java/io/Serializable"), (0, .class_ 1), (0, u "java/lang/Object"), (0, .class_ 3)] 3

/-- java/io/Serializable -/
def k6 : Class := { plain "java/io/Serializable" (some 0) with
  accessFlags := 1537
  interfaces := #[]
  cf := some (fileOf pool6 2 #[] #[] 1537 4 #[] #[])
  fields := #[]
  methods := #[]
  instanceTypes := #[]
  staticTypes := #[]
  resolved := Array.replicate 8 none
  statics := none }

/-- the primitive byte -/
def k7 : Class := { plain "byte" none with kind := .primitive 'B', accessFlags := 0x411 }
/-- [B -/
def k8 : Class := { plain "[B" (some 0) with kind := .array 7 .byte, interfaces := #[5, 6], accessFlags := 1041 }

/-- the primitive int -/
def k9 : Class := { plain "int" none with kind := .primitive 'I', accessFlags := 0x411 }
/-- [I -/
def k10 : Class := { plain "[I" (some 0) with kind := .array 9 .int, interfaces := #[5, 6], accessFlags := 1041 }

def heap : Heap := #[]
def classes : Array Class := #[k0, k1, k2, k3, k4, k5, k6, k7, k8, k9, k10]
def interned : List (Array UInt16 × Addr) := []
def slotsUsed : Nat := 0
def theMethod : MethodId := ⟨1, 1⟩
def args0 : Array Value := #[.long 1, .long 5, .long 3, .int 4]
def aboutOver (below : List Frame) : State where
  vm := { classes := classes, interned := interned.toArray }
  heap := heap
  slotsUsed := slotsUsed
  threads := #[{ frames := .invoking theMethod args0 :: below }]
def below0 : List Frame := [.native { method := ⟨0, 0⟩, args := #[] }]
def about1 : State := aboutOver below0
def p0 : Program := .bare "" "" ""
def e0 : Env := launch0.env 0 0 0
theorem w_frames : about1.frames = Frame.invoking theMethod args0 :: below0 := rfl
set_option maxRecDepth 65536 in
theorem w_args : argsFit about1.vm theMethod args0 = true := by decide +kernel
set_option maxRecDepth 65536 in
theorem w_heap : heapFits about1 = true := by decide +kernel
set_option maxRecDepth 65536 in
theorem w_runnable : about1.curStatus? = some .runnable := by decide +kernel
set_option maxRecDepth 65536 in
theorem w_alone : about1.alone = true := by decide +kernel
set_option maxRecDepth 65536 in
theorem w_named : about1.methodNamed? x = some theMethod := by decide +kernel
set_option maxRecDepth 65536 in
theorem w_hears : about1.hears theMethod below0 = true := by decide +kernel
set_option maxRecDepth 65536 in
theorem w_ripe : about1.ripe theMethod args0 below0 = true := by decide +kernel
theorem w_running : about1.status = .running := rfl
set_option maxRecDepth 65536 in
theorem w_room : about1.hasRoom e0.platform room_1 = true :=
  launch0.hasRoom_least _ room_1 (by decide +kernel) (by decide +kernel) (by decide +kernel) (by decide +kernel) (by decide +kernel) (by decide +kernel)
theorem allAtoms_all (ts : List Jvm.Cond) (a : Array Jvm.Value) (st : Jvm.State) : (allAtoms ts).before a st = ts.all (fun c => c.before a st) := by
  induction ts with
  | nil => rfl
  | cons c t ih =>
    show (Jvm.Cond.and c (allAtoms t)).before a st = _
    rw [Jvm.Cond.before_and, ih, List.all_cons]
def words1 : List Jvm.Cond := Jvm.Cond.code x code maxLocals ret :: tables_1
/-- a 'code' word, met by the world's own term for the bytes: nothing is compared byte by byte -/
theorem code_word {y : MethodName} {bytes : ByteArray} {mx : Nat} {rt : Option FieldType} {a : Array Value} {s : State} {m : MethodId} {meth : Method} {c : Code} (h1 : s.methodNamed? y = some m) (h2 : s.vm.method? m = some meth) (h3 : meth.code = some c) (h4 : c.code = bytes)
    (h5 : (c.maxLocals == mx && c.exceptionTable.isEmpty && decide (c.maxStack ≤ mostOperands) && decide (meth.sig.returnType = rt) && !meth.locks && decide (parseMethodDescriptor y.desc = some meth.sig)) = true) : (Jvm.Cond.code y bytes mx rt).before a s = true := by
  simp only [Bool.and_eq_true, beq_iff_eq, Bool.not_eq_true', decide_eq_true_eq] at h5
  obtain ⟨⟨⟨⟨⟨g1, g2⟩, g3⟩, g4⟩, g5⟩, g6⟩ := h5
  simp [Cond.before, Cond.holds, Cond.value, h1, h2, h3, h4, g1, g2, g3, g4, g5, g6]
def isCode : Jvm.Cond → Bool
  | .code _ _ _ _ => true
  | _ => false
theorem all_split {L : List Jvm.Cond} {P : Jvm.Cond → Bool} (h1 : L.all (fun c => isCode c || P c) = true) (h2 : ∀ c ∈ L.filter isCode, P c = true) : L.all P = true := by
  refine List.all_eq_true.mpr fun c hc => ?_
  have h := List.all_eq_true.mp h1 c hc
  rcases Bool.eq_false_or_eq_true (isCode c) with hi | hi
  · exact h2 c (List.mem_filter.mpr ⟨hc, hi⟩)
  · simpa [hi] using h
set_option maxRecDepth 65536 in
theorem w_c0 : (Jvm.Cond.code x code maxLocals ret).before args0 about1 = true := code_word (m := ⟨1, 1⟩) (meth := k1m1) (c := k1c1) (by decide +kernel) rfl rfl rfl (by decide +kernel)
set_option maxRecDepth 65536 in
theorem w_c1 : (Jvm.Cond.code ({ cls := "com/example/salish/salish/LongRange", name := "<init>", desc := "(JJ)V" } : Jvm.MethodName) prog_3_method_1_code (5 : Nat) (Option.none : Option Jvm.ClassFile.FieldType)).before args0 about1 = true := code_word (m := ⟨3, 0⟩) (meth := k3m0) (c := k3c0) (by decide +kernel) rfl rfl rfl (by decide +kernel)
set_option maxRecDepth 65536 in
theorem w_c2 : (Jvm.Cond.code ({ cls := "java/lang/Record", name := "<init>", desc := "()V" } : Jvm.MethodName) jdk_30_method_1_code (1 : Nat) (Option.none : Option Jvm.ClassFile.FieldType)).before args0 about1 = true := code_word (m := ⟨2, 0⟩) (meth := k2m0) (c := k2c0) (by decide +kernel) rfl rfl rfl (by decide +kernel)
set_option maxRecDepth 65536 in
theorem w_c3 : (Jvm.Cond.code ({ cls := "java/lang/Object", name := "<init>", desc := "()V" } : Jvm.MethodName) object_method_1_code (1 : Nat) (Option.none : Option Jvm.ClassFile.FieldType)).before args0 about1 = true := code_word (m := ⟨0, 0⟩) (meth := k0m0) (c := k0c0) (by decide +kernel) rfl rfl rfl (by decide +kernel)
set_option maxRecDepth 65536 in
theorem w_c4 : (Jvm.Cond.code ({ cls := "java/lang/Math", name := "min", desc := "(JJ)J" } : Jvm.MethodName) jdk_29_method_70_code (4 : Nat) (Option.some Jvm.ClassFile.FieldType.long)).before args0 about1 = true := code_word (m := ⟨4, 2⟩) (meth := k4m2) (c := k4c2) (by decide +kernel) rfl rfl rfl (by decide +kernel)
set_option maxRecDepth 65536 in
theorem w_c5 : (Jvm.Cond.code ({ cls := "java/lang/Math", name := "max", desc := "(JJ)J" } : Jvm.MethodName) jdk_29_method_66_code (4 : Nat) (Option.some Jvm.ClassFile.FieldType.long)).before args0 about1 = true := code_word (m := ⟨4, 1⟩) (meth := k4m1) (c := k4c1) (by decide +kernel) rfl rfl rfl (by decide +kernel)
set_option maxRecDepth 65536 in
theorem w_c6 : (Jvm.Cond.code ({ cls := "com/example/salish/salish/LongRange", name := "contains", desc := "(J)Z" } : Jvm.MethodName) prog_3_method_3_code (3 : Nat) (Option.some Jvm.ClassFile.FieldType.boolean)).before args0 about1 = true := code_word (m := ⟨3, 1⟩) (meth := k3m1) (c := k3c1) (by decide +kernel) rfl rfl rfl (by decide +kernel)
def codes1 : List Jvm.Cond := [Jvm.Cond.code x code maxLocals ret, Jvm.Cond.code ({ cls := "com/example/salish/salish/LongRange", name := "<init>", desc := "(JJ)V" } : Jvm.MethodName) prog_3_method_1_code (5 : Nat) (Option.none : Option Jvm.ClassFile.FieldType), Jvm.Cond.code ({ cls := "java/lang/Record", name := "<init>", desc := "()V" } : Jvm.MethodName) jdk_30_method_1_code (1 : Nat) (Option.none : Option Jvm.ClassFile.FieldType), Jvm.Cond.code ({ cls := "java/lang/Object", name := "<init>", desc := "()V" } : Jvm.MethodName) object_method_1_code (1 : Nat) (Option.none : Option Jvm.ClassFile.FieldType), Jvm.Cond.code ({ cls := "java/lang/Math", name := "min", desc := "(JJ)J" } : Jvm.MethodName) jdk_29_method_70_code (4 : Nat) (Option.some Jvm.ClassFile.FieldType.long), Jvm.Cond.code ({ cls := "java/lang/Math", name := "max", desc := "(JJ)J" } : Jvm.MethodName) jdk_29_method_66_code (4 : Nat) (Option.some Jvm.ClassFile.FieldType.long), Jvm.Cond.code ({ cls := "com/example/salish/salish/LongRange", name := "contains", desc := "(J)Z" } : Jvm.MethodName) prog_3_method_3_code (3 : Nat) (Option.some Jvm.ClassFile.FieldType.boolean)]
set_option maxRecDepth 65536 in
theorem codes_eq : words1.filter isCode = codes1 := rfl
theorem w_codes : ∀ c ∈ words1.filter isCode, c.before args0 about1 = true := by
  rw [codes_eq]
  intro c hc
  simp only [codes1, List.mem_cons, List.not_mem_nil, or_false] at hc
  rcases hc with rfl | rfl | rfl | rfl | rfl | rfl | rfl
  · exact w_c0
  · exact w_c1
  · exact w_c2
  · exact w_c3
  · exact w_c4
  · exact w_c5
  · exact w_c6
set_option maxRecDepth 65536 in
theorem w_t1 : (words1.take 24).all (fun c => isCode c || c.before args0 about1) = true := by decide +kernel
set_option maxRecDepth 65536 in
theorem w_t2 : (words1.drop 24).all (fun c => isCode c || c.before args0 about1) = true := by decide +kernel
theorem w_tables : (allAtoms (Jvm.Cond.code x code maxLocals ret :: tables_1)).before args0 about1 = true := by
  rw [allAtoms_all]
  show words1.all (fun c => c.before args0 about1) = true
  refine all_split ?_ w_codes
  rw [← List.take_append_drop 24 words1, List.all_append, w_t1, w_t2]
  rfl
set_option maxRecDepth 65536 in
theorem w_case : (Jvm.Cond.and given_1 narrow_1).before args0 about1 = true := by decide +kernel
theorem w_applies : (headSpec (Jvm.Cond.code x code maxLocals ret :: tables_1) room_1).applies x e0.platform about1 = true :=
  (Spec.applies_iff w_frames).mpr ⟨w_running, w_runnable, w_alone, w_named, w_hears, w_ripe, w_room, w_tables⟩
theorem atStart : AtStart classFile x code maxLocals ret World_1 tables_1 room_1 Calls_1 rest_1 Pre_1 launch0 p0 e0 about1 theMethod args0 below0 :=
  ⟨lists_1, trivial, launch0.admits_env _ _ _, launch0.least_env, fairChoices_fair.cas, fairChoices_fair.clock, w_frames, w_args, w_heap, w_applies, trivial, trivial, w_case⟩
end start1
theorem witness_1 : WitnessClaimed_1 := ⟨start1.p0, start1.e0, start1.about1, start1.theMethod, start1.args0, start1.below0, start1.atStart⟩
end Jvm.Pilot.@@N@@
