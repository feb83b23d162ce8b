import JvmDerived
import JvmDerived.Pilot.@@N@@Statement
import JvmDerived.Pilot.@@N@@Code
set_option linter.unusedVariables false
set_option linter.unusedSimpArgs false
namespace Jvm.Pilot.@@N@@
open Jvm Jvm.ClassFile Sem Op Lib Jvm.Free Jvm.Stand Jvm.LawKit Jvm.RoadKit Bundle Jvm.Pilot.@@N@@.Jvm.D
section Own
variable {p : Program} {l : Launch} {e : Env} {R : Room} {s : State} {m : MethodId} {args : Array Value} {below : List Frame} {meth : Method} {c : Code} {T : State} {locs : List Loc} {cells slots : Nat} {P : Option Value → Heap → List Loc → Prop} {kk nn : Nat}
/-- from U a run comes to an end at which P holds, within kk cells and nn slots -/
def Go (p : Program) (e : Env) (below : List Frame) (s : State) (P : Option Value → Heap → List Loc → Prop) (kk nn : Nat) (U : State) : Prop :=
  ∃ s₂ o, Steps p.tables e below U s₂ ∧ s₂.status = .running ∧ Ended s₂ below o ∧ ∃ v L, o = .returned v ∧ P v s₂.heap L ∧ FrameEnd s o s₂ L kk nn
theorem Go.pull {U V : State} (h : ∀ t, Steps p.tables e below V t → Steps p.tables e below U t) (g : Go p e below s P kk nn V) : Go p e below s P kk nn U := by
  obtain ⟨s2, o, h1, h2⟩ := g
  exact ⟨s2, o, h _ h1, h2⟩
theorem Go.fin (X : Stand p l e R s m args below meth c T locs cells slots) {f : JFrame} {v : Option Value} (hlk : meth.locks = false) (hv : meth.sig.returnType = none → v = none)
    (hs : ∀ fs, (∀ (f : JFrame) (acts : List Action), f.method = m → f.locked = none → f.entered = [] → (doReturn e (T.setTop f) acts v).1 = T.setFrames fs) → Steps p.tables e below (T.setTop f) (T.setFrames fs))
    (hP : P v T.heap locs) (hk : cells ≤ kk) (hn : slots ≤ nn) : Go p e below s P kk nn (T.setTop f) := by
  obtain ⟨fs, hr, hrun, hended, hW, hsame⟩ := X.leave (v := v) hv hlk
  exact ⟨_, _, hs fs hr, hrun, hended, _, _, rfl, hP, ⟨_, rfl⟩, hW, hsame.mono hk hn⟩
theorem Go.retN (X : Stand p l e R s m args below meth c T locs cells slots) (hx : p.tables.exec = Jvm.exec) (hlk : meth.locks = false) {pc : Nat} {Ls : Array Slot} {z : Int32} {t : FieldType} {rest : List Value} (hret : meth.sig.returnType = some t) (ht : t = .boolean ∨ t = .byte ∨ t = .char ∨ t = .short)
    (hd : decode c.code pc = .ok (.ireturn, 1)) (hP : P (some (.int (nar t z))) T.heap locs) (hk : cells ≤ kk) (hn : slots ≤ nn) : Go p e below s P kk nn (T.setTop (mkF m pc Ls (.int z :: rest))) :=
  Go.fin X hlk (fun h => by rw [hret] at h; cases h) (fun fs hr => RoadKit.retN X hx hret ht hd hr) hP hk hn
theorem Go.retI (X : Stand p l e R s m args below meth c T locs cells slots) (hx : p.tables.exec = Jvm.exec) (hlk : meth.locks = false) {pc : Nat} {Ls : Array Slot} {z : Int32} {rest : List Value} (hret : meth.sig.returnType = some .int)
    (hd : decode c.code pc = .ok (.ireturn, 1)) (hP : P (some (.int z)) T.heap locs) (hk : cells ≤ kk) (hn : slots ≤ nn) : Go p e below s P kk nn (T.setTop (mkF m pc Ls (.int z :: rest))) :=
  Go.fin X hlk (fun h => by rw [hret] at h; cases h) (fun fs hr => retOut X hx hret rfl (Or.inl ⟨rfl, Or.inl rfl, z, rfl⟩) hd hr) hP hk hn
theorem Go.retJ (X : Stand p l e R s m args below meth c T locs cells slots) (hx : p.tables.exec = Jvm.exec) (hlk : meth.locks = false) {pc : Nat} {Ls : Array Slot} {z : Int64} {rest : List Value} (hret : meth.sig.returnType = some .long)
    (hd : decode c.code pc = .ok (.lreturn, 1)) (hP : P (some (.long z)) T.heap locs) (hk : cells ≤ kk) (hn : slots ≤ nn) : Go p e below s P kk nn (T.setTop (mkF m pc Ls (.long z :: rest))) :=
  Go.fin X hlk (fun h => by rw [hret] at h; cases h) (fun fs hr => retOut X hx hret rfl (Or.inr (Or.inl ⟨rfl, rfl, z, rfl⟩)) hd hr) hP hk hn
theorem Go.retR (X : Stand p l e R s m args below meth c T locs cells slots) (hx : p.tables.exec = Jvm.exec) (hlk : meth.locks = false) {pc : Nat} {Ls : Array Slot} {w : Value} {t : FieldType} {rest : List Value} (hret : meth.sig.returnType = some t) (hna : narrow t w = w) (ht : t.isReference = true) (hw : w.isRef = true)
    (hd : decode c.code pc = .ok (.areturn, 1)) (hP : P (some w) T.heap locs) (hk : cells ≤ kk) (hn : slots ≤ nn) : Go p e below s P kk nn (T.setTop (mkF m pc Ls (w :: rest))) :=
  Go.fin X hlk (fun h => by rw [hret] at h; cases h) (fun fs hr => retOut X hx hret hna (Or.inr (Or.inr (Or.inr (Or.inr ⟨rfl, ht, hw⟩)))) hd hr) hP hk hn
theorem Go.ret0 (X : Stand p l e R s m args below meth c T locs cells slots) (hx : p.tables.exec = Jvm.exec) (hlk : meth.locks = false) {pc : Nat} {Ls : Array Slot} (hret : meth.sig.returnType = none)
    (hd : decode c.code pc = .ok (.return_, 1)) (hP : P none T.heap locs) (hk : cells ≤ kk) (hn : slots ≤ nn) : Go p e below s P kk nn (T.setTop (mkF m pc Ls [])) :=
  Go.fin X hlk (fun _ => rfl) (fun fs hr => X.returnOut hx hret hd hr) hP hk hn
theorem own_lsw {tb : Tables} [Ours tb] {e : Env} {below : List Frame} {T target : State} {m : MethodId} {c : Code} {g : JFrame} (h : At T m c below) (hx : tb.exec = Jvm.exec) (hg : g.method = m) {dflt : Int} {prs : Array (Int × Int)} {len : Nat} {o : Int} {pc0 pc' : Nat} (hpc : g.pc = pc0)
    (hd : decode c.code g.pc = .ok (.lookupswitch dflt prs, len)) {i : Int32} {rest : List Value} (hs : g.stack = .int i :: rest) (hord : (prs.toList.zip (prs.toList.drop 1)).all (fun (a, next) => a.1 < next.1) = true) (hoff : lookupswitch.offset prs.toList dflt i.toInt = o)
    (ho : 0 ≤ (pc0 : Int) + o) (hp : ((pc0 : Int) + o).toNat = pc') (hr : Steps tb e below (T.setTop { g with pc := pc', stack := rest }) target) : Steps tb e below (T.setTop g) target := by
  subst hg hpc hp hoff
  jvm_step h [h.top, hx, hd, hs, ho, lookupswitch.wp_chain]
  exact ⟨by simpa using hord, hr⟩
theorem own_eq_i {t : Term} {n : Int32} {first : State} {o : Option Outcome} {idx : List Nat} (h : (Cond.eq t (.int n)).value args first o s idx = some true) : t.eval args first o idx s = some (.int n) := by
  obtain ⟨x, y, e1, e2, k1, k2⟩ := cmp_v (Or.inl h)
  cases (Term.int_eval n).symm.trans e2
  obtain ⟨z, rfl⟩ : ∃ z, x = .int z := k2
  rw [e1, gotT (Cond.eq_ints e1 e2) h]
theorem own_eq_l {t : Term} {n : Int64} {first : State} {o : Option Outcome} {idx : List Nat} (h : (Cond.eq t (.long n)).value args first o s idx = some true) : t.eval args first o idx s = some (.long n) := by
  obtain ⟨x, y, e1, e2, k1, k2⟩ := cmp_v (Or.inl h)
  have e3 : (Term.long n).eval args first o idx s = some (.long n) := rfl
  cases e3.symm.trans e2
  obtain ⟨z, rfl⟩ : ∃ z, x = .long z := k2
  rw [e1, gotT (eq_L e1 e2) h]
theorem own_eq_r {t u : Term} {a : Addr} {first : State} {o : Option Outcome} {idx : List Nat} (hu : u.eval args first o idx s = some (.ref a)) (h : (Cond.eq t u).value args first o s idx = some true) : t.eval args first o idx s = some (.ref a) := by
  obtain ⟨x, y, e1, e2, k1, k2⟩ := cmp_v (Or.inl h)
  cases hu.symm.trans e2
  have k3 : (Value.ref a).isRef = true ∧ x.isRef = true := k2
  rw [e1, gotT (eq_R e1 e2 k3.2 rfl) h]
theorem own_sta_keep {Z : State} {h h' : Heap} {C n d : String} {w : Value} {ws : List Addr} (F : Sta Z h C n d w) (K : Keep h h' ws) (q : ∀ x ∈ ws, ∃ c : Cell, h[x]? = some c ∧ ∀ q, c.vm ≠ .statics q) : Sta Z h' C n d w := by
  obtain ⟨cf, i, k, f, st, cell, h1, h2, h3, h4, h5, h6, h7⟩ := F
  refine ⟨cf, i, k, f, st, cell, h1, h2, h3, h4, K.2.1 st cell h5 (fun hm => ?_), h6, h7⟩
  obtain ⟨c, hc, hq⟩ := q st hm
  cases h5.symm.trans hc
  cases hv : cell.vm with
  | statics r => exact hq r hv
  | _ => rw [hv] at h6; cases h6
end Own
theorem pd_0 : parseMethodDescriptor "([I[IJ[I)V" = some ⟨[(.array .int), (.array .int), .long, (.array .int)], none⟩ := by decide +kernel
theorem pd_1 : parseMethodDescriptor "(II)Z" = some ⟨[.int, .int], some .boolean⟩ := by decide +kernel
theorem pd_2 : parseMethodDescriptor "(IIII)I" = some ⟨[.int, .int, .int, .int], some .int⟩ := by decide +kernel
def own_at (pe pa pb pc' : Int32) : Int32 := if pe = 0 then pa else if pe = 1 then pb else pc'
def own_hold (pe pz pv pw : Int32) : Int32 := if pe < pz then (if pw = pv then 1 else 0) else 0
theorem own_and3 (x : Int32) {v : Int32} (h : (x &&& (3 : Int32)) = v) : v = 0 ∨ v = 1 ∨ v = 2 ∨ v = 3 := by
  subst h
  have h1 : (x &&& (3 : Int32)).toInt = x.toInt % (2 ^ 2 : Nat) := c_mask x 3 2 (by decide) (by decide)
  have h2 : x.toInt % (2 ^ 2 : Nat) = 0 ∨ x.toInt % (2 ^ 2 : Nat) = 1 ∨ x.toInt % (2 ^ 2 : Nat) = 2 ∨ x.toInt % (2 ^ 2 : Nat) = 3 := by omega
  rcases h2 with h2 | h2 | h2 | h2
  · exact (Or.inl (Int32.toInt_inj.mp (by rw [h1, h2] <;> rfl)))
  · exact (Or.inr (Or.inl (Int32.toInt_inj.mp (by rw [h1, h2] <;> rfl))))
  · exact (Or.inr (Or.inr (Or.inl (Int32.toInt_inj.mp (by rw [h1, h2] <;> rfl)))))
  · exact (Or.inr (Or.inr (Or.inr (Int32.toInt_inj.mp (by rw [h1, h2] <;> rfl)))))
theorem own_rem1 (x : Int32) {v : Int32} (h : ((x &&& (3 : Int32)) % (1 : Int32)) = v) : v = 0 := by
  subst h
  have h0 : (x &&& (3 : Int32)).toInt = x.toInt % (2 ^ 2 : Nat) := c_mask x 3 2 (by decide) (by decide)
  have h1 : ((x &&& (3 : Int32)) % (1 : Int32)).toInt = (x.toInt % (2 ^ 2 : Nat)) % 1 := by
    rw [← h0]; exact (c_irem _ _ 1 (by decide)).1 (by rw [h0]; omega)
  have h2 : (x.toInt % (2 ^ 2 : Nat)) % 1 = 0 := by omega
  rcases h2 with h2
  · exact (Int32.toInt_inj.mp (by rw [h1, h2] <;> rfl))
theorem own_rem2 (x : Int32) {v : Int32} (h : ((x &&& (3 : Int32)) % (2 : Int32)) = v) : v = 0 ∨ v = 1 := by
  subst h
  have h0 : (x &&& (3 : Int32)).toInt = x.toInt % (2 ^ 2 : Nat) := c_mask x 3 2 (by decide) (by decide)
  have h1 : ((x &&& (3 : Int32)) % (2 : Int32)).toInt = (x.toInt % (2 ^ 2 : Nat)) % 2 := by
    rw [← h0]; exact (c_irem _ _ 2 (by decide)).1 (by rw [h0]; omega)
  have h2 : (x.toInt % (2 ^ 2 : Nat)) % 2 = 0 ∨ (x.toInt % (2 ^ 2 : Nat)) % 2 = 1 := by omega
  rcases h2 with h2 | h2
  · exact (Or.inl (Int32.toInt_inj.mp (by rw [h1, h2] <;> rfl)))
  · exact (Or.inr (Int32.toInt_inj.mp (by rw [h1, h2] <;> rfl)))
theorem own_rem3 (x : Int32) {v : Int32} (h : ((x &&& (3 : Int32)) % (3 : Int32)) = v) : v = 0 ∨ v = 1 ∨ v = 2 := by
  subst h
  have h0 : (x &&& (3 : Int32)).toInt = x.toInt % (2 ^ 2 : Nat) := c_mask x 3 2 (by decide) (by decide)
  have h1 : ((x &&& (3 : Int32)) % (3 : Int32)).toInt = (x.toInt % (2 ^ 2 : Nat)) % 3 := by
    rw [← h0]; exact (c_irem _ _ 3 (by decide)).1 (by rw [h0]; omega)
  have h2 : (x.toInt % (2 ^ 2 : Nat)) % 3 = 0 ∨ (x.toInt % (2 ^ 2 : Nat)) % 3 = 1 ∨ (x.toInt % (2 ^ 2 : Nat)) % 3 = 2 := by omega
  rcases h2 with h2 | h2 | h2
  · exact (Or.inl (Int32.toInt_inj.mp (by rw [h1, h2] <;> rfl)))
  · exact (Or.inr (Or.inl (Int32.toInt_inj.mp (by rw [h1, h2] <;> rfl))))
  · exact (Or.inr (Or.inr (Int32.toInt_inj.mp (by rw [h1, h2] <;> rfl))))
theorem own_rem4 (x : Int32) {v : Int32} (h : ((x &&& (3 : Int32)) % (4 : Int32)) = v) : v = 0 ∨ v = 1 ∨ v = 2 ∨ v = 3 := by
  subst h
  have h0 : (x &&& (3 : Int32)).toInt = x.toInt % (2 ^ 2 : Nat) := c_mask x 3 2 (by decide) (by decide)
  have h1 : ((x &&& (3 : Int32)) % (4 : Int32)).toInt = (x.toInt % (2 ^ 2 : Nat)) % 4 := by
    rw [← h0]; exact (c_irem _ _ 4 (by decide)).1 (by rw [h0]; omega)
  have h2 : (x.toInt % (2 ^ 2 : Nat)) % 4 = 0 ∨ (x.toInt % (2 ^ 2 : Nat)) % 4 = 1 ∨ (x.toInt % (2 ^ 2 : Nat)) % 4 = 2 ∨ (x.toInt % (2 ^ 2 : Nat)) % 4 = 3 := by omega
  rcases h2 with h2 | h2 | h2 | h2
  · exact (Or.inl (Int32.toInt_inj.mp (by rw [h1, h2] <;> rfl)))
  · exact (Or.inr (Or.inl (Int32.toInt_inj.mp (by rw [h1, h2] <;> rfl))))
  · exact (Or.inr (Or.inr (Or.inl (Int32.toInt_inj.mp (by rw [h1, h2] <;> rfl)))))
  · exact (Or.inr (Or.inr (Or.inr (Int32.toInt_inj.mp (by rw [h1, h2] <;> rfl)))))
theorem dT_0 : decode method_3_code 0 = .ok (.iload_n 0, 1) := by decide +kernel
theorem dT_1 : decode method_3_code 1 = .ok (.ifCond .ne 5, 3) := by decide +kernel
theorem dT_4 : decode method_3_code 4 = .ok (.iload_n 1, 1) := by decide +kernel
theorem dT_5 : decode method_3_code 5 = .ok (.ireturn, 1) := by decide +kernel
theorem dT_6 : decode method_3_code 6 = .ok (.iload_n 0, 1) := by decide +kernel
theorem dT_7 : decode method_3_code 7 = .ok (.iconst 1, 1) := by decide +kernel
theorem dT_8 : decode method_3_code 8 = .ok (.if_icmp .ne 5, 3) := by decide +kernel
theorem dT_11 : decode method_3_code 11 = .ok (.iload_n 2, 1) := by decide +kernel
theorem dT_12 : decode method_3_code 12 = .ok (.ireturn, 1) := by decide +kernel
theorem dT_13 : decode method_3_code 13 = .ok (.iload_n 3, 1) := by decide +kernel
theorem dT_14 : decode method_3_code 14 = .ok (.ireturn, 1) := by decide +kernel
theorem efT (m : MethodId) (x0 : Int32) (x1 : Int32) (x2 : Int32) (x3 : Int32) : entryFrame m #[(.int x0), (.int x1), (.int x2), (.int x3)] 4 = mkF m 0 #[iv x0, iv x1, iv x2, iv x3] [] := by first | (simp [entryFrame, mkF, argsToLocals, Value.category]; done) | rfl
theorem pn_com_example_threshold_threshold_PostingListHoldsAtPinLaw : plainName "com/example/threshold/threshold/PostingListHoldsAtPinLaw" = true := by first | (simp [plainName, overriddenIn]; done) | decide +kernel
def QT (Z : State) (pe : Int32) (pa : Int32) (pb : Int32) (pc' : Int32) (h0 : Heap) (n0 : Nat) (v : Option Value) (h : Heap) (L : List Loc) : Prop := v = some (.int (own_at pe pa pb pc')) ∧ Fr n0 L ∧ h = h0
set_option maxRecDepth 65536 in
set_option maxHeartbeats 40000000 in
theorem rmT (l : Launch) (Z : State) (a0 : Array Value) (hw : ∀ d ∈ tables_1, d.before a0 Z = true) (ws : List Jvm.Cond) (pe : Int32) (pa : Int32) (pb : Int32) (pc' : Int32) (h0 : Heap) (n0 : Nat) :
    MetFree l (⟨"com/example/threshold/threshold/PostingListHoldsAtPinLaw", "at", "(IIII)I"⟩ : MethodName) (head1 (Jvm.Cond.code (⟨"com/example/threshold/threshold/PostingListHoldsAtPinLaw", "at", "(IIII)I"⟩ : MethodName) method_3_code 4 (some .int) :: ws) ({ frames := 0, cells := 0, slots := 0, locals := 0 } : Room)) (fun as' U => as' = #[(.int pe), (.int pa), (.int pb), (.int pc')] ∧ Z.Warmed39 U.vm ∧ U.heap = h0) (fun _ _ _ _ _ => True) (fun _ U o U' => ∃ v L, o = .returned v ∧ QT Z pe pa pb pc' h0 n0 v U'.heap L ∧ FrameEnd U o U' L ({ frames := 0, cells := 0, slots := 0, locals := 0 } : Room).cells ({ frames := 0, cells := 0, slots := 0, locals := 0 } : Room).slots) := by
  refine MetFree.of_bodySF (plainFor_of_name pn_com_example_threshold_threshold_PostingListHoldsAtPinLaw) hisR ?_
  intro p e s m args below meth c s₁ Bd hml0 hP hK
  obtain ⟨rfl, hZ, hh⟩ := hP
  have hx := Bd.exec
  have hby := Bd.bytes
  have hml : c.maxLocals = 4 := hml0
  have hown : s.vm.findClass "com/example/threshold/threshold/PostingListHoldsAtPinLaw" = some m.cls := findClass_of_methodNamed Bd.named
  have hnm := (name_of_methodNamed Bd.named Bd.method).1
  have X0 : Stand p l e ({ frames := 0, cells := 0, slots := 0, locals := 0 } : Room) s m #[(.int pe), (.int pa), (.int pb), (.int pc')] below meth c s₁ [] 0 0 := Stand.of_body Bd
  have e0 : s₁.heap = h0 := by rw [← hh, Bd.state]; rfl
  have N0 := Fr.nil n0
  show Go p e below s (fun v h L => QT Z pe pa pb pc' h0 n0 v h L) 0 0 _
  refine Go.pull (V := s₁.setTop (mkF m 0 #[iv pe, iv pa, iv pb, iv pc'] [])) (fun t k => castTop (efT m pe pa pb pc') k) ?_
  refine Go.pull (V := s₁.setTop (mkF m 1 #[iv pe, iv pa, iv pb, iv pc'] [(.int pe)])) (fun t k => XS.iloadN X0.here hx rfl (hb hby dT_0) rfl  k) ?_
  by_cases hc1_1 : pe = 0
  · skip
    refine Go.pull (V := s₁.setTop (mkF m 4 #[iv pe, iv pa, iv pb, iv pc'] [])) (fun t k => XS.ifNo X0.here hx rfl (hb hby dT_1) rfl (XT.i0_ne_f hc1_1) k) ?_
    refine Go.pull (V := s₁.setTop (mkF m 5 #[iv pe, iv pa, iv pb, iv pc'] [(.int pa)])) (fun t k => XS.iloadN X0.here hx rfl (hb hby dT_4) rfl  k) ?_
    exact Go.retI X0 hx Bd.notSynchronized Bd.returns (hb hby dT_5) ⟨(by rw [own_at, if_pos hc1_1] <;> rfl), N0, e0⟩ (by decide) (by decide)
  · skip
    refine Go.pull (V := s₁.setTop (mkF m 6 #[iv pe, iv pa, iv pb, iv pc'] [])) (fun t k => XS.ifYes X0.here hx rfl (pc0 := 1) (pc' := 6) rfl (hb hby dT_1) rfl (XT.i0_ne_t hc1_1) (by decide) (by decide) k) ?_
    refine Go.pull (V := s₁.setTop (mkF m 7 #[iv pe, iv pa, iv pb, iv pc'] [(.int pe)])) (fun t k => XS.iloadN X0.here hx rfl (hb hby dT_6) rfl  k) ?_
    refine Go.pull (V := s₁.setTop (mkF m 8 #[iv pe, iv pa, iv pb, iv pc'] [(.int 1), (.int pe)])) (fun t k => XS.iconst X0.here hx rfl (hb hby dT_7) k) ?_
    by_cases hc8_2 : pe = (1 : Int32)
    · skip
      refine Go.pull (V := s₁.setTop (mkF m 11 #[iv pe, iv pa, iv pb, iv pc'] [])) (fun t k => XS.icmpNo X0.here hx rfl (hb hby dT_8) rfl (XT.ii_ne_f hc8_2) k) ?_
      refine Go.pull (V := s₁.setTop (mkF m 12 #[iv pe, iv pa, iv pb, iv pc'] [(.int pb)])) (fun t k => XS.iloadN X0.here hx rfl (hb hby dT_11) rfl  k) ?_
      exact Go.retI X0 hx Bd.notSynchronized Bd.returns (hb hby dT_12) ⟨(by rw [own_at, if_neg hc1_1, if_pos hc8_2] <;> rfl), N0, e0⟩ (by decide) (by decide)
    · skip
      refine Go.pull (V := s₁.setTop (mkF m 13 #[iv pe, iv pa, iv pb, iv pc'] [])) (fun t k => XS.icmpYes X0.here hx rfl (pc0 := 8) (pc' := 13) rfl (hb hby dT_8) rfl (XT.ii_ne_t hc8_2) (by decide) (by decide) k) ?_
      refine Go.pull (V := s₁.setTop (mkF m 14 #[iv pe, iv pa, iv pb, iv pc'] [(.int pc')])) (fun t k => XS.iloadN X0.here hx rfl (hb hby dT_13) rfl  k) ?_
      exact Go.retI X0 hx Bd.notSynchronized Bd.returns (hb hby dT_14) ⟨(by rw [own_at, if_neg hc1_1, if_neg hc8_2] <;> rfl), N0, e0⟩ (by decide) (by decide)
theorem dI_0 : decode prog_13_method_1_code 0 = .ok (.aload_n 0, 1) := by decide +kernel
theorem dI_1 : decode prog_13_method_1_code 1 = .ok (.invokespecial 1, 3) := by decide +kernel
theorem dI_4 : decode prog_13_method_1_code 4 = .ok (.aload_n 0, 1) := by decide +kernel
theorem dI_5 : decode prog_13_method_1_code 5 = .ok (.aload_n 1, 1) := by decide +kernel
theorem dI_6 : decode prog_13_method_1_code 6 = .ok (.putfield 7, 3) := by decide +kernel
theorem dI_9 : decode prog_13_method_1_code 9 = .ok (.aload_n 0, 1) := by decide +kernel
theorem dI_10 : decode prog_13_method_1_code 10 = .ok (.aload_n 2, 1) := by decide +kernel
theorem dI_11 : decode prog_13_method_1_code 11 = .ok (.putfield 13, 3) := by decide +kernel
theorem dI_14 : decode prog_13_method_1_code 14 = .ok (.aload_n 0, 1) := by decide +kernel
theorem dI_15 : decode prog_13_method_1_code 15 = .ok (.lload_n 3, 1) := by decide +kernel
theorem dI_16 : decode prog_13_method_1_code 16 = .ok (.putfield 16, 3) := by decide +kernel
theorem dI_19 : decode prog_13_method_1_code 19 = .ok (.aload_n 0, 1) := by decide +kernel
theorem dI_20 : decode prog_13_method_1_code 20 = .ok (.aload 5, 2) := by decide +kernel
theorem dI_22 : decode prog_13_method_1_code 22 = .ok (.putfield 20, 3) := by decide +kernel
theorem dI_25 : decode prog_13_method_1_code 25 = .ok (.return_, 1) := by decide +kernel
theorem efI (m : MethodId) (x0 : Addr) (x1 : Addr) (x2 : Addr) (x3 : Int64) (x4 : Addr) : entryFrame m #[(.ref x0), (.ref x1), (.ref x2), (.long x3), (.ref x4)] 6 = mkF m 0 #[rv x0, rv x1, rv x2, .val (.long x3), .second, rv x4] [] := by first | (simp [entryFrame, mkF, argsToLocals, Value.category]; done) | rfl
theorem pn_com_example_threshold_threshold_PostingList : plainName "com/example/threshold/threshold/PostingList" = true := by first | (simp [plainName, overriddenIn]; done) | decide +kernel
def QI (Z : State) (a : Addr) (da : Addr) (db : Addr) (pq : Int64) (dc : Addr) (u0 : Value) (u1 : Value) (u2 : Value) (u3 : Value) (h0 : Heap) (n0 : Nat) (v : Option Value) (h : Heap) (L : List Loc) : Prop := v = none ∧ Fr n0 L ∧ Keep h0 h [a] ∧ Fld Z h a "com/example/threshold/threshold/PostingList" "documents" "[I" (.ref da)
set_option maxRecDepth 65536 in
set_option maxHeartbeats 40000000 in
theorem rmI (l : Launch) (Z : State) (a0 : Array Value) (hw : ∀ d ∈ tables_1, d.before a0 Z = true) (ws : List Jvm.Cond) (a : Addr) (da : Addr) (db : Addr) (pq : Int64) (dc : Addr) (u0 : Value) (u1 : Value) (u2 : Value) (u3 : Value) (h0 : Heap) (n0 : Nat) (g_a : n0 ≤ a) (Ea : Exa Z h0 a "com/example/threshold/threshold/PostingList") (F0' : Fld Z h0 a "com/example/threshold/threshold/PostingList" "documents" "[I" u0) (F1' : Fld Z h0 a "com/example/threshold/threshold/PostingList" "counts" "[I" u1) (F2' : Fld Z h0 a "com/example/threshold/threshold/PostingList" "collectionFrequency" "J" u2) (F3' : Fld Z h0 a "com/example/threshold/threshold/PostingList" "lengths" "[I" u3) :
    MetFree l (⟨"com/example/threshold/threshold/PostingList", "<init>", "([I[IJ[I)V"⟩ : MethodName) (head1 (Jvm.Cond.code (⟨"com/example/threshold/threshold/PostingList", "<init>", "([I[IJ[I)V"⟩ : MethodName) prog_13_method_1_code 6 none :: ws) ({ frames := 1, cells := 0, slots := 0, locals := 12 } : Room)) (fun as' U => as' = #[(.ref a), (.ref da), (.ref db), (.long pq), (.ref dc)] ∧ Z.Warmed39 U.vm ∧ U.heap = h0) (fun _ _ _ _ _ => True) (fun _ U o U' => ∃ v L, o = .returned v ∧ QI Z a da db pq dc u0 u1 u2 u3 h0 n0 v U'.heap L ∧ FrameEnd U o U' L ({ frames := 1, cells := 0, slots := 0, locals := 12 } : Room).cells ({ frames := 1, cells := 0, slots := 0, locals := 12 } : Room).slots) := by
  refine MetFree.of_bodySF (plainFor_of_name pn_com_example_threshold_threshold_PostingList) hisR ?_
  intro p e s m args below meth c s₁ Bd hml0 hP hK
  obtain ⟨rfl, hZ, hh⟩ := hP
  have hx := Bd.exec
  have hby := Bd.bytes
  have hml : c.maxLocals = 6 := hml0
  have hown : s.vm.findClass "com/example/threshold/threshold/PostingList" = some m.cls := findClass_of_methodNamed Bd.named
  have hnm := (name_of_methodNamed Bd.named Bd.method).1
  have X0 : Stand p l e ({ frames := 1, cells := 0, slots := 0, locals := 12 } : Room) s m #[(.ref a), (.ref da), (.ref db), (.long pq), (.ref dc)] below meth c s₁ [] 0 0 := Stand.of_body Bd
  have e0 : s₁.heap = h0 := by rw [← hh, Bd.state]; rfl
  have N0 := Fr.nil n0
  show Go p e below s (fun v h L => QI Z a da db pq dc u0 u1 u2 u3 h0 n0 v h L) 0 0 _
  refine Go.pull (V := s₁.setTop (mkF m 0 #[rv a, rv da, rv db, .val (.long pq), .second, rv dc] [])) (fun t k => castTop (efI m a da db pq dc) k) ?_
  refine Go.pull (V := s₁.setTop (mkF m 1 #[rv a, rv da, rv db, .val (.long pq), .second, rv dc] [(.ref a)])) (fun t k => XS.aloadN X0.here hx rfl (hb hby dI_0) rfl rfl k) ?_
  obtain ⟨T1, X1, e1, st1⟩ := initO X0 hx hZ hown (hw _ (List.mem_of_getElem? (i := 7) rfl)) (hw _ (List.mem_of_getElem? (i := 8) rfl)) (hw _ (List.mem_of_getElem? (i := 9) rfl)) e0 (g := (mkF m 1 #[rv a, rv da, rv db, .val (.long pq), .second, rv dc] [(.ref a)])) rfl (by rw [hml]; rfl) rfl (hb hby dI_1) (by decide) (W := 0) (by show 2 * 0 + _ ≤ _; exact Nat.le_of_eq rfl) (by decide)
  refine Go.pull (V := T1.setTop (mkF m 4 #[rv a, rv da, rv db, .val (.long pq), .second, rv dc] [])) st1 ?_
  refine Go.pull (V := T1.setTop (mkF m 5 #[rv a, rv da, rv db, .val (.long pq), .second, rv dc] [(.ref a)])) (fun t k => XS.aloadN X1.here hx rfl (hb hby dI_4) rfl rfl k) ?_
  refine Go.pull (V := T1.setTop (mkF m 6 #[rv a, rv da, rv db, .val (.long pq), .second, rv dc] [(.ref da), (.ref a)])) (fun t k => XS.aloadN X1.here hx rfl (hb hby dI_5) rfl rfl k) ?_
  obtain ⟨T2, h2, X2, e2, W2, st2⟩ := putF X1 hx hZ hown (host := "") (Or.inl (hw _ (List.mem_of_getElem? (i := 10) rfl))) Via.refl e1 F0' Ea (Or.inr ⟨(hw _ (List.mem_of_getElem? (i := 11) rfl)), rfl, hnm⟩) (hw _ (List.mem_of_getElem? (i := 2) rfl)) (ty := (.array .int)) (by decide) rfl rfl (g := (mkF m 6 #[rv a, rv da, rv db, .val (.long pq), .second, rv dc] [(.ref da), (.ref a)])) rfl rfl (hb hby dI_6)
  have Fw2 : Fld Z h2 a "com/example/threshold/threshold/PostingList" "documents" "[I" (.ref da) := F0'.same W2
  have K2 : Keep h0 h2 [a] := (Keep.refl h0 [a]).wr W2 (Or.inl (List.mem_of_getElem? (i := 0) rfl))
  have N2 := Fr.snoc X2 N0 g_a
  refine Go.pull (V := T2.setTop (mkF m 9 #[rv a, rv da, rv db, .val (.long pq), .second, rv dc] [])) st2 ?_
  refine Go.pull (V := T2.setTop (mkF m 10 #[rv a, rv da, rv db, .val (.long pq), .second, rv dc] [(.ref a)])) (fun t k => XS.aloadN X2.here hx rfl (hb hby dI_9) rfl rfl k) ?_
  refine Go.pull (V := T2.setTop (mkF m 11 #[rv a, rv da, rv db, .val (.long pq), .second, rv dc] [(.ref db), (.ref a)])) (fun t k => XS.aloadN X2.here hx rfl (hb hby dI_10) rfl rfl k) ?_
  obtain ⟨T3, h3, X3, e3, W3, st3⟩ := putF X2 hx hZ hown (host := "") (Or.inl (hw _ (List.mem_of_getElem? (i := 12) rfl))) Via.refl e2 (F1'.other W2 (Or.inr (slot_ne (Or.inr (hw _ (List.mem_of_getElem? (i := 13) rfl))) (Or.inr (hw _ (List.mem_of_getElem? (i := 11) rfl))) (by decide) (t := (.array .int)) (t' := (.array .int)) (by decide) (by decide)))) (Ea.wr W2) (Or.inr ⟨(hw _ (List.mem_of_getElem? (i := 13) rfl)), rfl, hnm⟩) (hw _ (List.mem_of_getElem? (i := 2) rfl)) (ty := (.array .int)) (by decide) rfl rfl (g := (mkF m 11 #[rv a, rv da, rv db, .val (.long pq), .second, rv dc] [(.ref db), (.ref a)])) rfl rfl (hb hby dI_11)
  have Fw3 : Fld Z h3 a "com/example/threshold/threshold/PostingList" "counts" "[I" (.ref db) := (F1'.other W2 (Or.inr (slot_ne (Or.inr (hw _ (List.mem_of_getElem? (i := 13) rfl))) (Or.inr (hw _ (List.mem_of_getElem? (i := 11) rfl))) (by decide) (t := (.array .int)) (t' := (.array .int)) (by decide) (by decide)))).same W3
  have K3 : Keep h0 h3 [a] := K2.wr W3 (Or.inl (List.mem_of_getElem? (i := 0) rfl))
  have N3 := Fr.snoc X3 N2 g_a
  refine Go.pull (V := T3.setTop (mkF m 14 #[rv a, rv da, rv db, .val (.long pq), .second, rv dc] [])) st3 ?_
  refine Go.pull (V := T3.setTop (mkF m 15 #[rv a, rv da, rv db, .val (.long pq), .second, rv dc] [(.ref a)])) (fun t k => XS.aloadN X3.here hx rfl (hb hby dI_14) rfl rfl k) ?_
  refine Go.pull (V := T3.setTop (mkF m 16 #[rv a, rv da, rv db, .val (.long pq), .second, rv dc] [(.long pq), (.ref a)])) (fun t k => XS.lloadN X3.here hx rfl (hb hby dI_15) rfl  k) ?_
  obtain ⟨T4, h4, X4, e4, W4, st4⟩ := putF X3 hx hZ hown (host := "") (Or.inl (hw _ (List.mem_of_getElem? (i := 14) rfl))) Via.refl e3 ((F2'.other W2 (Or.inr (slot_ne (Or.inr (hw _ (List.mem_of_getElem? (i := 15) rfl))) (Or.inr (hw _ (List.mem_of_getElem? (i := 11) rfl))) (by decide) (t := .long) (t' := (.array .int)) (by decide) (by decide)))).other W3 (Or.inr (slot_ne (Or.inr (hw _ (List.mem_of_getElem? (i := 15) rfl))) (Or.inr (hw _ (List.mem_of_getElem? (i := 13) rfl))) (by decide) (t := .long) (t' := (.array .int)) (by decide) (by decide)))) ((Ea.wr W2).wr W3) (Or.inr ⟨(hw _ (List.mem_of_getElem? (i := 15) rfl)), rfl, hnm⟩) (hw _ (List.mem_of_getElem? (i := 2) rfl)) (ty := .long) (by decide) rfl rfl (g := (mkF m 16 #[rv a, rv da, rv db, .val (.long pq), .second, rv dc] [(.long pq), (.ref a)])) rfl rfl (hb hby dI_16)
  have Fw4 : Fld Z h4 a "com/example/threshold/threshold/PostingList" "collectionFrequency" "J" (.long pq) := ((F2'.other W2 (Or.inr (slot_ne (Or.inr (hw _ (List.mem_of_getElem? (i := 15) rfl))) (Or.inr (hw _ (List.mem_of_getElem? (i := 11) rfl))) (by decide) (t := .long) (t' := (.array .int)) (by decide) (by decide)))).other W3 (Or.inr (slot_ne (Or.inr (hw _ (List.mem_of_getElem? (i := 15) rfl))) (Or.inr (hw _ (List.mem_of_getElem? (i := 13) rfl))) (by decide) (t := .long) (t' := (.array .int)) (by decide) (by decide)))).same W4
  have K4 : Keep h0 h4 [a] := K3.wr W4 (Or.inl (List.mem_of_getElem? (i := 0) rfl))
  have N4 := Fr.snoc X4 N3 g_a
  refine Go.pull (V := T4.setTop (mkF m 19 #[rv a, rv da, rv db, .val (.long pq), .second, rv dc] [])) st4 ?_
  refine Go.pull (V := T4.setTop (mkF m 20 #[rv a, rv da, rv db, .val (.long pq), .second, rv dc] [(.ref a)])) (fun t k => XS.aloadN X4.here hx rfl (hb hby dI_19) rfl rfl k) ?_
  refine Go.pull (V := T4.setTop (mkF m 22 #[rv a, rv da, rv db, .val (.long pq), .second, rv dc] [(.ref dc), (.ref a)])) (fun t k => XS.aload X4.here hx rfl (hb hby dI_20) rfl rfl k) ?_
  obtain ⟨T5, h5, X5, e5, W5, st5⟩ := putF X4 hx hZ hown (host := "") (Or.inl (hw _ (List.mem_of_getElem? (i := 16) rfl))) Via.refl e4 (((F3'.other W2 (Or.inr (slot_ne (Or.inr (hw _ (List.mem_of_getElem? (i := 17) rfl))) (Or.inr (hw _ (List.mem_of_getElem? (i := 11) rfl))) (by decide) (t := (.array .int)) (t' := (.array .int)) (by decide) (by decide)))).other W3 (Or.inr (slot_ne (Or.inr (hw _ (List.mem_of_getElem? (i := 17) rfl))) (Or.inr (hw _ (List.mem_of_getElem? (i := 13) rfl))) (by decide) (t := (.array .int)) (t' := (.array .int)) (by decide) (by decide)))).other W4 (Or.inr (slot_ne (Or.inr (hw _ (List.mem_of_getElem? (i := 17) rfl))) (Or.inr (hw _ (List.mem_of_getElem? (i := 15) rfl))) (by decide) (t := (.array .int)) (t' := .long) (by decide) (by decide)))) (((Ea.wr W2).wr W3).wr W4) (Or.inr ⟨(hw _ (List.mem_of_getElem? (i := 17) rfl)), rfl, hnm⟩) (hw _ (List.mem_of_getElem? (i := 2) rfl)) (ty := (.array .int)) (by decide) rfl rfl (g := (mkF m 22 #[rv a, rv da, rv db, .val (.long pq), .second, rv dc] [(.ref dc), (.ref a)])) rfl rfl (hb hby dI_22)
  have Fw5 : Fld Z h5 a "com/example/threshold/threshold/PostingList" "lengths" "[I" (.ref dc) := (((F3'.other W2 (Or.inr (slot_ne (Or.inr (hw _ (List.mem_of_getElem? (i := 17) rfl))) (Or.inr (hw _ (List.mem_of_getElem? (i := 11) rfl))) (by decide) (t := (.array .int)) (t' := (.array .int)) (by decide) (by decide)))).other W3 (Or.inr (slot_ne (Or.inr (hw _ (List.mem_of_getElem? (i := 17) rfl))) (Or.inr (hw _ (List.mem_of_getElem? (i := 13) rfl))) (by decide) (t := (.array .int)) (t' := (.array .int)) (by decide) (by decide)))).other W4 (Or.inr (slot_ne (Or.inr (hw _ (List.mem_of_getElem? (i := 17) rfl))) (Or.inr (hw _ (List.mem_of_getElem? (i := 15) rfl))) (by decide) (t := (.array .int)) (t' := .long) (by decide) (by decide)))).same W5
  have K5 : Keep h0 h5 [a] := K4.wr W5 (Or.inl (List.mem_of_getElem? (i := 0) rfl))
  have N5 := Fr.snoc X5 N4 g_a
  refine Go.pull (V := T5.setTop (mkF m 25 #[rv a, rv da, rv db, .val (.long pq), .second, rv dc] [])) st5 ?_
  exact Go.ret0 X5 hx Bd.notSynchronized Bd.returns (hb hby dI_25) (by rw [e5]; exact ⟨rfl, N5, K5, (((Fw2.other W3 (Or.inr (slot_ne (Or.inr (hw _ (List.mem_of_getElem? (i := 11) rfl))) (Or.inr (hw _ (List.mem_of_getElem? (i := 13) rfl))) (by decide) (t := (.array .int)) (t' := (.array .int)) (by decide) (by decide)))).other W4 (Or.inr (slot_ne (Or.inr (hw _ (List.mem_of_getElem? (i := 11) rfl))) (Or.inr (hw _ (List.mem_of_getElem? (i := 15) rfl))) (by decide) (t := (.array .int)) (t' := .long) (by decide) (by decide)))).other W5 (Or.inr (slot_ne (Or.inr (hw _ (List.mem_of_getElem? (i := 11) rfl))) (Or.inr (hw _ (List.mem_of_getElem? (i := 17) rfl))) (by decide) (t := (.array .int)) (t' := (.array .int)) (by decide) (by decide))))⟩) (by decide) (by decide)
theorem dA_0 : decode prog_13_method_5_code 0 = .ok (.iload_n 1, 1) := by decide +kernel
theorem dA_1 : decode prog_13_method_5_code 1 = .ok (.aload_n 0, 1) := by decide +kernel
theorem dA_2 : decode prog_13_method_5_code 2 = .ok (.getfield 7, 3) := by decide +kernel
theorem dA_5 : decode prog_13_method_5_code 5 = .ok (.arraylength, 1) := by decide +kernel
theorem dA_6 : decode prog_13_method_5_code 6 = .ok (.if_icmp .ge 17, 3) := by decide +kernel
theorem dA_9 : decode prog_13_method_5_code 9 = .ok (.aload_n 0, 1) := by decide +kernel
theorem dA_10 : decode prog_13_method_5_code 10 = .ok (.getfield 7, 3) := by decide +kernel
theorem dA_13 : decode prog_13_method_5_code 13 = .ok (.iload_n 1, 1) := by decide +kernel
theorem dA_14 : decode prog_13_method_5_code 14 = .ok (.iaload, 1) := by decide +kernel
theorem dA_15 : decode prog_13_method_5_code 15 = .ok (.iload_n 2, 1) := by decide +kernel
theorem dA_16 : decode prog_13_method_5_code 16 = .ok (.if_icmp .ne 7, 3) := by decide +kernel
theorem dA_19 : decode prog_13_method_5_code 19 = .ok (.iconst 1, 1) := by decide +kernel
theorem dA_20 : decode prog_13_method_5_code 20 = .ok (.goto 4, 3) := by decide +kernel
theorem dA_23 : decode prog_13_method_5_code 23 = .ok (.iconst 0, 1) := by decide +kernel
theorem dA_24 : decode prog_13_method_5_code 24 = .ok (.ireturn, 1) := by decide +kernel
theorem efA (m : MethodId) (x0 : Addr) (x1 : Int32) (x2 : Int32) : entryFrame m #[(.ref x0), (.int x1), (.int x2)] 3 = mkF m 0 #[rv x0, iv x1, iv x2] [] := by first | (simp [entryFrame, mkF, argsToLocals, Value.category]; done) | rfl
def QA (Z : State) (a : Addr) (pe : Int32) (pv : Int32) (da : Addr) (kd : ClassId) (pz : Int32) (vs : List Value) (pw : Int32) (h0 : Heap) (n0 : Nat) (v : Option Value) (h : Heap) (L : List Loc) : Prop := v = some (.int (own_hold pe pz pv pw)) ∧ Fr n0 L ∧ h = h0
set_option maxRecDepth 65536 in
set_option maxHeartbeats 40000000 in
theorem rmA (l : Launch) (Z : State) (a0 : Array Value) (hw : ∀ d ∈ tables_1, d.before a0 Z = true) (ws : List Jvm.Cond) (a : Addr) (pe : Int32) (pv : Int32) (da : Addr) (kd : ClassId) (pz : Int32) (vs : List Value) (pw : Int32) (h0 : Heap) (n0 : Nat) (Fd : Fld Z h0 a "com/example/threshold/threshold/PostingList" "documents" "[I" (.ref da)) (Vd : Arv Z h0 da kd .int pz vs (.int 0)) (hge : vs.getD pe.toNatClampNeg (.int 0) = .int pw) (hnn : ¬ pe < 0) :
    MetFree l (⟨"com/example/threshold/threshold/PostingList", "holdsAt", "(II)Z"⟩ : MethodName) (head1 (Jvm.Cond.code (⟨"com/example/threshold/threshold/PostingList", "holdsAt", "(II)Z"⟩ : MethodName) prog_13_method_5_code 3 (some .boolean) :: ws) ({ frames := 0, cells := 0, slots := 0, locals := 0 } : Room)) (fun as' U => as' = #[(.ref a), (.int pe), (.int pv)] ∧ Z.Warmed39 U.vm ∧ U.heap = h0) (fun _ _ _ _ _ => True) (fun _ U o U' => ∃ v L, o = .returned v ∧ QA Z a pe pv da kd pz vs pw h0 n0 v U'.heap L ∧ FrameEnd U o U' L ({ frames := 0, cells := 0, slots := 0, locals := 0 } : Room).cells ({ frames := 0, cells := 0, slots := 0, locals := 0 } : Room).slots) := by
  refine MetFree.of_bodySF (plainFor_of_name pn_com_example_threshold_threshold_PostingList) hisR ?_
  intro p e s m args below meth c s₁ Bd hml0 hP hK
  obtain ⟨rfl, hZ, hh⟩ := hP
  have hx := Bd.exec
  have hby := Bd.bytes
  have hml : c.maxLocals = 3 := hml0
  have hown : s.vm.findClass "com/example/threshold/threshold/PostingList" = some m.cls := findClass_of_methodNamed Bd.named
  have hnm := (name_of_methodNamed Bd.named Bd.method).1
  have X0 : Stand p l e ({ frames := 0, cells := 0, slots := 0, locals := 0 } : Room) s m #[(.ref a), (.int pe), (.int pv)] below meth c s₁ [] 0 0 := Stand.of_body Bd
  have e0 : s₁.heap = h0 := by rw [← hh, Bd.state]; rfl
  have N0 := Fr.nil n0
  show Go p e below s (fun v h L => QA Z a pe pv da kd pz vs pw h0 n0 v h L) 0 0 _
  refine Go.pull (V := s₁.setTop (mkF m 0 #[rv a, iv pe, iv pv] [])) (fun t k => castTop (efA m a pe pv) k) ?_
  refine Go.pull (V := s₁.setTop (mkF m 1 #[rv a, iv pe, iv pv] [(.int pe)])) (fun t k => XS.iloadN X0.here hx rfl (hb hby dA_0) rfl  k) ?_
  refine Go.pull (V := s₁.setTop (mkF m 2 #[rv a, iv pe, iv pv] [(.ref a), (.int pe)])) (fun t k => XS.aloadN X0.here hx rfl (hb hby dA_1) rfl rfl k) ?_
  obtain ⟨T1, X1, e1, st1⟩ := getF X0 hx hZ hown (host := "") (Or.inl (hw _ (List.mem_of_getElem? (i := 10) rfl))) Via.refl e0 Fd (g := (mkF m 2 #[rv a, iv pe, iv pv] [(.ref a), (.int pe)])) rfl rfl (hb hby dA_2)
  refine Go.pull (V := T1.setTop (mkF m 5 #[rv a, iv pe, iv pv] [(.ref da), (.int pe)])) st1 ?_
  obtain ⟨cl2, Ar2, q2, S2, M2, Hs2, G2⟩ := id Vd
  refine Go.pull (V := T1.setTop (mkF m 6 #[rv a, iv pe, iv pv] [(.int pz), (.int pe)])) (fun t k => X1.arraylength hx (by rw [e1]; exact Ar2.1) (State.isArrayOf_alike hZ.alike Ar2.2.1) (g := (mkF m 5 #[rv a, iv pe, iv pv] [(.ref da), (.int pe)])) rfl rfl (hb hby dA_5) _ (by rw [len_of S2 M2]; exact k)) ?_
  by_cases hc6_3 : pe < pz
  · skip
    refine Go.pull (V := T1.setTop (mkF m 9 #[rv a, iv pe, iv pv] [])) (fun t k => XS.icmpNo X1.here hx rfl (hb hby dA_6) rfl (XT.ii_ge_f hc6_3) k) ?_
    refine Go.pull (V := T1.setTop (mkF m 10 #[rv a, iv pe, iv pv] [(.ref a)])) (fun t k => XS.aloadN X1.here hx rfl (hb hby dA_9) rfl rfl k) ?_
    obtain ⟨T4, X4, e4, st4⟩ := getF X1 hx hZ hown (host := "") (Or.inl (hw _ (List.mem_of_getElem? (i := 10) rfl))) Via.refl e1 Fd (g := (mkF m 10 #[rv a, iv pe, iv pv] [(.ref a)])) rfl rfl (hb hby dA_10)
    refine Go.pull (V := T4.setTop (mkF m 13 #[rv a, iv pe, iv pv] [(.ref da)])) st4 ?_
    refine Go.pull (V := T4.setTop (mkF m 14 #[rv a, iv pe, iv pv] [(.int pe), (.ref da)])) (fun t k => XS.iloadN X4.here hx rfl (hb hby dA_13) rfl  k) ?_
    obtain ⟨cl5, Ar5, q5, S5, M5, Hs5, G5⟩ := id Vd
    have hin5 : ¬ (pe < 0 ∨ cl5.slots.size ≤ (pe).toNatClampNeg) := inb_of S5 ⟨hnn, hc6_3⟩
    have hat5 : cl5.slots[(pe).toNatClampNeg]? = some (.int pw) := Has.at Hs5 hin5 hge
    refine Go.pull (V := T4.setTop (mkF m 15 #[rv a, iv pe, iv pv] [(.int pw)])) (fun t k => X4.iaload hx (j := pe) (v := (.int pw)) (by rw [e4]; exact Ar5.1) (State.isArrayOf_alike hZ.alike Ar5.2.1) Ar5.2.2 hin5 hat5 (g := (mkF m 14 #[rv a, iv pe, iv pv] [(.int pe), (.ref da)])) rfl rfl (hb hby dA_14) _ k) ?_
    refine Go.pull (V := T4.setTop (mkF m 16 #[rv a, iv pe, iv pv] [(.int pv), (.int pw)])) (fun t k => XS.iloadN X4.here hx rfl (hb hby dA_15) rfl  k) ?_
    by_cases hc16_6 : pw = pv
    · skip
      refine Go.pull (V := T4.setTop (mkF m 19 #[rv a, iv pe, iv pv] [])) (fun t k => XS.icmpNo X4.here hx rfl (hb hby dA_16) rfl (XT.ii_ne_f hc16_6) k) ?_
      refine Go.pull (V := T4.setTop (mkF m 20 #[rv a, iv pe, iv pv] [(.int 1)])) (fun t k => XS.iconst X4.here hx rfl (hb hby dA_19) k) ?_
      refine Go.pull (V := T4.setTop (mkF m 24 #[rv a, iv pe, iv pv] [(.int 1)])) (fun t k => XS.goto X4.here hx rfl (pc0 := 20) (pc' := 24) rfl (hb hby dA_20) (by decide) (by decide) k) ?_
      exact Go.retN X4 hx Bd.notSynchronized (t := .boolean) Bd.returns (by simp) (hb hby dA_24) ⟨(by rw [own_hold, if_pos hc6_3, if_pos hc16_6] <;> rfl), N0, e4⟩ (by decide) (by decide)
    · skip
      refine Go.pull (V := T4.setTop (mkF m 23 #[rv a, iv pe, iv pv] [])) (fun t k => XS.icmpYes X4.here hx rfl (pc0 := 16) (pc' := 23) rfl (hb hby dA_16) rfl (XT.ii_ne_t hc16_6) (by decide) (by decide) k) ?_
      refine Go.pull (V := T4.setTop (mkF m 24 #[rv a, iv pe, iv pv] [(.int 0)])) (fun t k => XS.iconst X4.here hx rfl (hb hby dA_23) k) ?_
      exact Go.retN X4 hx Bd.notSynchronized (t := .boolean) Bd.returns (by simp) (hb hby dA_24) ⟨(by rw [own_hold, if_pos hc6_3, if_neg hc16_6] <;> rfl), N0, e4⟩ (by decide) (by decide)
  · skip
    refine Go.pull (V := T1.setTop (mkF m 23 #[rv a, iv pe, iv pv] [])) (fun t k => XS.icmpYes X1.here hx rfl (pc0 := 6) (pc' := 23) rfl (hb hby dA_6) rfl (XT.ii_ge_t hc6_3) (by decide) (by decide) k) ?_
    refine Go.pull (V := T1.setTop (mkF m 24 #[rv a, iv pe, iv pv] [(.int 0)])) (fun t k => XS.iconst X1.here hx rfl (hb hby dA_23) k) ?_
    exact Go.retN X1 hx Bd.notSynchronized (t := .boolean) Bd.returns (by simp) (hb hby dA_24) ⟨(by rw [own_hold, if_neg hc6_3] <;> rfl), N0, e1⟩ (by decide) (by decide)
theorem ef0 (m : MethodId) (x0 : Int32) (x1 : Int32) (x2 : Int32) (x3 : Int32) (x4 : Int32) (x5 : Int32) : entryFrame m #[(.int x0), (.int x1), (.int x2), (.int x3), (.int x4), (.int x5)] maxLocals = mkF m 0 #[iv x0, iv x1, iv x2, iv x3, iv x4, iv x5, .unset, .unset, .unset, .unset, .unset, .unset, .unset, .unset] [] := by first | (simp [entryFrame, mkF, argsToLocals, Value.category, maxLocals]; done) | rfl
def Q0 (Z : State) (ps : Int32) (pe : Int32) (pa : Int32) (pb : Int32) (pd : Int32) (pq : Int32) (h0 : Heap) (n0 : Nat) (v : Option Value) (h : Heap) (L : List Loc) : Prop := v = some (.int 1) ∧ Fr n0 L
set_option maxRecDepth 65536 in
set_option maxHeartbeats 40000000 in
theorem rm0 (l : Launch) (Z : State) (a0 : Array Value) (hw : ∀ d ∈ tables_1, d.before a0 Z = true) (ws : List Jvm.Cond) (ps : Int32) (pe : Int32) (pa : Int32) (pb : Int32) (pd : Int32) (pq : Int32) (h0 : Heap) (n0 : Nat) (Z0 : n0 ≤ h0.size) :
    MetFree l x (head1 (Jvm.Cond.code x code maxLocals ret :: ws) room_1) (fun as' U => as' = #[(.int ps), (.int pe), (.int pa), (.int pb), (.int pd), (.int pq)] ∧ Z.Warmed39 U.vm ∧ U.heap = h0) (fun _ _ _ _ _ => True) (fun _ U o U' => ∃ v L, o = .returned v ∧ Q0 Z ps pe pa pb pd pq h0 n0 v U'.heap L ∧ FrameEnd U o U' L 16 128) := by
  refine MetFree.of_bodySF (plainFor_of_name pn_com_example_threshold_threshold_PostingListHoldsAtPinLaw) hisR ?_
  intro p e s m args below meth c s₁ Bd hml0 hP hK
  obtain ⟨rfl, hZ, hh⟩ := hP
  have hx := Bd.exec
  have hby := Bd.bytes
  have hml : c.maxLocals = 14 := hml0
  have hown : s.vm.findClass "com/example/threshold/threshold/PostingListHoldsAtPinLaw" = some m.cls := findClass_of_methodNamed Bd.named
  have hnm := (name_of_methodNamed Bd.named Bd.method).1
  have X0 : Stand p l e room_1 s m #[(.int ps), (.int pe), (.int pa), (.int pb), (.int pd), (.int pq)] below meth c s₁ [] 0 0 := Stand.of_body Bd
  have e0 : s₁.heap = h0 := by rw [← hh, Bd.state]; rfl
  have N0 := Fr.nil n0
  show Go p e below s (fun v h L => Q0 Z ps pe pa pb pd pq h0 n0 v h L) 16 128 _
  refine Go.pull (V := s₁.setTop (mkF m 0 #[iv ps, iv pe, iv pa, iv pb, iv pd, iv pq, .unset, .unset, .unset, .unset, .unset, .unset, .unset, .unset] [])) (fun t k => castTop (ef0 m ps pe pa pb pd pq) k) ?_
  refine Go.pull (V := s₁.setTop (mkF m 1 #[iv ps, iv pe, iv pa, iv pb, iv pd, iv pq, .unset, .unset, .unset, .unset, .unset, .unset, .unset, .unset] [(.int ps)])) (fun t k => XS.iloadN X0.here hx rfl (hb hby at_0) rfl  k) ?_
  refine Go.pull (V := s₁.setTop (mkF m 2 #[iv ps, iv pe, iv pa, iv pb, iv pd, iv pq, .unset, .unset, .unset, .unset, .unset, .unset, .unset, .unset] [(.int 3), (.int ps)])) (fun t k => XS.iconst X0.here hx rfl (hb hby at_1) k) ?_
  refine Go.pull (V := s₁.setTop (mkF m 3 #[iv ps, iv pe, iv pa, iv pb, iv pd, iv pq, .unset, .unset, .unset, .unset, .unset, .unset, .unset, .unset] [(.int (ps &&& (3 : Int32)))])) (fun t k => XS.iand X0.here hx rfl (hb hby at_2) rfl k) ?_
  refine Go.pull (V := s₁.setTop (mkF m 5 #[iv ps, iv pe, iv pa, iv pb, iv pd, iv pq, iv (ps &&& (3 : Int32)), .unset, .unset, .unset, .unset, .unset, .unset, .unset] [])) (fun t k => XS.istore X0.here hx rfl (hb hby at_3) rfl (l' := #[iv ps, iv pe, iv pa, iv pb, iv pd, iv pq, iv (ps &&& (3 : Int32)), .unset, .unset, .unset, .unset, .unset, .unset, .unset]) rfl k) ?_
  generalize gv1 : (ps &&& (3 : Int32)) = v1
  obtain hv1 | hv1 | hv1 | hv1 := own_and3 _ gv1
  · subst hv1
    refine Go.pull (V := s₁.setTop (mkF m 7 #[iv ps, iv pe, iv pa, iv pb, iv pd, iv pq, iv 0, .unset, .unset, .unset, .unset, .unset, .unset, .unset] [(.int 0)])) (fun t k => XS.iload X0.here hx rfl (hb hby at_5) rfl  k) ?_
    obtain ⟨T2, h2, k2, X2, e2, E2, A2, st2⟩ := newP X0 hx hZ (hw _ (List.mem_of_getElem? (i := 0) rfl)) e0 (g := (mkF m 7 #[iv ps, iv pe, iv pa, iv pb, iv pd, iv pq, iv 0, .unset, .unset, .unset, .unset, .unset, .unset, .unset] [(.int 0)])) rfl (hb hby at_7) rfl (by decide) (cap := 0) (by decide) (by decide) (by decide) (by decide)
    obtain ⟨b2, g2⟩ : ∃ z, z = h0.size := ⟨_, rfl⟩
    rw [← g2] at A2 st2
    have sz_b2 : h0.size ≤ b2 := Nat.le_trans ((Keep.refl h0 [])).1 (Nat.le_of_eq g2.symm)
    have g_b2 : n0 ≤ b2 := Nat.le_trans Z0 sz_b2
    have K2 : Keep h0 h2 [] := (Keep.refl h0 []).ext E2
    have V2 : Arv Z h2 b2 k2 .int (0 : Int32) [] (.int 0) := (Arv.new A2 (by decide)).pad (pad_rep [] (.int 0) 0)
    refine Go.pull (V := T2.setTop (mkF m 9 #[iv ps, iv pe, iv pa, iv pb, iv pd, iv pq, iv 0, .unset, .unset, .unset, .unset, .unset, .unset, .unset] [(.ref b2)])) st2 ?_
    refine Go.pull (V := T2.setTop (mkF m 11 #[iv ps, iv pe, iv pa, iv pb, iv pd, iv pq, iv 0, rv b2, .unset, .unset, .unset, .unset, .unset, .unset] [])) (fun t k => XS.astore X2.here hx rfl (hb hby at_9) rfl rfl (l' := #[iv ps, iv pe, iv pa, iv pb, iv pd, iv pq, iv 0, rv b2, .unset, .unset, .unset, .unset, .unset, .unset]) rfl k) ?_
    refine Go.pull (V := T2.setTop (mkF m 13 #[iv ps, iv pe, iv pa, iv pb, iv pd, iv pq, iv 0, rv b2, .unset, .unset, .unset, .unset, .unset, .unset] [(.int 0)])) (fun t k => XS.iload X2.here hx rfl (hb hby at_11) rfl  k) ?_
    obtain ⟨T3, h3, k3, X3, e3, E3, A3, st3⟩ := newP X2 hx hZ (hw _ (List.mem_of_getElem? (i := 0) rfl)) e2 (g := (mkF m 13 #[iv ps, iv pe, iv pa, iv pb, iv pd, iv pq, iv 0, rv b2, .unset, .unset, .unset, .unset, .unset, .unset] [(.int 0)])) rfl (hb hby at_13) rfl (by decide) (cap := 0) (by decide) (by decide) (by decide) (by decide)
    obtain ⟨b3, g3⟩ : ∃ z, z = h2.size := ⟨_, rfl⟩
    rw [← g3] at A3 st3
    have ne_b2_b3 : b2 ≠ b3 := Nat.ne_of_lt (Nat.lt_of_lt_of_le V2.lt (Nat.le_of_eq g3.symm))
    have sz_b3 : h0.size ≤ b3 := Nat.le_trans (K2).1 (Nat.le_of_eq g3.symm)
    have g_b3 : n0 ≤ b3 := Nat.le_trans Z0 sz_b3
    have K3 : Keep h0 h3 [] := K2.ext E3
    have V3 : Arv Z h3 b3 k3 .int (0 : Int32) [] (.int 0) := (Arv.new A3 (by decide)).pad (pad_rep [] (.int 0) 0)
    refine Go.pull (V := T3.setTop (mkF m 15 #[iv ps, iv pe, iv pa, iv pb, iv pd, iv pq, iv 0, rv b2, .unset, .unset, .unset, .unset, .unset, .unset] [(.ref b3)])) st3 ?_
    refine Go.pull (V := T3.setTop (mkF m 17 #[iv ps, iv pe, iv pa, iv pb, iv pd, iv pq, iv 0, rv b2, rv b3, .unset, .unset, .unset, .unset, .unset] [])) (fun t k => XS.astore X3.here hx rfl (hb hby at_15) rfl rfl (l' := #[iv ps, iv pe, iv pa, iv pb, iv pd, iv pq, iv 0, rv b2, rv b3, .unset, .unset, .unset, .unset, .unset]) rfl k) ?_
    refine Go.pull (V := T3.setTop (mkF m 19 #[iv ps, iv pe, iv pa, iv pb, iv pd, iv pq, iv 0, rv b2, rv b3, .unset, .unset, .unset, .unset, .unset] [(.int 0)])) (fun t k => XS.iload X3.here hx rfl (hb hby at_17) rfl  k) ?_
    refine Go.pull (V := T3.setTop (mkF m 27 #[iv ps, iv pe, iv pa, iv pb, iv pd, iv pq, iv 0, rv b2, rv b3, .unset, .unset, .unset, .unset, .unset] [])) (fun t k => XS.ifYes X3.here hx rfl (pc0 := 19) (pc' := 27) rfl (hb hby at_19) rfl (XT.i0_le_t (by decide)) (by decide) (by decide) k) ?_
    refine Go.pull (V := T3.setTop (mkF m 29 #[iv ps, iv pe, iv pa, iv pb, iv pd, iv pq, iv 0, rv b2, rv b3, .unset, .unset, .unset, .unset, .unset] [(.int 0)])) (fun t k => XS.iload X3.here hx rfl (hb hby at_27) rfl  k) ?_
    refine Go.pull (V := T3.setTop (mkF m 30 #[iv ps, iv pe, iv pa, iv pb, iv pd, iv pq, iv 0, rv b2, rv b3, .unset, .unset, .unset, .unset, .unset] [(.int 1), (.int 0)])) (fun t k => XS.iconst X3.here hx rfl (hb hby at_29) k) ?_
    refine Go.pull (V := T3.setTop (mkF m 38 #[iv ps, iv pe, iv pa, iv pb, iv pd, iv pq, iv 0, rv b2, rv b3, .unset, .unset, .unset, .unset, .unset] [])) (fun t k => XS.icmpYes X3.here hx rfl (pc0 := 30) (pc' := 38) rfl (hb hby at_30) rfl (XT.ii_le_t (by decide)) (by decide) (by decide) k) ?_
    refine Go.pull (V := T3.setTop (mkF m 40 #[iv ps, iv pe, iv pa, iv pb, iv pd, iv pq, iv 0, rv b2, rv b3, .unset, .unset, .unset, .unset, .unset] [(.int 0)])) (fun t k => XS.iload X3.here hx rfl (hb hby at_38) rfl  k) ?_
    refine Go.pull (V := T3.setTop (mkF m 41 #[iv ps, iv pe, iv pa, iv pb, iv pd, iv pq, iv 0, rv b2, rv b3, .unset, .unset, .unset, .unset, .unset] [(.int 2), (.int 0)])) (fun t k => XS.iconst X3.here hx rfl (hb hby at_40) k) ?_
    refine Go.pull (V := T3.setTop (mkF m 50 #[iv ps, iv pe, iv pa, iv pb, iv pd, iv pq, iv 0, rv b2, rv b3, .unset, .unset, .unset, .unset, .unset] [])) (fun t k => XS.icmpYes X3.here hx rfl (pc0 := 41) (pc' := 50) rfl (hb hby at_41) rfl (XT.ii_le_t (by decide)) (by decide) (by decide) k) ?_
    refine Go.pull (V := T3.setTop (mkF m 51 #[iv ps, iv pe, iv pa, iv pb, iv pd, iv pq, iv 0, rv b2, rv b3, .unset, .unset, .unset, .unset, .unset] [(.int 0)])) (fun t k => XS.iconst X3.here hx rfl (hb hby at_50) k) ?_
    obtain ⟨T4, h4, k4, X4, e4, E4, A4, st4⟩ := newP X3 hx hZ (hw _ (List.mem_of_getElem? (i := 0) rfl)) e3 (g := (mkF m 51 #[iv ps, iv pe, iv pa, iv pb, iv pd, iv pq, iv 0, rv b2, rv b3, .unset, .unset, .unset, .unset, .unset] [(.int 0)])) rfl (hb hby at_51) rfl (by decide) (cap := 0) (by decide) (by decide) (by decide) (by decide)
    obtain ⟨b4, g4⟩ : ∃ z, z = h3.size := ⟨_, rfl⟩
    rw [← g4] at A4 st4
    have ne_b2_b4 : b2 ≠ b4 := Nat.ne_of_lt (Nat.lt_of_lt_of_le (V2.ext E3).lt (Nat.le_of_eq g4.symm))
    have ne_b3_b4 : b3 ≠ b4 := Nat.ne_of_lt (Nat.lt_of_lt_of_le V3.lt (Nat.le_of_eq g4.symm))
    have sz_b4 : h0.size ≤ b4 := Nat.le_trans (K3).1 (Nat.le_of_eq g4.symm)
    have g_b4 : n0 ≤ b4 := Nat.le_trans Z0 sz_b4
    have K4 : Keep h0 h4 [] := K3.ext E4
    have V4 : Arv Z h4 b4 k4 .int (0 : Int32) [] (.int 0) := (Arv.new A4 (by decide)).pad (pad_rep [] (.int 0) 0)
    refine Go.pull (V := T4.setTop (mkF m 53 #[iv ps, iv pe, iv pa, iv pb, iv pd, iv pq, iv 0, rv b2, rv b3, .unset, .unset, .unset, .unset, .unset] [(.ref b4)])) st4 ?_
    refine Go.pull (V := T4.setTop (mkF m 55 #[iv ps, iv pe, iv pa, iv pb, iv pd, iv pq, iv 0, rv b2, rv b3, rv b4, .unset, .unset, .unset, .unset] [])) (fun t k => XS.astore X4.here hx rfl (hb hby at_53) rfl rfl (l' := #[iv ps, iv pe, iv pa, iv pb, iv pd, iv pq, iv 0, rv b2, rv b3, rv b4, .unset, .unset, .unset, .unset]) rfl k) ?_
    refine Go.pull (V := T4.setTop (mkF m 56 #[iv ps, iv pe, iv pa, iv pb, iv pd, iv pq, iv 0, rv b2, rv b3, rv b4, .unset, .unset, .unset, .unset] [(.int pe)])) (fun t k => XS.iloadN X4.here hx rfl (hb hby at_55) rfl  k) ?_
    refine Go.pull (V := T4.setTop (mkF m 57 #[iv ps, iv pe, iv pa, iv pb, iv pd, iv pq, iv 0, rv b2, rv b3, rv b4, .unset, .unset, .unset, .unset] [(.int 3), (.int pe)])) (fun t k => XS.iconst X4.here hx rfl (hb hby at_56) k) ?_
    refine Go.pull (V := T4.setTop (mkF m 58 #[iv ps, iv pe, iv pa, iv pb, iv pd, iv pq, iv 0, rv b2, rv b3, rv b4, .unset, .unset, .unset, .unset] [(.int (pe &&& (3 : Int32)))])) (fun t k => XS.iand X4.here hx rfl (hb hby at_57) rfl k) ?_
    refine Go.pull (V := T4.setTop (mkF m 60 #[iv ps, iv pe, iv pa, iv pb, iv pd, iv pq, iv 0, rv b2, rv b3, rv b4, .unset, .unset, .unset, .unset] [(.int 0), (.int (pe &&& (3 : Int32)))])) (fun t k => XS.iload X4.here hx rfl (hb hby at_58) rfl  k) ?_
    refine Go.pull (V := T4.setTop (mkF m 61 #[iv ps, iv pe, iv pa, iv pb, iv pd, iv pq, iv 0, rv b2, rv b3, rv b4, .unset, .unset, .unset, .unset] [(.int 1), (.int 0), (.int (pe &&& (3 : Int32)))])) (fun t k => XS.iconst X4.here hx rfl (hb hby at_60) k) ?_
    refine Go.pull (V := T4.setTop (mkF m 62 #[iv ps, iv pe, iv pa, iv pb, iv pd, iv pq, iv 0, rv b2, rv b3, rv b4, .unset, .unset, .unset, .unset] [(.int 1), (.int (pe &&& (3 : Int32)))])) (fun t k => XS.iadd X4.here hx rfl (hb hby at_61) rfl k) ?_
    refine Go.pull (V := T4.setTop (mkF m 63 #[iv ps, iv pe, iv pa, iv pb, iv pd, iv pq, iv 0, rv b2, rv b3, rv b4, .unset, .unset, .unset, .unset] [(.int ((pe &&& (3 : Int32)) % (1 : Int32)))])) (fun t k => iremM X4 hx rfl (hb hby at_62) rfl (by decide) k) ?_
    refine Go.pull (V := T4.setTop (mkF m 65 #[iv ps, iv pe, iv pa, iv pb, iv pd, iv pq, iv 0, rv b2, rv b3, rv b4, iv ((pe &&& (3 : Int32)) % (1 : Int32)), .unset, .unset, .unset] [])) (fun t k => XS.istore X4.here hx rfl (hb hby at_63) rfl (l' := #[iv ps, iv pe, iv pa, iv pb, iv pd, iv pq, iv 0, rv b2, rv b3, rv b4, iv ((pe &&& (3 : Int32)) % (1 : Int32)), .unset, .unset, .unset]) rfl k) ?_
    generalize gv5 : ((pe &&& (3 : Int32)) % (1 : Int32)) = v5
    obtain hv5 := own_rem1 _ gv5
    · subst hv5
      refine Go.pull (V := T4.setTop (mkF m 67 #[iv ps, iv pe, iv pa, iv pb, iv pd, iv pq, iv 0, rv b2, rv b3, rv b4, iv 0, .unset, .unset, .unset] [(.int pq)])) (fun t k => XS.iload X4.here hx rfl (hb hby at_65) rfl  k) ?_
      refine Go.pull (V := T4.setTop (mkF m 69 #[iv ps, iv pe, iv pa, iv pb, iv pd, iv pq, iv 0, rv b2, rv b3, rv b4, iv 0, iv pq, .unset, .unset] [])) (fun t k => XS.istore X4.here hx rfl (hb hby at_67) rfl (l' := #[iv ps, iv pe, iv pa, iv pb, iv pd, iv pq, iv 0, rv b2, rv b3, rv b4, iv 0, iv pq, .unset, .unset]) rfl k) ?_
      refine Go.pull (V := T4.setTop (mkF m 70 #[iv ps, iv pe, iv pa, iv pb, iv pd, iv pq, iv 0, rv b2, rv b3, rv b4, iv 0, iv pq, .unset, .unset] [(.int pe)])) (fun t k => XS.iloadN X4.here hx rfl (hb hby at_69) rfl  k) ?_
      refine Go.pull (V := T4.setTop (mkF m 71 #[iv ps, iv pe, iv pa, iv pb, iv pd, iv pq, iv 0, rv b2, rv b3, rv b4, iv 0, iv pq, .unset, .unset] [(.int 4), (.int pe)])) (fun t k => XS.iconst X4.here hx rfl (hb hby at_70) k) ?_
      refine Go.pull (V := T4.setTop (mkF m 72 #[iv ps, iv pe, iv pa, iv pb, iv pd, iv pq, iv 0, rv b2, rv b3, rv b4, iv 0, iv pq, .unset, .unset] [(.int (pe &&& (4 : Int32)))])) (fun t k => XS.iand X4.here hx rfl (hb hby at_71) rfl k) ?_
      by_cases hc72_6 : (pe &&& (4 : Int32)) = 0
      · skip
        refine Go.pull (V := T4.setTop (mkF m 93 #[iv ps, iv pe, iv pa, iv pb, iv pd, iv pq, iv 0, rv b2, rv b3, rv b4, iv 0, iv pq, .unset, .unset] [])) (fun t k => XS.ifYes X4.here hx rfl (pc0 := 72) (pc' := 93) rfl (hb hby at_72) rfl (XT.i0_eq_t hc72_6) (by decide) (by decide) k) ?_
        obtain ⟨T7, h7, X7, e7, E7, A7, D7, -, st7⟩ := newO X4 hx hZ hown (hw _ (List.mem_of_getElem? (i := 1) rfl)) (hw _ (List.mem_of_getElem? (i := 2) rfl)) (hw _ (List.mem_of_getElem? (i := 3) rfl)) e4 (g := (mkF m 93 #[iv ps, iv pe, iv pa, iv pb, iv pd, iv pq, iv 0, rv b2, rv b3, rv b4, iv 0, iv pq, .unset, .unset] [])) rfl (hb hby at_93) (by decide) (by decide)
        obtain ⟨b7, g7⟩ : ∃ z, z = h4.size := ⟨_, rfl⟩
        rw [← g7] at A7 D7 st7
        have ne_b2_b7 : b2 ≠ b7 := Nat.ne_of_lt (Nat.lt_of_lt_of_le ((V2.ext E3).ext E4).lt (Nat.le_of_eq g7.symm))
        have ne_b3_b7 : b3 ≠ b7 := Nat.ne_of_lt (Nat.lt_of_lt_of_le (V3.ext E4).lt (Nat.le_of_eq g7.symm))
        have ne_b4_b7 : b4 ≠ b7 := Nat.ne_of_lt (Nat.lt_of_lt_of_le V4.lt (Nat.le_of_eq g7.symm))
        have sz_b7 : h0.size ≤ b7 := Nat.le_trans (K4).1 (Nat.le_of_eq g7.symm)
        have g_b7 : n0 ≤ b7 := Nat.le_trans Z0 sz_b7
        have K7 : Keep h0 h7 [] := K4.ext E7
        have F8 : Fld Z h7 b7 "com/example/threshold/threshold/PostingList" "documents" "[I" .null := D7 (Or.inr (hw _ (List.mem_of_getElem? (i := 11) rfl))) (ty := (.array .int)) (by decide)
        have F9 : Fld Z h7 b7 "com/example/threshold/threshold/PostingList" "counts" "[I" .null := D7 (Or.inr (hw _ (List.mem_of_getElem? (i := 13) rfl))) (ty := (.array .int)) (by decide)
        have F10 : Fld Z h7 b7 "com/example/threshold/threshold/PostingList" "collectionFrequency" "J" (.long 0) := D7 (Or.inr (hw _ (List.mem_of_getElem? (i := 15) rfl))) (ty := .long) (by decide)
        have F11 : Fld Z h7 b7 "com/example/threshold/threshold/PostingList" "lengths" "[I" .null := D7 (Or.inr (hw _ (List.mem_of_getElem? (i := 17) rfl))) (ty := (.array .int)) (by decide)
        refine Go.pull (V := T7.setTop (mkF m 96 #[iv ps, iv pe, iv pa, iv pb, iv pd, iv pq, iv 0, rv b2, rv b3, rv b4, iv 0, iv pq, .unset, .unset] [(.ref b7)])) st7 ?_
        refine Go.pull (V := T7.setTop (mkF m 97 #[iv ps, iv pe, iv pa, iv pb, iv pd, iv pq, iv 0, rv b2, rv b3, rv b4, iv 0, iv pq, .unset, .unset] [(.ref b7), (.ref b7)])) (fun t k => XS.dup X7.here hx rfl (hb hby at_96) rfl rfl k) ?_
        refine Go.pull (V := T7.setTop (mkF m 99 #[iv ps, iv pe, iv pa, iv pb, iv pd, iv pq, iv 0, rv b2, rv b3, rv b4, iv 0, iv pq, .unset, .unset] [(.ref b2), (.ref b7), (.ref b7)])) (fun t k => XS.aload X7.here hx rfl (hb hby at_97) rfl rfl k) ?_
        refine Go.pull (V := T7.setTop (mkF m 101 #[iv ps, iv pe, iv pa, iv pb, iv pd, iv pq, iv 0, rv b2, rv b3, rv b4, iv 0, iv pq, .unset, .unset] [(.ref b3), (.ref b2), (.ref b7), (.ref b7)])) (fun t k => XS.aload X7.here hx rfl (hb hby at_99) rfl rfl k) ?_
        refine Go.pull (V := T7.setTop (mkF m 102 #[iv ps, iv pe, iv pa, iv pb, iv pd, iv pq, iv 0, rv b2, rv b3, rv b4, iv 0, iv pq, .unset, .unset] [(.long 0), (.ref b3), (.ref b2), (.ref b7), (.ref b7)])) (fun t k => XS.lconst X7.here hx rfl (hb hby at_101) k) ?_
        refine Go.pull (V := T7.setTop (mkF m 104 #[iv ps, iv pe, iv pa, iv pb, iv pd, iv pq, iv 0, rv b2, rv b3, rv b4, iv 0, iv pq, .unset, .unset] [(.ref b4), (.long 0), (.ref b3), (.ref b2), (.ref b7), (.ref b7)])) (fun t k => XS.aload X7.here hx rfl (hb hby at_102) rfl rfl k) ?_
        obtain ⟨_, _, ⟨T12, L12, k12, n12⟩, -, X12, ⟨Lc12, hQ12, l12, y12, z12⟩, st12⟩ := X7.specialBack hx (y := (⟨"com/example/threshold/threshold/PostingList", "<init>", "([I[IJ[I)V"⟩ : MethodName)) rfl hown (mvT hZ (hw _ (List.mem_of_getElem? (i := 4) rfl))) (mvT hZ (hw _ (List.mem_of_getElem? (i := 5) rfl))) (mvT hZ (hw _ (List.mem_of_getElem? (i := 6) rfl))) (by decide) (backOf (W := 1) (rmI l Z a0 hw [] b7 b2 b3 (0 : Int64) b4 .null .null (.long 0) .null h7 n0 (g_b7) A7 F8 F9 F10 F11) hZ (hw _ (List.mem_of_getElem? (i := 6) rfl)) (hw _ (List.mem_of_getElem? (i := 3) rfl)) (by decide) (by decide)) (g := (mkF m 104 #[iv ps, iv pe, iv pa, iv pb, iv pd, iv pq, iv 0, rv b2, rv b3, rv b4, iv 0, iv pq, .unset, .unset] [(.ref b4), (.long 0), (.ref b3), (.ref b2), (.ref b7), (.ref b7)])) rfl (by rw [hml]; rfl) (Steps.refl _) (a := b7) (argsL := [(.ref b2), (.ref b3), (.long 0), (.ref b4)]) (rest := [(.ref b7)]) (lenOf pd_0 rfl) rfl (by show 2 * 0 + _ ≤ _; exact Nat.le_of_eq rfl) (hb hby at_104) (fun _ _ => ⟨rfl, e7, (by decide : 4 + 0 ≤ _), (by decide : 5 + 0 ≤ _)⟩)
        dsimp only [Pt.U, Pt.locs, Pt.cells, Pt.slots] at X12 l12 y12 z12 st12 hQ12
        subst l12 y12 z12
        obtain ⟨rfl, N12q, Kc12, Fc12_0⟩ := hQ12
        have K12 : Keep h0 T12.heap [] := K7.trans Kc12 ((allS (Or.inr sz_b7) all0))
        have N12 := Fr.app N0 N12q
        refine Go.pull (V := T12.setTop (mkF m 107 #[iv ps, iv pe, iv pa, iv pb, iv pd, iv pq, iv 0, rv b2, rv b3, rv b4, iv 0, iv pq, .unset, .unset] [(.ref b7)])) (fun _ k => st12.trans k) ?_
        refine Go.pull (V := T12.setTop (mkF m 109 #[iv ps, iv pe, iv pa, iv pb, iv pd, iv pq, iv 0, rv b2, rv b3, rv b4, iv 0, iv pq, rv b7, .unset] [])) (fun t k => XS.astore X12.here hx rfl (hb hby at_107) rfl rfl (l' := #[iv ps, iv pe, iv pa, iv pb, iv pd, iv pq, iv 0, rv b2, rv b3, rv b4, iv 0, iv pq, rv b7, .unset]) rfl k) ?_
        refine Go.pull (V := T12.setTop (mkF m 111 #[iv ps, iv pe, iv pa, iv pb, iv pd, iv pq, iv 0, rv b2, rv b3, rv b4, iv 0, iv pq, rv b7, .unset] [(.int 0)])) (fun t k => XS.iload X12.here hx rfl (hb hby at_109) rfl  k) ?_
        refine Go.pull (V := T12.setTop (mkF m 113 #[iv ps, iv pe, iv pa, iv pb, iv pd, iv pq, iv 0, rv b2, rv b3, rv b4, iv 0, iv pq, rv b7, .unset] [(.int 0), (.int 0)])) (fun t k => XS.iload X12.here hx rfl (hb hby at_111) rfl  k) ?_
        refine Go.pull (V := T12.setTop (mkF m 116 #[iv ps, iv pe, iv pa, iv pb, iv pd, iv pq, iv 0, rv b2, rv b3, rv b4, iv 0, iv pq, rv b7, .unset] [])) (fun t k => XS.icmpNo X12.here hx rfl (hb hby at_113) rfl (XT.ii_lt_f (by decide)) k) ?_
        refine Go.pull (V := T12.setTop (mkF m 117 #[iv ps, iv pe, iv pa, iv pb, iv pd, iv pq, iv 0, rv b2, rv b3, rv b4, iv 0, iv pq, rv b7, .unset] [(.int 0)])) (fun t k => XS.iconst X12.here hx rfl (hb hby at_116) k) ?_
        refine Go.pull (V := T12.setTop (mkF m 119 #[iv ps, iv pe, iv pa, iv pb, iv pd, iv pq, iv 0, rv b2, rv b3, rv b4, iv 0, iv pq, rv b7, iv 0] [])) (fun t k => XS.istore X12.here hx rfl (hb hby at_117) rfl (l' := #[iv ps, iv pe, iv pa, iv pb, iv pd, iv pq, iv 0, rv b2, rv b3, rv b4, iv 0, iv pq, rv b7, iv 0]) rfl k) ?_
        refine Go.pull (V := T12.setTop (mkF m 143 #[iv ps, iv pe, iv pa, iv pb, iv pd, iv pq, iv 0, rv b2, rv b3, rv b4, iv 0, iv pq, rv b7, iv 0] [])) (fun t k => XS.goto X12.here hx rfl (pc0 := 119) (pc' := 143) rfl (hb hby at_119) (by decide) (by decide) k) ?_
        refine Go.pull (V := T12.setTop (mkF m 145 #[iv ps, iv pe, iv pa, iv pb, iv pd, iv pq, iv 0, rv b2, rv b3, rv b4, iv 0, iv pq, rv b7, iv 0] [(.ref b7)])) (fun t k => XS.aload X12.here hx rfl (hb hby at_143) rfl rfl k) ?_
        refine Go.pull (V := T12.setTop (mkF m 147 #[iv ps, iv pe, iv pa, iv pb, iv pd, iv pq, iv 0, rv b2, rv b3, rv b4, iv 0, iv pq, rv b7, iv 0] [(.int 0), (.ref b7)])) (fun t k => XS.iload X12.here hx rfl (hb hby at_145) rfl  k) ?_
        refine Go.pull (V := T12.setTop (mkF m 149 #[iv ps, iv pe, iv pa, iv pb, iv pd, iv pq, iv 0, rv b2, rv b3, rv b4, iv 0, iv pq, rv b7, iv 0] [(.int pq), (.int 0), (.ref b7)])) (fun t k => XS.iload X12.here hx rfl (hb hby at_147) rfl  k) ?_
        obtain ⟨cq13, kq13, q13a, q13b, q13c⟩ := isOf hZ rfl (A7.keep Kc12)
        obtain ⟨_, _, ⟨T13, L13, k13, n13⟩, -, X13, ⟨Lc13, hQ13, l13, y13, z13⟩, st13⟩ := X12.virtualBack hx (y := (⟨"com/example/threshold/threshold/PostingList", "holdsAt", "(II)Z"⟩ : MethodName)) (z := (⟨"com/example/threshold/threshold/PostingList", "holdsAt", "(II)Z"⟩ : MethodName)) hown (mvT hZ (hw _ (List.mem_of_getElem? (i := 18) rfl))) (mvT hZ (hw _ (List.mem_of_getElem? (i := 19) rfl))) (notFace_of_selects (args := #[]) (mvT hZ (hw _ (List.mem_of_getElem? (i := 21) rfl)))) (mvT hZ (hw _ (List.mem_of_getElem? (i := 21) rfl))) (mvT hZ (hw _ (List.mem_of_getElem? (i := 20) rfl))) (by decide) (backOf (W := 0) (rmA l Z a0 hw [] b7 (0 : Int32) pq b2 k2 (0 : Int32) ([] : List Value) (0 : Int32) T12.heap n0 Fc12_0 ((((V2.ext E3).ext E4).ext E7).keep Kc12 (ninS (ne_b2_b7) nin0)) rfl (by decide)) hZ (hw _ (List.mem_of_getElem? (i := 22) rfl)) (hw _ (List.mem_of_getElem? (i := 3) rfl)) (by decide) (by decide)) q13a q13c (g := (mkF m 149 #[iv ps, iv pe, iv pa, iv pb, iv pd, iv pq, iv 0, rv b2, rv b3, rv b4, iv 0, iv pq, rv b7, iv 0] [(.int pq), (.int 0), (.ref b7)])) rfl (by rw [hml]; rfl) (Steps.refl _) (argsL := [(.int 0), (.int pq)]) (rest := []) (lenOf pd_1 rfl) rfl (by show 2 * 0 + _ ≤ _; exact Nat.le_of_eq rfl) (hb hby at_149) (fun _ _ => ⟨rfl, rfl, (by decide : 4 + 0 ≤ _), (by decide : 5 + 0 ≤ _)⟩)
        dsimp only [Pt.U, Pt.locs, Pt.cells, Pt.slots] at X13 l13 y13 z13 st13 hQ13
        subst l13 y13 z13
        obtain ⟨hv13, N13q, e13⟩ := hQ13
        rw [(show (own_hold (0 : Int32) (0 : Int32) pq (0 : Int32)) = (0 : Int32) from by rw [own_hold, if_neg (by decide)])] at hv13; subst hv13
        have N13 := Fr.app N12 N13q
        refine Go.pull (V := T13.setTop (mkF m 152 #[iv ps, iv pe, iv pa, iv pb, iv pd, iv pq, iv 0, rv b2, rv b3, rv b4, iv 0, iv pq, rv b7, iv 0] [(.int 0)])) (fun _ k => st13.trans k) ?_
        refine Go.pull (V := T13.setTop (mkF m 154 #[iv ps, iv pe, iv pa, iv pb, iv pd, iv pq, iv 0, rv b2, rv b3, rv b4, iv 0, iv pq, rv b7, iv 0] [(.int 0), (.int 0)])) (fun t k => XS.iload X13.here hx rfl (hb hby at_152) rfl  k) ?_
        refine Go.pull (V := T13.setTop (mkF m 157 #[iv ps, iv pe, iv pa, iv pb, iv pd, iv pq, iv 0, rv b2, rv b3, rv b4, iv 0, iv pq, rv b7, iv 0] [])) (fun t k => XS.icmpNo X13.here hx rfl (hb hby at_154) rfl (XT.ii_ne_f (by decide)) k) ?_
        refine Go.pull (V := T13.setTop (mkF m 158 #[iv ps, iv pe, iv pa, iv pb, iv pd, iv pq, iv 0, rv b2, rv b3, rv b4, iv 0, iv pq, rv b7, iv 0] [(.int 1)])) (fun t k => XS.iconst X13.here hx rfl (hb hby at_157) k) ?_
        refine Go.pull (V := T13.setTop (mkF m 162 #[iv ps, iv pe, iv pa, iv pb, iv pd, iv pq, iv 0, rv b2, rv b3, rv b4, iv 0, iv pq, rv b7, iv 0] [(.int 1)])) (fun t k => XS.goto X13.here hx rfl (pc0 := 158) (pc' := 162) rfl (hb hby at_158) (by decide) (by decide) k) ?_
        exact Go.retN X13 hx Bd.notSynchronized (t := .boolean) Bd.returns (by simp) (hb hby at_162) ⟨rfl, N13⟩ (by decide) (by decide)
      · skip
        refine Go.pull (V := T4.setTop (mkF m 75 #[iv ps, iv pe, iv pa, iv pb, iv pd, iv pq, iv 0, rv b2, rv b3, rv b4, iv 0, iv pq, .unset, .unset] [])) (fun t k => XS.ifNo X4.here hx rfl (hb hby at_72) rfl (XT.i0_eq_f hc72_6) k) ?_
        refine Go.pull (V := T4.setTop (mkF m 77 #[iv ps, iv pe, iv pa, iv pb, iv pd, iv pq, iv 0, rv b2, rv b3, rv b4, iv 0, iv pq, .unset, .unset] [(.int 0)])) (fun t k => XS.iload X4.here hx rfl (hb hby at_75) rfl  k) ?_
        refine Go.pull (V := T4.setTop (mkF m 79 #[iv ps, iv pe, iv pa, iv pb, iv pd, iv pq, iv 0, rv b2, rv b3, rv b4, iv 0, iv pq, .unset, .unset] [(.int 0), (.int 0)])) (fun t k => XS.iload X4.here hx rfl (hb hby at_77) rfl  k) ?_
        refine Go.pull (V := T4.setTop (mkF m 93 #[iv ps, iv pe, iv pa, iv pb, iv pd, iv pq, iv 0, rv b2, rv b3, rv b4, iv 0, iv pq, .unset, .unset] [])) (fun t k => XS.icmpYes X4.here hx rfl (pc0 := 79) (pc' := 93) rfl (hb hby at_79) rfl (XT.ii_ge_t (by decide)) (by decide) (by decide) k) ?_
        obtain ⟨T14, h14, X14, e14, E14, A14, D14, -, st14⟩ := newO X4 hx hZ hown (hw _ (List.mem_of_getElem? (i := 1) rfl)) (hw _ (List.mem_of_getElem? (i := 2) rfl)) (hw _ (List.mem_of_getElem? (i := 3) rfl)) e4 (g := (mkF m 93 #[iv ps, iv pe, iv pa, iv pb, iv pd, iv pq, iv 0, rv b2, rv b3, rv b4, iv 0, iv pq, .unset, .unset] [])) rfl (hb hby at_93) (by decide) (by decide)
        obtain ⟨b14, g14⟩ : ∃ z, z = h4.size := ⟨_, rfl⟩
        rw [← g14] at A14 D14 st14
        have ne_b2_b14 : b2 ≠ b14 := Nat.ne_of_lt (Nat.lt_of_lt_of_le ((V2.ext E3).ext E4).lt (Nat.le_of_eq g14.symm))
        have ne_b3_b14 : b3 ≠ b14 := Nat.ne_of_lt (Nat.lt_of_lt_of_le (V3.ext E4).lt (Nat.le_of_eq g14.symm))
        have ne_b4_b14 : b4 ≠ b14 := Nat.ne_of_lt (Nat.lt_of_lt_of_le V4.lt (Nat.le_of_eq g14.symm))
        have sz_b14 : h0.size ≤ b14 := Nat.le_trans (K4).1 (Nat.le_of_eq g14.symm)
        have g_b14 : n0 ≤ b14 := Nat.le_trans Z0 sz_b14
        have K14 : Keep h0 h14 [] := K4.ext E14
        have F15 : Fld Z h14 b14 "com/example/threshold/threshold/PostingList" "documents" "[I" .null := D14 (Or.inr (hw _ (List.mem_of_getElem? (i := 11) rfl))) (ty := (.array .int)) (by decide)
        have F16 : Fld Z h14 b14 "com/example/threshold/threshold/PostingList" "counts" "[I" .null := D14 (Or.inr (hw _ (List.mem_of_getElem? (i := 13) rfl))) (ty := (.array .int)) (by decide)
        have F17 : Fld Z h14 b14 "com/example/threshold/threshold/PostingList" "collectionFrequency" "J" (.long 0) := D14 (Or.inr (hw _ (List.mem_of_getElem? (i := 15) rfl))) (ty := .long) (by decide)
        have F18 : Fld Z h14 b14 "com/example/threshold/threshold/PostingList" "lengths" "[I" .null := D14 (Or.inr (hw _ (List.mem_of_getElem? (i := 17) rfl))) (ty := (.array .int)) (by decide)
        refine Go.pull (V := T14.setTop (mkF m 96 #[iv ps, iv pe, iv pa, iv pb, iv pd, iv pq, iv 0, rv b2, rv b3, rv b4, iv 0, iv pq, .unset, .unset] [(.ref b14)])) st14 ?_
        refine Go.pull (V := T14.setTop (mkF m 97 #[iv ps, iv pe, iv pa, iv pb, iv pd, iv pq, iv 0, rv b2, rv b3, rv b4, iv 0, iv pq, .unset, .unset] [(.ref b14), (.ref b14)])) (fun t k => XS.dup X14.here hx rfl (hb hby at_96) rfl rfl k) ?_
        refine Go.pull (V := T14.setTop (mkF m 99 #[iv ps, iv pe, iv pa, iv pb, iv pd, iv pq, iv 0, rv b2, rv b3, rv b4, iv 0, iv pq, .unset, .unset] [(.ref b2), (.ref b14), (.ref b14)])) (fun t k => XS.aload X14.here hx rfl (hb hby at_97) rfl rfl k) ?_
        refine Go.pull (V := T14.setTop (mkF m 101 #[iv ps, iv pe, iv pa, iv pb, iv pd, iv pq, iv 0, rv b2, rv b3, rv b4, iv 0, iv pq, .unset, .unset] [(.ref b3), (.ref b2), (.ref b14), (.ref b14)])) (fun t k => XS.aload X14.here hx rfl (hb hby at_99) rfl rfl k) ?_
        refine Go.pull (V := T14.setTop (mkF m 102 #[iv ps, iv pe, iv pa, iv pb, iv pd, iv pq, iv 0, rv b2, rv b3, rv b4, iv 0, iv pq, .unset, .unset] [(.long 0), (.ref b3), (.ref b2), (.ref b14), (.ref b14)])) (fun t k => XS.lconst X14.here hx rfl (hb hby at_101) k) ?_
        refine Go.pull (V := T14.setTop (mkF m 104 #[iv ps, iv pe, iv pa, iv pb, iv pd, iv pq, iv 0, rv b2, rv b3, rv b4, iv 0, iv pq, .unset, .unset] [(.ref b4), (.long 0), (.ref b3), (.ref b2), (.ref b14), (.ref b14)])) (fun t k => XS.aload X14.here hx rfl (hb hby at_102) rfl rfl k) ?_
        obtain ⟨_, _, ⟨T19, L19, k19, n19⟩, -, X19, ⟨Lc19, hQ19, l19, y19, z19⟩, st19⟩ := X14.specialBack hx (y := (⟨"com/example/threshold/threshold/PostingList", "<init>", "([I[IJ[I)V"⟩ : MethodName)) rfl hown (mvT hZ (hw _ (List.mem_of_getElem? (i := 4) rfl))) (mvT hZ (hw _ (List.mem_of_getElem? (i := 5) rfl))) (mvT hZ (hw _ (List.mem_of_getElem? (i := 6) rfl))) (by decide) (backOf (W := 1) (rmI l Z a0 hw [] b14 b2 b3 (0 : Int64) b4 .null .null (.long 0) .null h14 n0 (g_b14) A14 F15 F16 F17 F18) hZ (hw _ (List.mem_of_getElem? (i := 6) rfl)) (hw _ (List.mem_of_getElem? (i := 3) rfl)) (by decide) (by decide)) (g := (mkF m 104 #[iv ps, iv pe, iv pa, iv pb, iv pd, iv pq, iv 0, rv b2, rv b3, rv b4, iv 0, iv pq, .unset, .unset] [(.ref b4), (.long 0), (.ref b3), (.ref b2), (.ref b14), (.ref b14)])) rfl (by rw [hml]; rfl) (Steps.refl _) (a := b14) (argsL := [(.ref b2), (.ref b3), (.long 0), (.ref b4)]) (rest := [(.ref b14)]) (lenOf pd_0 rfl) rfl (by show 2 * 0 + _ ≤ _; exact Nat.le_of_eq rfl) (hb hby at_104) (fun _ _ => ⟨rfl, e14, (by decide : 4 + 0 ≤ _), (by decide : 5 + 0 ≤ _)⟩)
        dsimp only [Pt.U, Pt.locs, Pt.cells, Pt.slots] at X19 l19 y19 z19 st19 hQ19
        subst l19 y19 z19
        obtain ⟨rfl, N19q, Kc19, Fc19_0⟩ := hQ19
        have K19 : Keep h0 T19.heap [] := K14.trans Kc19 ((allS (Or.inr sz_b14) all0))
        have N19 := Fr.app N0 N19q
        refine Go.pull (V := T19.setTop (mkF m 107 #[iv ps, iv pe, iv pa, iv pb, iv pd, iv pq, iv 0, rv b2, rv b3, rv b4, iv 0, iv pq, .unset, .unset] [(.ref b14)])) (fun _ k => st19.trans k) ?_
        refine Go.pull (V := T19.setTop (mkF m 109 #[iv ps, iv pe, iv pa, iv pb, iv pd, iv pq, iv 0, rv b2, rv b3, rv b4, iv 0, iv pq, rv b14, .unset] [])) (fun t k => XS.astore X19.here hx rfl (hb hby at_107) rfl rfl (l' := #[iv ps, iv pe, iv pa, iv pb, iv pd, iv pq, iv 0, rv b2, rv b3, rv b4, iv 0, iv pq, rv b14, .unset]) rfl k) ?_
        refine Go.pull (V := T19.setTop (mkF m 111 #[iv ps, iv pe, iv pa, iv pb, iv pd, iv pq, iv 0, rv b2, rv b3, rv b4, iv 0, iv pq, rv b14, .unset] [(.int 0)])) (fun t k => XS.iload X19.here hx rfl (hb hby at_109) rfl  k) ?_
        refine Go.pull (V := T19.setTop (mkF m 113 #[iv ps, iv pe, iv pa, iv pb, iv pd, iv pq, iv 0, rv b2, rv b3, rv b4, iv 0, iv pq, rv b14, .unset] [(.int 0), (.int 0)])) (fun t k => XS.iload X19.here hx rfl (hb hby at_111) rfl  k) ?_
        refine Go.pull (V := T19.setTop (mkF m 116 #[iv ps, iv pe, iv pa, iv pb, iv pd, iv pq, iv 0, rv b2, rv b3, rv b4, iv 0, iv pq, rv b14, .unset] [])) (fun t k => XS.icmpNo X19.here hx rfl (hb hby at_113) rfl (XT.ii_lt_f (by decide)) k) ?_
        refine Go.pull (V := T19.setTop (mkF m 117 #[iv ps, iv pe, iv pa, iv pb, iv pd, iv pq, iv 0, rv b2, rv b3, rv b4, iv 0, iv pq, rv b14, .unset] [(.int 0)])) (fun t k => XS.iconst X19.here hx rfl (hb hby at_116) k) ?_
        refine Go.pull (V := T19.setTop (mkF m 119 #[iv ps, iv pe, iv pa, iv pb, iv pd, iv pq, iv 0, rv b2, rv b3, rv b4, iv 0, iv pq, rv b14, iv 0] [])) (fun t k => XS.istore X19.here hx rfl (hb hby at_117) rfl (l' := #[iv ps, iv pe, iv pa, iv pb, iv pd, iv pq, iv 0, rv b2, rv b3, rv b4, iv 0, iv pq, rv b14, iv 0]) rfl k) ?_
        refine Go.pull (V := T19.setTop (mkF m 143 #[iv ps, iv pe, iv pa, iv pb, iv pd, iv pq, iv 0, rv b2, rv b3, rv b4, iv 0, iv pq, rv b14, iv 0] [])) (fun t k => XS.goto X19.here hx rfl (pc0 := 119) (pc' := 143) rfl (hb hby at_119) (by decide) (by decide) k) ?_
        refine Go.pull (V := T19.setTop (mkF m 145 #[iv ps, iv pe, iv pa, iv pb, iv pd, iv pq, iv 0, rv b2, rv b3, rv b4, iv 0, iv pq, rv b14, iv 0] [(.ref b14)])) (fun t k => XS.aload X19.here hx rfl (hb hby at_143) rfl rfl k) ?_
        refine Go.pull (V := T19.setTop (mkF m 147 #[iv ps, iv pe, iv pa, iv pb, iv pd, iv pq, iv 0, rv b2, rv b3, rv b4, iv 0, iv pq, rv b14, iv 0] [(.int 0), (.ref b14)])) (fun t k => XS.iload X19.here hx rfl (hb hby at_145) rfl  k) ?_
        refine Go.pull (V := T19.setTop (mkF m 149 #[iv ps, iv pe, iv pa, iv pb, iv pd, iv pq, iv 0, rv b2, rv b3, rv b4, iv 0, iv pq, rv b14, iv 0] [(.int pq), (.int 0), (.ref b14)])) (fun t k => XS.iload X19.here hx rfl (hb hby at_147) rfl  k) ?_
        obtain ⟨cq20, kq20, q20a, q20b, q20c⟩ := isOf hZ rfl (A14.keep Kc19)
        obtain ⟨_, _, ⟨T20, L20, k20, n20⟩, -, X20, ⟨Lc20, hQ20, l20, y20, z20⟩, st20⟩ := X19.virtualBack hx (y := (⟨"com/example/threshold/threshold/PostingList", "holdsAt", "(II)Z"⟩ : MethodName)) (z := (⟨"com/example/threshold/threshold/PostingList", "holdsAt", "(II)Z"⟩ : MethodName)) hown (mvT hZ (hw _ (List.mem_of_getElem? (i := 18) rfl))) (mvT hZ (hw _ (List.mem_of_getElem? (i := 19) rfl))) (notFace_of_selects (args := #[]) (mvT hZ (hw _ (List.mem_of_getElem? (i := 21) rfl)))) (mvT hZ (hw _ (List.mem_of_getElem? (i := 21) rfl))) (mvT hZ (hw _ (List.mem_of_getElem? (i := 20) rfl))) (by decide) (backOf (W := 0) (rmA l Z a0 hw [] b14 (0 : Int32) pq b2 k2 (0 : Int32) ([] : List Value) (0 : Int32) T19.heap n0 Fc19_0 ((((V2.ext E3).ext E4).ext E14).keep Kc19 (ninS (ne_b2_b14) nin0)) rfl (by decide)) hZ (hw _ (List.mem_of_getElem? (i := 22) rfl)) (hw _ (List.mem_of_getElem? (i := 3) rfl)) (by decide) (by decide)) q20a q20c (g := (mkF m 149 #[iv ps, iv pe, iv pa, iv pb, iv pd, iv pq, iv 0, rv b2, rv b3, rv b4, iv 0, iv pq, rv b14, iv 0] [(.int pq), (.int 0), (.ref b14)])) rfl (by rw [hml]; rfl) (Steps.refl _) (argsL := [(.int 0), (.int pq)]) (rest := []) (lenOf pd_1 rfl) rfl (by show 2 * 0 + _ ≤ _; exact Nat.le_of_eq rfl) (hb hby at_149) (fun _ _ => ⟨rfl, rfl, (by decide : 4 + 0 ≤ _), (by decide : 5 + 0 ≤ _)⟩)
        dsimp only [Pt.U, Pt.locs, Pt.cells, Pt.slots] at X20 l20 y20 z20 st20 hQ20
        subst l20 y20 z20
        obtain ⟨hv20, N20q, e20⟩ := hQ20
        rw [(show (own_hold (0 : Int32) (0 : Int32) pq (0 : Int32)) = (0 : Int32) from by rw [own_hold, if_neg (by decide)])] at hv20; subst hv20
        have N20 := Fr.app N19 N20q
        refine Go.pull (V := T20.setTop (mkF m 152 #[iv ps, iv pe, iv pa, iv pb, iv pd, iv pq, iv 0, rv b2, rv b3, rv b4, iv 0, iv pq, rv b14, iv 0] [(.int 0)])) (fun _ k => st20.trans k) ?_
        refine Go.pull (V := T20.setTop (mkF m 154 #[iv ps, iv pe, iv pa, iv pb, iv pd, iv pq, iv 0, rv b2, rv b3, rv b4, iv 0, iv pq, rv b14, iv 0] [(.int 0), (.int 0)])) (fun t k => XS.iload X20.here hx rfl (hb hby at_152) rfl  k) ?_
        refine Go.pull (V := T20.setTop (mkF m 157 #[iv ps, iv pe, iv pa, iv pb, iv pd, iv pq, iv 0, rv b2, rv b3, rv b4, iv 0, iv pq, rv b14, iv 0] [])) (fun t k => XS.icmpNo X20.here hx rfl (hb hby at_154) rfl (XT.ii_ne_f (by decide)) k) ?_
        refine Go.pull (V := T20.setTop (mkF m 158 #[iv ps, iv pe, iv pa, iv pb, iv pd, iv pq, iv 0, rv b2, rv b3, rv b4, iv 0, iv pq, rv b14, iv 0] [(.int 1)])) (fun t k => XS.iconst X20.here hx rfl (hb hby at_157) k) ?_
        refine Go.pull (V := T20.setTop (mkF m 162 #[iv ps, iv pe, iv pa, iv pb, iv pd, iv pq, iv 0, rv b2, rv b3, rv b4, iv 0, iv pq, rv b14, iv 0] [(.int 1)])) (fun t k => XS.goto X20.here hx rfl (pc0 := 158) (pc' := 162) rfl (hb hby at_158) (by decide) (by decide) k) ?_
        exact Go.retN X20 hx Bd.notSynchronized (t := .boolean) Bd.returns (by simp) (hb hby at_162) ⟨rfl, N20⟩ (by decide) (by decide)
  · subst hv1
    refine Go.pull (V := s₁.setTop (mkF m 7 #[iv ps, iv pe, iv pa, iv pb, iv pd, iv pq, iv 1, .unset, .unset, .unset, .unset, .unset, .unset, .unset] [(.int 1)])) (fun t k => XS.iload X0.here hx rfl (hb hby at_5) rfl  k) ?_
    obtain ⟨T21, h21, k21, X21, e21, E21, A21, st21⟩ := newP X0 hx hZ (hw _ (List.mem_of_getElem? (i := 0) rfl)) e0 (g := (mkF m 7 #[iv ps, iv pe, iv pa, iv pb, iv pd, iv pq, iv 1, .unset, .unset, .unset, .unset, .unset, .unset, .unset] [(.int 1)])) rfl (hb hby at_7) rfl (by decide) (cap := 1) (by decide) (by decide) (by decide) (by decide)
    obtain ⟨b21, g21⟩ : ∃ z, z = h0.size := ⟨_, rfl⟩
    rw [← g21] at A21 st21
    have sz_b21 : h0.size ≤ b21 := Nat.le_trans ((Keep.refl h0 [])).1 (Nat.le_of_eq g21.symm)
    have g_b21 : n0 ≤ b21 := Nat.le_trans Z0 sz_b21
    have K21 : Keep h0 h21 [] := (Keep.refl h0 []).ext E21
    have V21 : Arv Z h21 b21 k21 .int (1 : Int32) [(.int 0)] (.int 0) := (Arv.new A21 (by decide)).pad (pad_rep [] (.int 0) 1)
    refine Go.pull (V := T21.setTop (mkF m 9 #[iv ps, iv pe, iv pa, iv pb, iv pd, iv pq, iv 1, .unset, .unset, .unset, .unset, .unset, .unset, .unset] [(.ref b21)])) st21 ?_
    refine Go.pull (V := T21.setTop (mkF m 11 #[iv ps, iv pe, iv pa, iv pb, iv pd, iv pq, iv 1, rv b21, .unset, .unset, .unset, .unset, .unset, .unset] [])) (fun t k => XS.astore X21.here hx rfl (hb hby at_9) rfl rfl (l' := #[iv ps, iv pe, iv pa, iv pb, iv pd, iv pq, iv 1, rv b21, .unset, .unset, .unset, .unset, .unset, .unset]) rfl k) ?_
    refine Go.pull (V := T21.setTop (mkF m 13 #[iv ps, iv pe, iv pa, iv pb, iv pd, iv pq, iv 1, rv b21, .unset, .unset, .unset, .unset, .unset, .unset] [(.int 1)])) (fun t k => XS.iload X21.here hx rfl (hb hby at_11) rfl  k) ?_
    obtain ⟨T22, h22, k22, X22, e22, E22, A22, st22⟩ := newP X21 hx hZ (hw _ (List.mem_of_getElem? (i := 0) rfl)) e21 (g := (mkF m 13 #[iv ps, iv pe, iv pa, iv pb, iv pd, iv pq, iv 1, rv b21, .unset, .unset, .unset, .unset, .unset, .unset] [(.int 1)])) rfl (hb hby at_13) rfl (by decide) (cap := 1) (by decide) (by decide) (by decide) (by decide)
    obtain ⟨b22, g22⟩ : ∃ z, z = h21.size := ⟨_, rfl⟩
    rw [← g22] at A22 st22
    have ne_b21_b22 : b21 ≠ b22 := Nat.ne_of_lt (Nat.lt_of_lt_of_le V21.lt (Nat.le_of_eq g22.symm))
    have sz_b22 : h0.size ≤ b22 := Nat.le_trans (K21).1 (Nat.le_of_eq g22.symm)
    have g_b22 : n0 ≤ b22 := Nat.le_trans Z0 sz_b22
    have K22 : Keep h0 h22 [] := K21.ext E22
    have V22 : Arv Z h22 b22 k22 .int (1 : Int32) [(.int 0)] (.int 0) := (Arv.new A22 (by decide)).pad (pad_rep [] (.int 0) 1)
    refine Go.pull (V := T22.setTop (mkF m 15 #[iv ps, iv pe, iv pa, iv pb, iv pd, iv pq, iv 1, rv b21, .unset, .unset, .unset, .unset, .unset, .unset] [(.ref b22)])) st22 ?_
    refine Go.pull (V := T22.setTop (mkF m 17 #[iv ps, iv pe, iv pa, iv pb, iv pd, iv pq, iv 1, rv b21, rv b22, .unset, .unset, .unset, .unset, .unset] [])) (fun t k => XS.astore X22.here hx rfl (hb hby at_15) rfl rfl (l' := #[iv ps, iv pe, iv pa, iv pb, iv pd, iv pq, iv 1, rv b21, rv b22, .unset, .unset, .unset, .unset, .unset]) rfl k) ?_
    refine Go.pull (V := T22.setTop (mkF m 19 #[iv ps, iv pe, iv pa, iv pb, iv pd, iv pq, iv 1, rv b21, rv b22, .unset, .unset, .unset, .unset, .unset] [(.int 1)])) (fun t k => XS.iload X22.here hx rfl (hb hby at_17) rfl  k) ?_
    refine Go.pull (V := T22.setTop (mkF m 22 #[iv ps, iv pe, iv pa, iv pb, iv pd, iv pq, iv 1, rv b21, rv b22, .unset, .unset, .unset, .unset, .unset] [])) (fun t k => XS.ifNo X22.here hx rfl (hb hby at_19) rfl (XT.i0_le_f (by decide)) k) ?_
    refine Go.pull (V := T22.setTop (mkF m 24 #[iv ps, iv pe, iv pa, iv pb, iv pd, iv pq, iv 1, rv b21, rv b22, .unset, .unset, .unset, .unset, .unset] [(.ref b21)])) (fun t k => XS.aload X22.here hx rfl (hb hby at_22) rfl rfl k) ?_
    refine Go.pull (V := T22.setTop (mkF m 25 #[iv ps, iv pe, iv pa, iv pb, iv pd, iv pq, iv 1, rv b21, rv b22, .unset, .unset, .unset, .unset, .unset] [(.int 0), (.ref b21)])) (fun t k => XS.iconst X22.here hx rfl (hb hby at_24) k) ?_
    refine Go.pull (V := T22.setTop (mkF m 26 #[iv ps, iv pe, iv pa, iv pb, iv pd, iv pq, iv 1, rv b21, rv b22, .unset, .unset, .unset, .unset, .unset] [(.int pa), (.int 0), (.ref b21)])) (fun t k => XS.iloadN X22.here hx rfl (hb hby at_25) rfl  k) ?_
    obtain ⟨cl23, Ar23, q23, S23, M23, Hs23, G23⟩ := id (V21.ext E22)
    have hin23 : ¬ ((0 : Int32) < 0 ∨ cl23.slots.size ≤ ((0 : Int32)).toNatClampNeg) := inb_of S23 ⟨by decide, by decide⟩
    obtain ⟨T24, h24, X24, e24, W24, st24⟩ := stI X22 hx hZ e22 Ar23 (j := (0 : Int32)) hin23 (g := (mkF m 26 #[iv ps, iv pe, iv pa, iv pb, iv pd, iv pq, iv 1, rv b21, rv b22, .unset, .unset, .unset, .unset, .unset] [(.int pa), (.int 0), (.ref b21)])) rfl rfl (hb hby at_26)
    have V24 : Arv Z h24 b21 k21 .int (1 : Int32) [(.int pa)] (.int 0) := Arv.set Ar23 q23 S23 M23 Hs23 G23 rfl W24 0 rfl (Nat.le_of_ble_eq_true rfl)
    have K24 : Keep h0 h24 [] := K22.wr W24 (Or.inr sz_b21)
    have N24 := Fr.snoc X24 N0 g_b21
    refine Go.pull (V := T24.setTop (mkF m 27 #[iv ps, iv pe, iv pa, iv pb, iv pd, iv pq, iv 1, rv b21, rv b22, .unset, .unset, .unset, .unset, .unset] [])) st24 ?_
    refine Go.pull (V := T24.setTop (mkF m 29 #[iv ps, iv pe, iv pa, iv pb, iv pd, iv pq, iv 1, rv b21, rv b22, .unset, .unset, .unset, .unset, .unset] [(.int 1)])) (fun t k => XS.iload X24.here hx rfl (hb hby at_27) rfl  k) ?_
    refine Go.pull (V := T24.setTop (mkF m 30 #[iv ps, iv pe, iv pa, iv pb, iv pd, iv pq, iv 1, rv b21, rv b22, .unset, .unset, .unset, .unset, .unset] [(.int 1), (.int 1)])) (fun t k => XS.iconst X24.here hx rfl (hb hby at_29) k) ?_
    refine Go.pull (V := T24.setTop (mkF m 38 #[iv ps, iv pe, iv pa, iv pb, iv pd, iv pq, iv 1, rv b21, rv b22, .unset, .unset, .unset, .unset, .unset] [])) (fun t k => XS.icmpYes X24.here hx rfl (pc0 := 30) (pc' := 38) rfl (hb hby at_30) rfl (XT.ii_le_t (by decide)) (by decide) (by decide) k) ?_
    refine Go.pull (V := T24.setTop (mkF m 40 #[iv ps, iv pe, iv pa, iv pb, iv pd, iv pq, iv 1, rv b21, rv b22, .unset, .unset, .unset, .unset, .unset] [(.int 1)])) (fun t k => XS.iload X24.here hx rfl (hb hby at_38) rfl  k) ?_
    refine Go.pull (V := T24.setTop (mkF m 41 #[iv ps, iv pe, iv pa, iv pb, iv pd, iv pq, iv 1, rv b21, rv b22, .unset, .unset, .unset, .unset, .unset] [(.int 2), (.int 1)])) (fun t k => XS.iconst X24.here hx rfl (hb hby at_40) k) ?_
    refine Go.pull (V := T24.setTop (mkF m 50 #[iv ps, iv pe, iv pa, iv pb, iv pd, iv pq, iv 1, rv b21, rv b22, .unset, .unset, .unset, .unset, .unset] [])) (fun t k => XS.icmpYes X24.here hx rfl (pc0 := 41) (pc' := 50) rfl (hb hby at_41) rfl (XT.ii_le_t (by decide)) (by decide) (by decide) k) ?_
    refine Go.pull (V := T24.setTop (mkF m 51 #[iv ps, iv pe, iv pa, iv pb, iv pd, iv pq, iv 1, rv b21, rv b22, .unset, .unset, .unset, .unset, .unset] [(.int 0)])) (fun t k => XS.iconst X24.here hx rfl (hb hby at_50) k) ?_
    obtain ⟨T25, h25, k25, X25, e25, E25, A25, st25⟩ := newP X24 hx hZ (hw _ (List.mem_of_getElem? (i := 0) rfl)) e24 (g := (mkF m 51 #[iv ps, iv pe, iv pa, iv pb, iv pd, iv pq, iv 1, rv b21, rv b22, .unset, .unset, .unset, .unset, .unset] [(.int 0)])) rfl (hb hby at_51) rfl (by decide) (cap := 0) (by decide) (by decide) (by decide) (by decide)
    obtain ⟨b25, g25⟩ : ∃ z, z = h24.size := ⟨_, rfl⟩
    rw [← g25] at A25 st25
    have ne_b21_b25 : b21 ≠ b25 := Nat.ne_of_lt (Nat.lt_of_lt_of_le V24.lt (Nat.le_of_eq g25.symm))
    have ne_b22_b25 : b22 ≠ b25 := Nat.ne_of_lt (Nat.lt_of_lt_of_le (V22.other W24 (Ne.symm (ne_b21_b22))).lt (Nat.le_of_eq g25.symm))
    have sz_b25 : h0.size ≤ b25 := Nat.le_trans (K24).1 (Nat.le_of_eq g25.symm)
    have g_b25 : n0 ≤ b25 := Nat.le_trans Z0 sz_b25
    have K25 : Keep h0 h25 [] := K24.ext E25
    have V25 : Arv Z h25 b25 k25 .int (0 : Int32) [] (.int 0) := (Arv.new A25 (by decide)).pad (pad_rep [] (.int 0) 0)
    refine Go.pull (V := T25.setTop (mkF m 53 #[iv ps, iv pe, iv pa, iv pb, iv pd, iv pq, iv 1, rv b21, rv b22, .unset, .unset, .unset, .unset, .unset] [(.ref b25)])) st25 ?_
    refine Go.pull (V := T25.setTop (mkF m 55 #[iv ps, iv pe, iv pa, iv pb, iv pd, iv pq, iv 1, rv b21, rv b22, rv b25, .unset, .unset, .unset, .unset] [])) (fun t k => XS.astore X25.here hx rfl (hb hby at_53) rfl rfl (l' := #[iv ps, iv pe, iv pa, iv pb, iv pd, iv pq, iv 1, rv b21, rv b22, rv b25, .unset, .unset, .unset, .unset]) rfl k) ?_
    refine Go.pull (V := T25.setTop (mkF m 56 #[iv ps, iv pe, iv pa, iv pb, iv pd, iv pq, iv 1, rv b21, rv b22, rv b25, .unset, .unset, .unset, .unset] [(.int pe)])) (fun t k => XS.iloadN X25.here hx rfl (hb hby at_55) rfl  k) ?_
    refine Go.pull (V := T25.setTop (mkF m 57 #[iv ps, iv pe, iv pa, iv pb, iv pd, iv pq, iv 1, rv b21, rv b22, rv b25, .unset, .unset, .unset, .unset] [(.int 3), (.int pe)])) (fun t k => XS.iconst X25.here hx rfl (hb hby at_56) k) ?_
    refine Go.pull (V := T25.setTop (mkF m 58 #[iv ps, iv pe, iv pa, iv pb, iv pd, iv pq, iv 1, rv b21, rv b22, rv b25, .unset, .unset, .unset, .unset] [(.int (pe &&& (3 : Int32)))])) (fun t k => XS.iand X25.here hx rfl (hb hby at_57) rfl k) ?_
    refine Go.pull (V := T25.setTop (mkF m 60 #[iv ps, iv pe, iv pa, iv pb, iv pd, iv pq, iv 1, rv b21, rv b22, rv b25, .unset, .unset, .unset, .unset] [(.int 1), (.int (pe &&& (3 : Int32)))])) (fun t k => XS.iload X25.here hx rfl (hb hby at_58) rfl  k) ?_
    refine Go.pull (V := T25.setTop (mkF m 61 #[iv ps, iv pe, iv pa, iv pb, iv pd, iv pq, iv 1, rv b21, rv b22, rv b25, .unset, .unset, .unset, .unset] [(.int 1), (.int 1), (.int (pe &&& (3 : Int32)))])) (fun t k => XS.iconst X25.here hx rfl (hb hby at_60) k) ?_
    refine Go.pull (V := T25.setTop (mkF m 62 #[iv ps, iv pe, iv pa, iv pb, iv pd, iv pq, iv 1, rv b21, rv b22, rv b25, .unset, .unset, .unset, .unset] [(.int 2), (.int (pe &&& (3 : Int32)))])) (fun t k => XS.iadd X25.here hx rfl (hb hby at_61) rfl k) ?_
    refine Go.pull (V := T25.setTop (mkF m 63 #[iv ps, iv pe, iv pa, iv pb, iv pd, iv pq, iv 1, rv b21, rv b22, rv b25, .unset, .unset, .unset, .unset] [(.int ((pe &&& (3 : Int32)) % (2 : Int32)))])) (fun t k => iremM X25 hx rfl (hb hby at_62) rfl (by decide) k) ?_
    refine Go.pull (V := T25.setTop (mkF m 65 #[iv ps, iv pe, iv pa, iv pb, iv pd, iv pq, iv 1, rv b21, rv b22, rv b25, iv ((pe &&& (3 : Int32)) % (2 : Int32)), .unset, .unset, .unset] [])) (fun t k => XS.istore X25.here hx rfl (hb hby at_63) rfl (l' := #[iv ps, iv pe, iv pa, iv pb, iv pd, iv pq, iv 1, rv b21, rv b22, rv b25, iv ((pe &&& (3 : Int32)) % (2 : Int32)), .unset, .unset, .unset]) rfl k) ?_
    generalize gv26 : ((pe &&& (3 : Int32)) % (2 : Int32)) = v26
    obtain hv26 | hv26 := own_rem2 _ gv26
    · subst hv26
      refine Go.pull (V := T25.setTop (mkF m 67 #[iv ps, iv pe, iv pa, iv pb, iv pd, iv pq, iv 1, rv b21, rv b22, rv b25, iv 0, .unset, .unset, .unset] [(.int pq)])) (fun t k => XS.iload X25.here hx rfl (hb hby at_65) rfl  k) ?_
      refine Go.pull (V := T25.setTop (mkF m 69 #[iv ps, iv pe, iv pa, iv pb, iv pd, iv pq, iv 1, rv b21, rv b22, rv b25, iv 0, iv pq, .unset, .unset] [])) (fun t k => XS.istore X25.here hx rfl (hb hby at_67) rfl (l' := #[iv ps, iv pe, iv pa, iv pb, iv pd, iv pq, iv 1, rv b21, rv b22, rv b25, iv 0, iv pq, .unset, .unset]) rfl k) ?_
      refine Go.pull (V := T25.setTop (mkF m 70 #[iv ps, iv pe, iv pa, iv pb, iv pd, iv pq, iv 1, rv b21, rv b22, rv b25, iv 0, iv pq, .unset, .unset] [(.int pe)])) (fun t k => XS.iloadN X25.here hx rfl (hb hby at_69) rfl  k) ?_
      refine Go.pull (V := T25.setTop (mkF m 71 #[iv ps, iv pe, iv pa, iv pb, iv pd, iv pq, iv 1, rv b21, rv b22, rv b25, iv 0, iv pq, .unset, .unset] [(.int 4), (.int pe)])) (fun t k => XS.iconst X25.here hx rfl (hb hby at_70) k) ?_
      refine Go.pull (V := T25.setTop (mkF m 72 #[iv ps, iv pe, iv pa, iv pb, iv pd, iv pq, iv 1, rv b21, rv b22, rv b25, iv 0, iv pq, .unset, .unset] [(.int (pe &&& (4 : Int32)))])) (fun t k => XS.iand X25.here hx rfl (hb hby at_71) rfl k) ?_
      by_cases hc72_27 : (pe &&& (4 : Int32)) = 0
      · skip
        refine Go.pull (V := T25.setTop (mkF m 93 #[iv ps, iv pe, iv pa, iv pb, iv pd, iv pq, iv 1, rv b21, rv b22, rv b25, iv 0, iv pq, .unset, .unset] [])) (fun t k => XS.ifYes X25.here hx rfl (pc0 := 72) (pc' := 93) rfl (hb hby at_72) rfl (XT.i0_eq_t hc72_27) (by decide) (by decide) k) ?_
        obtain ⟨T28, h28, X28, e28, E28, A28, D28, -, st28⟩ := newO X25 hx hZ hown (hw _ (List.mem_of_getElem? (i := 1) rfl)) (hw _ (List.mem_of_getElem? (i := 2) rfl)) (hw _ (List.mem_of_getElem? (i := 3) rfl)) e25 (g := (mkF m 93 #[iv ps, iv pe, iv pa, iv pb, iv pd, iv pq, iv 1, rv b21, rv b22, rv b25, iv 0, iv pq, .unset, .unset] [])) rfl (hb hby at_93) (by decide) (by decide)
        obtain ⟨b28, g28⟩ : ∃ z, z = h25.size := ⟨_, rfl⟩
        rw [← g28] at A28 D28 st28
        have ne_b21_b28 : b21 ≠ b28 := Nat.ne_of_lt (Nat.lt_of_lt_of_le (V24.ext E25).lt (Nat.le_of_eq g28.symm))
        have ne_b22_b28 : b22 ≠ b28 := Nat.ne_of_lt (Nat.lt_of_lt_of_le ((V22.other W24 (Ne.symm (ne_b21_b22))).ext E25).lt (Nat.le_of_eq g28.symm))
        have ne_b25_b28 : b25 ≠ b28 := Nat.ne_of_lt (Nat.lt_of_lt_of_le V25.lt (Nat.le_of_eq g28.symm))
        have sz_b28 : h0.size ≤ b28 := Nat.le_trans (K25).1 (Nat.le_of_eq g28.symm)
        have g_b28 : n0 ≤ b28 := Nat.le_trans Z0 sz_b28
        have K28 : Keep h0 h28 [] := K25.ext E28
        have F29 : Fld Z h28 b28 "com/example/threshold/threshold/PostingList" "documents" "[I" .null := D28 (Or.inr (hw _ (List.mem_of_getElem? (i := 11) rfl))) (ty := (.array .int)) (by decide)
        have F30 : Fld Z h28 b28 "com/example/threshold/threshold/PostingList" "counts" "[I" .null := D28 (Or.inr (hw _ (List.mem_of_getElem? (i := 13) rfl))) (ty := (.array .int)) (by decide)
        have F31 : Fld Z h28 b28 "com/example/threshold/threshold/PostingList" "collectionFrequency" "J" (.long 0) := D28 (Or.inr (hw _ (List.mem_of_getElem? (i := 15) rfl))) (ty := .long) (by decide)
        have F32 : Fld Z h28 b28 "com/example/threshold/threshold/PostingList" "lengths" "[I" .null := D28 (Or.inr (hw _ (List.mem_of_getElem? (i := 17) rfl))) (ty := (.array .int)) (by decide)
        refine Go.pull (V := T28.setTop (mkF m 96 #[iv ps, iv pe, iv pa, iv pb, iv pd, iv pq, iv 1, rv b21, rv b22, rv b25, iv 0, iv pq, .unset, .unset] [(.ref b28)])) st28 ?_
        refine Go.pull (V := T28.setTop (mkF m 97 #[iv ps, iv pe, iv pa, iv pb, iv pd, iv pq, iv 1, rv b21, rv b22, rv b25, iv 0, iv pq, .unset, .unset] [(.ref b28), (.ref b28)])) (fun t k => XS.dup X28.here hx rfl (hb hby at_96) rfl rfl k) ?_
        refine Go.pull (V := T28.setTop (mkF m 99 #[iv ps, iv pe, iv pa, iv pb, iv pd, iv pq, iv 1, rv b21, rv b22, rv b25, iv 0, iv pq, .unset, .unset] [(.ref b21), (.ref b28), (.ref b28)])) (fun t k => XS.aload X28.here hx rfl (hb hby at_97) rfl rfl k) ?_
        refine Go.pull (V := T28.setTop (mkF m 101 #[iv ps, iv pe, iv pa, iv pb, iv pd, iv pq, iv 1, rv b21, rv b22, rv b25, iv 0, iv pq, .unset, .unset] [(.ref b22), (.ref b21), (.ref b28), (.ref b28)])) (fun t k => XS.aload X28.here hx rfl (hb hby at_99) rfl rfl k) ?_
        refine Go.pull (V := T28.setTop (mkF m 102 #[iv ps, iv pe, iv pa, iv pb, iv pd, iv pq, iv 1, rv b21, rv b22, rv b25, iv 0, iv pq, .unset, .unset] [(.long 0), (.ref b22), (.ref b21), (.ref b28), (.ref b28)])) (fun t k => XS.lconst X28.here hx rfl (hb hby at_101) k) ?_
        refine Go.pull (V := T28.setTop (mkF m 104 #[iv ps, iv pe, iv pa, iv pb, iv pd, iv pq, iv 1, rv b21, rv b22, rv b25, iv 0, iv pq, .unset, .unset] [(.ref b25), (.long 0), (.ref b22), (.ref b21), (.ref b28), (.ref b28)])) (fun t k => XS.aload X28.here hx rfl (hb hby at_102) rfl rfl k) ?_
        obtain ⟨_, _, ⟨T33, L33, k33, n33⟩, -, X33, ⟨Lc33, hQ33, l33, y33, z33⟩, st33⟩ := X28.specialBack hx (y := (⟨"com/example/threshold/threshold/PostingList", "<init>", "([I[IJ[I)V"⟩ : MethodName)) rfl hown (mvT hZ (hw _ (List.mem_of_getElem? (i := 4) rfl))) (mvT hZ (hw _ (List.mem_of_getElem? (i := 5) rfl))) (mvT hZ (hw _ (List.mem_of_getElem? (i := 6) rfl))) (by decide) (backOf (W := 1) (rmI l Z a0 hw [] b28 b21 b22 (0 : Int64) b25 .null .null (.long 0) .null h28 n0 (g_b28) A28 F29 F30 F31 F32) hZ (hw _ (List.mem_of_getElem? (i := 6) rfl)) (hw _ (List.mem_of_getElem? (i := 3) rfl)) (by decide) (by decide)) (g := (mkF m 104 #[iv ps, iv pe, iv pa, iv pb, iv pd, iv pq, iv 1, rv b21, rv b22, rv b25, iv 0, iv pq, .unset, .unset] [(.ref b25), (.long 0), (.ref b22), (.ref b21), (.ref b28), (.ref b28)])) rfl (by rw [hml]; rfl) (Steps.refl _) (a := b28) (argsL := [(.ref b21), (.ref b22), (.long 0), (.ref b25)]) (rest := [(.ref b28)]) (lenOf pd_0 rfl) rfl (by show 2 * 0 + _ ≤ _; exact Nat.le_of_eq rfl) (hb hby at_104) (fun _ _ => ⟨rfl, e28, (by decide : 4 + 0 ≤ _), (by decide : 7 + 0 ≤ _)⟩)
        dsimp only [Pt.U, Pt.locs, Pt.cells, Pt.slots] at X33 l33 y33 z33 st33 hQ33
        subst l33 y33 z33
        obtain ⟨rfl, N33q, Kc33, Fc33_0⟩ := hQ33
        have K33 : Keep h0 T33.heap [] := K28.trans Kc33 ((allS (Or.inr sz_b28) all0))
        have N33 := Fr.app N24 N33q
        refine Go.pull (V := T33.setTop (mkF m 107 #[iv ps, iv pe, iv pa, iv pb, iv pd, iv pq, iv 1, rv b21, rv b22, rv b25, iv 0, iv pq, .unset, .unset] [(.ref b28)])) (fun _ k => st33.trans k) ?_
        refine Go.pull (V := T33.setTop (mkF m 109 #[iv ps, iv pe, iv pa, iv pb, iv pd, iv pq, iv 1, rv b21, rv b22, rv b25, iv 0, iv pq, rv b28, .unset] [])) (fun t k => XS.astore X33.here hx rfl (hb hby at_107) rfl rfl (l' := #[iv ps, iv pe, iv pa, iv pb, iv pd, iv pq, iv 1, rv b21, rv b22, rv b25, iv 0, iv pq, rv b28, .unset]) rfl k) ?_
        refine Go.pull (V := T33.setTop (mkF m 111 #[iv ps, iv pe, iv pa, iv pb, iv pd, iv pq, iv 1, rv b21, rv b22, rv b25, iv 0, iv pq, rv b28, .unset] [(.int 0)])) (fun t k => XS.iload X33.here hx rfl (hb hby at_109) rfl  k) ?_
        refine Go.pull (V := T33.setTop (mkF m 113 #[iv ps, iv pe, iv pa, iv pb, iv pd, iv pq, iv 1, rv b21, rv b22, rv b25, iv 0, iv pq, rv b28, .unset] [(.int 1), (.int 0)])) (fun t k => XS.iload X33.here hx rfl (hb hby at_111) rfl  k) ?_
        refine Go.pull (V := T33.setTop (mkF m 122 #[iv ps, iv pe, iv pa, iv pb, iv pd, iv pq, iv 1, rv b21, rv b22, rv b25, iv 0, iv pq, rv b28, .unset] [])) (fun t k => XS.icmpYes X33.here hx rfl (pc0 := 113) (pc' := 122) rfl (hb hby at_113) rfl (XT.ii_lt_t (by decide)) (by decide) (by decide) k) ?_
        refine Go.pull (V := T33.setTop (mkF m 124 #[iv ps, iv pe, iv pa, iv pb, iv pd, iv pq, iv 1, rv b21, rv b22, rv b25, iv 0, iv pq, rv b28, .unset] [(.int 0)])) (fun t k => XS.iload X33.here hx rfl (hb hby at_122) rfl  k) ?_
        refine Go.pull (V := T33.setTop (mkF m 125 #[iv ps, iv pe, iv pa, iv pb, iv pd, iv pq, iv 1, rv b21, rv b22, rv b25, iv 0, iv pq, rv b28, .unset] [(.int pa), (.int 0)])) (fun t k => XS.iloadN X33.here hx rfl (hb hby at_124) rfl  k) ?_
        refine Go.pull (V := T33.setTop (mkF m 126 #[iv ps, iv pe, iv pa, iv pb, iv pd, iv pq, iv 1, rv b21, rv b22, rv b25, iv 0, iv pq, rv b28, .unset] [(.int pb), (.int pa), (.int 0)])) (fun t k => XS.iloadN X33.here hx rfl (hb hby at_125) rfl  k) ?_
        refine Go.pull (V := T33.setTop (mkF m 128 #[iv ps, iv pe, iv pa, iv pb, iv pd, iv pq, iv 1, rv b21, rv b22, rv b25, iv 0, iv pq, rv b28, .unset] [(.int pd), (.int pb), (.int pa), (.int 0)])) (fun t k => XS.iload X33.here hx rfl (hb hby at_126) rfl  k) ?_
        obtain ⟨_, _, ⟨T34, L34, k34, n34⟩, -, X34, ⟨Lc34, hQ34, l34, y34, z34⟩, st34⟩ := Jvm.LawKit.callS X33 hx (y := (⟨"com/example/threshold/threshold/PostingListHoldsAtPinLaw", "at", "(IIII)I"⟩ : MethodName)) hown (mvT hZ (hw _ (List.mem_of_getElem? (i := 23) rfl))) (mvT hZ (hw _ (List.mem_of_getElem? (i := 24) rfl))) (mvT hZ (hw _ (List.mem_of_getElem? (i := 25) rfl))) (mvT hZ (hw _ (List.mem_of_getElem? (i := 26) rfl))) (by decide) (backOf (W := 0) (rmT l Z a0 hw [] (0 : Int32) pa pb pd T33.heap n0 ) hZ (hw _ (List.mem_of_getElem? (i := 26) rfl)) (hw _ (List.mem_of_getElem? (i := 25) rfl)) (by decide) (by decide)) (g := (mkF m 128 #[iv ps, iv pe, iv pa, iv pb, iv pd, iv pq, iv 1, rv b21, rv b22, rv b25, iv 0, iv pq, rv b28, .unset] [(.int pd), (.int pb), (.int pa), (.int 0)])) rfl (by rw [hml]; rfl) (argsL := [(.int 0), (.int pa), (.int pb), (.int pd)]) (rest := []) (lenOf pd_2 rfl) rfl (by show 2 * 0 + _ ≤ _; exact Nat.le_of_eq rfl) (hb hby at_128) (fun _ _ => ⟨rfl, rfl, (by decide : 4 + 0 ≤ _), (by decide : 7 + 0 ≤ _)⟩)
        dsimp only [Pt.U, Pt.locs, Pt.cells, Pt.slots] at X34 l34 y34 z34 st34 hQ34
        subst l34 y34 z34
        obtain ⟨hv34, N34q, e34⟩ := hQ34
        rw [(show (own_at (0 : Int32) pa pb pd) = pa from by rw [own_at, if_pos rfl])] at hv34; subst hv34
        have N34 := Fr.app N33 N34q
        refine Go.pull (V := T34.setTop (mkF m 131 #[iv ps, iv pe, iv pa, iv pb, iv pd, iv pq, iv 1, rv b21, rv b22, rv b25, iv 0, iv pq, rv b28, .unset] [(.int pa)])) st34 ?_
        refine Go.pull (V := T34.setTop (mkF m 133 #[iv ps, iv pe, iv pa, iv pb, iv pd, iv pq, iv 1, rv b21, rv b22, rv b25, iv 0, iv pq, rv b28, .unset] [(.int pq), (.int pa)])) (fun t k => XS.iload X34.here hx rfl (hb hby at_131) rfl  k) ?_
        by_cases hc133_35 : pa = pq
        · skip
          refine Go.pull (V := T34.setTop (mkF m 136 #[iv ps, iv pe, iv pa, iv pb, iv pd, iv pq, iv 1, rv b21, rv b22, rv b25, iv 0, iv pq, rv b28, .unset] [])) (fun t k => XS.icmpNo X34.here hx rfl (hb hby at_133) rfl (XT.ii_ne_f hc133_35) k) ?_
          refine Go.pull (V := T34.setTop (mkF m 137 #[iv ps, iv pe, iv pa, iv pb, iv pd, iv pq, iv 1, rv b21, rv b22, rv b25, iv 0, iv pq, rv b28, .unset] [(.int 1)])) (fun t k => XS.iconst X34.here hx rfl (hb hby at_136) k) ?_
          refine Go.pull (V := T34.setTop (mkF m 141 #[iv ps, iv pe, iv pa, iv pb, iv pd, iv pq, iv 1, rv b21, rv b22, rv b25, iv 0, iv pq, rv b28, .unset] [(.int 1)])) (fun t k => XS.goto X34.here hx rfl (pc0 := 137) (pc' := 141) rfl (hb hby at_137) (by decide) (by decide) k) ?_
          refine Go.pull (V := T34.setTop (mkF m 143 #[iv ps, iv pe, iv pa, iv pb, iv pd, iv pq, iv 1, rv b21, rv b22, rv b25, iv 0, iv pq, rv b28, iv 1] [])) (fun t k => XS.istore X34.here hx rfl (hb hby at_141) rfl (l' := #[iv ps, iv pe, iv pa, iv pb, iv pd, iv pq, iv 1, rv b21, rv b22, rv b25, iv 0, iv pq, rv b28, iv 1]) rfl k) ?_
          refine Go.pull (V := T34.setTop (mkF m 145 #[iv ps, iv pe, iv pa, iv pb, iv pd, iv pq, iv 1, rv b21, rv b22, rv b25, iv 0, iv pq, rv b28, iv 1] [(.ref b28)])) (fun t k => XS.aload X34.here hx rfl (hb hby at_143) rfl rfl k) ?_
          refine Go.pull (V := T34.setTop (mkF m 147 #[iv ps, iv pe, iv pa, iv pb, iv pd, iv pq, iv 1, rv b21, rv b22, rv b25, iv 0, iv pq, rv b28, iv 1] [(.int 0), (.ref b28)])) (fun t k => XS.iload X34.here hx rfl (hb hby at_145) rfl  k) ?_
          refine Go.pull (V := T34.setTop (mkF m 149 #[iv ps, iv pe, iv pa, iv pb, iv pd, iv pq, iv 1, rv b21, rv b22, rv b25, iv 0, iv pq, rv b28, iv 1] [(.int pq), (.int 0), (.ref b28)])) (fun t k => XS.iload X34.here hx rfl (hb hby at_147) rfl  k) ?_
          obtain ⟨cq36, kq36, q36a, q36b, q36c⟩ := isOf hZ e34 (A28.keep Kc33)
          obtain ⟨_, _, ⟨T36, L36, k36, n36⟩, -, X36, ⟨Lc36, hQ36, l36, y36, z36⟩, st36⟩ := X34.virtualBack hx (y := (⟨"com/example/threshold/threshold/PostingList", "holdsAt", "(II)Z"⟩ : MethodName)) (z := (⟨"com/example/threshold/threshold/PostingList", "holdsAt", "(II)Z"⟩ : MethodName)) hown (mvT hZ (hw _ (List.mem_of_getElem? (i := 18) rfl))) (mvT hZ (hw _ (List.mem_of_getElem? (i := 19) rfl))) (notFace_of_selects (args := #[]) (mvT hZ (hw _ (List.mem_of_getElem? (i := 21) rfl)))) (mvT hZ (hw _ (List.mem_of_getElem? (i := 21) rfl))) (mvT hZ (hw _ (List.mem_of_getElem? (i := 20) rfl))) (by decide) (backOf (W := 0) (rmA l Z a0 hw [] b28 (0 : Int32) pq b21 k21 (1 : Int32) ([(.int pa)] : List Value) pa T33.heap n0 Fc33_0 (((V24.ext E25).ext E28).keep Kc33 (ninS (ne_b21_b28) nin0)) rfl (by decide)) hZ (hw _ (List.mem_of_getElem? (i := 22) rfl)) (hw _ (List.mem_of_getElem? (i := 3) rfl)) (by decide) (by decide)) q36a q36c (g := (mkF m 149 #[iv ps, iv pe, iv pa, iv pb, iv pd, iv pq, iv 1, rv b21, rv b22, rv b25, iv 0, iv pq, rv b28, iv 1] [(.int pq), (.int 0), (.ref b28)])) rfl (by rw [hml]; rfl) (Steps.refl _) (argsL := [(.int 0), (.int pq)]) (rest := []) (lenOf pd_1 rfl) rfl (by show 2 * 0 + _ ≤ _; exact Nat.le_of_eq rfl) (hb hby at_149) (fun _ _ => ⟨rfl, e34, (by decide : 4 + 0 ≤ _), (by decide : 7 + 0 ≤ _)⟩)
          dsimp only [Pt.U, Pt.locs, Pt.cells, Pt.slots] at X36 l36 y36 z36 st36 hQ36
          subst l36 y36 z36
          obtain ⟨hv36, N36q, e36⟩ := hQ36
          rw [(show (own_hold (0 : Int32) (1 : Int32) pq pa) = (1 : Int32) from by rw [own_hold, if_pos (by decide), if_pos hc133_35])] at hv36; subst hv36
          have N36 := Fr.app N34 N36q
          refine Go.pull (V := T36.setTop (mkF m 152 #[iv ps, iv pe, iv pa, iv pb, iv pd, iv pq, iv 1, rv b21, rv b22, rv b25, iv 0, iv pq, rv b28, iv 1] [(.int 1)])) (fun _ k => st36.trans k) ?_
          refine Go.pull (V := T36.setTop (mkF m 154 #[iv ps, iv pe, iv pa, iv pb, iv pd, iv pq, iv 1, rv b21, rv b22, rv b25, iv 0, iv pq, rv b28, iv 1] [(.int 1), (.int 1)])) (fun t k => XS.iload X36.here hx rfl (hb hby at_152) rfl  k) ?_
          refine Go.pull (V := T36.setTop (mkF m 157 #[iv ps, iv pe, iv pa, iv pb, iv pd, iv pq, iv 1, rv b21, rv b22, rv b25, iv 0, iv pq, rv b28, iv 1] [])) (fun t k => XS.icmpNo X36.here hx rfl (hb hby at_154) rfl (XT.ii_ne_f (by decide)) k) ?_
          refine Go.pull (V := T36.setTop (mkF m 158 #[iv ps, iv pe, iv pa, iv pb, iv pd, iv pq, iv 1, rv b21, rv b22, rv b25, iv 0, iv pq, rv b28, iv 1] [(.int 1)])) (fun t k => XS.iconst X36.here hx rfl (hb hby at_157) k) ?_
          refine Go.pull (V := T36.setTop (mkF m 162 #[iv ps, iv pe, iv pa, iv pb, iv pd, iv pq, iv 1, rv b21, rv b22, rv b25, iv 0, iv pq, rv b28, iv 1] [(.int 1)])) (fun t k => XS.goto X36.here hx rfl (pc0 := 158) (pc' := 162) rfl (hb hby at_158) (by decide) (by decide) k) ?_
          exact Go.retN X36 hx Bd.notSynchronized (t := .boolean) Bd.returns (by simp) (hb hby at_162) ⟨rfl, N36⟩ (by decide) (by decide)
        · skip
          refine Go.pull (V := T34.setTop (mkF m 140 #[iv ps, iv pe, iv pa, iv pb, iv pd, iv pq, iv 1, rv b21, rv b22, rv b25, iv 0, iv pq, rv b28, .unset] [])) (fun t k => XS.icmpYes X34.here hx rfl (pc0 := 133) (pc' := 140) rfl (hb hby at_133) rfl (XT.ii_ne_t hc133_35) (by decide) (by decide) k) ?_
          refine Go.pull (V := T34.setTop (mkF m 141 #[iv ps, iv pe, iv pa, iv pb, iv pd, iv pq, iv 1, rv b21, rv b22, rv b25, iv 0, iv pq, rv b28, .unset] [(.int 0)])) (fun t k => XS.iconst X34.here hx rfl (hb hby at_140) k) ?_
          refine Go.pull (V := T34.setTop (mkF m 143 #[iv ps, iv pe, iv pa, iv pb, iv pd, iv pq, iv 1, rv b21, rv b22, rv b25, iv 0, iv pq, rv b28, iv 0] [])) (fun t k => XS.istore X34.here hx rfl (hb hby at_141) rfl (l' := #[iv ps, iv pe, iv pa, iv pb, iv pd, iv pq, iv 1, rv b21, rv b22, rv b25, iv 0, iv pq, rv b28, iv 0]) rfl k) ?_
          refine Go.pull (V := T34.setTop (mkF m 145 #[iv ps, iv pe, iv pa, iv pb, iv pd, iv pq, iv 1, rv b21, rv b22, rv b25, iv 0, iv pq, rv b28, iv 0] [(.ref b28)])) (fun t k => XS.aload X34.here hx rfl (hb hby at_143) rfl rfl k) ?_
          refine Go.pull (V := T34.setTop (mkF m 147 #[iv ps, iv pe, iv pa, iv pb, iv pd, iv pq, iv 1, rv b21, rv b22, rv b25, iv 0, iv pq, rv b28, iv 0] [(.int 0), (.ref b28)])) (fun t k => XS.iload X34.here hx rfl (hb hby at_145) rfl  k) ?_
          refine Go.pull (V := T34.setTop (mkF m 149 #[iv ps, iv pe, iv pa, iv pb, iv pd, iv pq, iv 1, rv b21, rv b22, rv b25, iv 0, iv pq, rv b28, iv 0] [(.int pq), (.int 0), (.ref b28)])) (fun t k => XS.iload X34.here hx rfl (hb hby at_147) rfl  k) ?_
          obtain ⟨cq37, kq37, q37a, q37b, q37c⟩ := isOf hZ e34 (A28.keep Kc33)
          obtain ⟨_, _, ⟨T37, L37, k37, n37⟩, -, X37, ⟨Lc37, hQ37, l37, y37, z37⟩, st37⟩ := X34.virtualBack hx (y := (⟨"com/example/threshold/threshold/PostingList", "holdsAt", "(II)Z"⟩ : MethodName)) (z := (⟨"com/example/threshold/threshold/PostingList", "holdsAt", "(II)Z"⟩ : MethodName)) hown (mvT hZ (hw _ (List.mem_of_getElem? (i := 18) rfl))) (mvT hZ (hw _ (List.mem_of_getElem? (i := 19) rfl))) (notFace_of_selects (args := #[]) (mvT hZ (hw _ (List.mem_of_getElem? (i := 21) rfl)))) (mvT hZ (hw _ (List.mem_of_getElem? (i := 21) rfl))) (mvT hZ (hw _ (List.mem_of_getElem? (i := 20) rfl))) (by decide) (backOf (W := 0) (rmA l Z a0 hw [] b28 (0 : Int32) pq b21 k21 (1 : Int32) ([(.int pa)] : List Value) pa T33.heap n0 Fc33_0 (((V24.ext E25).ext E28).keep Kc33 (ninS (ne_b21_b28) nin0)) rfl (by decide)) hZ (hw _ (List.mem_of_getElem? (i := 22) rfl)) (hw _ (List.mem_of_getElem? (i := 3) rfl)) (by decide) (by decide)) q37a q37c (g := (mkF m 149 #[iv ps, iv pe, iv pa, iv pb, iv pd, iv pq, iv 1, rv b21, rv b22, rv b25, iv 0, iv pq, rv b28, iv 0] [(.int pq), (.int 0), (.ref b28)])) rfl (by rw [hml]; rfl) (Steps.refl _) (argsL := [(.int 0), (.int pq)]) (rest := []) (lenOf pd_1 rfl) rfl (by show 2 * 0 + _ ≤ _; exact Nat.le_of_eq rfl) (hb hby at_149) (fun _ _ => ⟨rfl, e34, (by decide : 4 + 0 ≤ _), (by decide : 7 + 0 ≤ _)⟩)
          dsimp only [Pt.U, Pt.locs, Pt.cells, Pt.slots] at X37 l37 y37 z37 st37 hQ37
          subst l37 y37 z37
          obtain ⟨hv37, N37q, e37⟩ := hQ37
          rw [(show (own_hold (0 : Int32) (1 : Int32) pq pa) = (0 : Int32) from by rw [own_hold, if_pos (by decide), if_neg hc133_35])] at hv37; subst hv37
          have N37 := Fr.app N34 N37q
          refine Go.pull (V := T37.setTop (mkF m 152 #[iv ps, iv pe, iv pa, iv pb, iv pd, iv pq, iv 1, rv b21, rv b22, rv b25, iv 0, iv pq, rv b28, iv 0] [(.int 0)])) (fun _ k => st37.trans k) ?_
          refine Go.pull (V := T37.setTop (mkF m 154 #[iv ps, iv pe, iv pa, iv pb, iv pd, iv pq, iv 1, rv b21, rv b22, rv b25, iv 0, iv pq, rv b28, iv 0] [(.int 0), (.int 0)])) (fun t k => XS.iload X37.here hx rfl (hb hby at_152) rfl  k) ?_
          refine Go.pull (V := T37.setTop (mkF m 157 #[iv ps, iv pe, iv pa, iv pb, iv pd, iv pq, iv 1, rv b21, rv b22, rv b25, iv 0, iv pq, rv b28, iv 0] [])) (fun t k => XS.icmpNo X37.here hx rfl (hb hby at_154) rfl (XT.ii_ne_f (by decide)) k) ?_
          refine Go.pull (V := T37.setTop (mkF m 158 #[iv ps, iv pe, iv pa, iv pb, iv pd, iv pq, iv 1, rv b21, rv b22, rv b25, iv 0, iv pq, rv b28, iv 0] [(.int 1)])) (fun t k => XS.iconst X37.here hx rfl (hb hby at_157) k) ?_
          refine Go.pull (V := T37.setTop (mkF m 162 #[iv ps, iv pe, iv pa, iv pb, iv pd, iv pq, iv 1, rv b21, rv b22, rv b25, iv 0, iv pq, rv b28, iv 0] [(.int 1)])) (fun t k => XS.goto X37.here hx rfl (pc0 := 158) (pc' := 162) rfl (hb hby at_158) (by decide) (by decide) k) ?_
          exact Go.retN X37 hx Bd.notSynchronized (t := .boolean) Bd.returns (by simp) (hb hby at_162) ⟨rfl, N37⟩ (by decide) (by decide)
      · skip
        refine Go.pull (V := T25.setTop (mkF m 75 #[iv ps, iv pe, iv pa, iv pb, iv pd, iv pq, iv 1, rv b21, rv b22, rv b25, iv 0, iv pq, .unset, .unset] [])) (fun t k => XS.ifNo X25.here hx rfl (hb hby at_72) rfl (XT.i0_eq_f hc72_27) k) ?_
        refine Go.pull (V := T25.setTop (mkF m 77 #[iv ps, iv pe, iv pa, iv pb, iv pd, iv pq, iv 1, rv b21, rv b22, rv b25, iv 0, iv pq, .unset, .unset] [(.int 0)])) (fun t k => XS.iload X25.here hx rfl (hb hby at_75) rfl  k) ?_
        refine Go.pull (V := T25.setTop (mkF m 79 #[iv ps, iv pe, iv pa, iv pb, iv pd, iv pq, iv 1, rv b21, rv b22, rv b25, iv 0, iv pq, .unset, .unset] [(.int 1), (.int 0)])) (fun t k => XS.iload X25.here hx rfl (hb hby at_77) rfl  k) ?_
        refine Go.pull (V := T25.setTop (mkF m 82 #[iv ps, iv pe, iv pa, iv pb, iv pd, iv pq, iv 1, rv b21, rv b22, rv b25, iv 0, iv pq, .unset, .unset] [])) (fun t k => XS.icmpNo X25.here hx rfl (hb hby at_79) rfl (XT.ii_ge_f (by decide)) k) ?_
        refine Go.pull (V := T25.setTop (mkF m 84 #[iv ps, iv pe, iv pa, iv pb, iv pd, iv pq, iv 1, rv b21, rv b22, rv b25, iv 0, iv pq, .unset, .unset] [(.int 0)])) (fun t k => XS.iload X25.here hx rfl (hb hby at_82) rfl  k) ?_
        refine Go.pull (V := T25.setTop (mkF m 85 #[iv ps, iv pe, iv pa, iv pb, iv pd, iv pq, iv 1, rv b21, rv b22, rv b25, iv 0, iv pq, .unset, .unset] [(.int pa), (.int 0)])) (fun t k => XS.iloadN X25.here hx rfl (hb hby at_84) rfl  k) ?_
        refine Go.pull (V := T25.setTop (mkF m 86 #[iv ps, iv pe, iv pa, iv pb, iv pd, iv pq, iv 1, rv b21, rv b22, rv b25, iv 0, iv pq, .unset, .unset] [(.int pb), (.int pa), (.int 0)])) (fun t k => XS.iloadN X25.here hx rfl (hb hby at_85) rfl  k) ?_
        refine Go.pull (V := T25.setTop (mkF m 88 #[iv ps, iv pe, iv pa, iv pb, iv pd, iv pq, iv 1, rv b21, rv b22, rv b25, iv 0, iv pq, .unset, .unset] [(.int pd), (.int pb), (.int pa), (.int 0)])) (fun t k => XS.iload X25.here hx rfl (hb hby at_86) rfl  k) ?_
        obtain ⟨_, _, ⟨T38, L38, k38, n38⟩, -, X38, ⟨Lc38, hQ38, l38, y38, z38⟩, st38⟩ := Jvm.LawKit.callS X25 hx (y := (⟨"com/example/threshold/threshold/PostingListHoldsAtPinLaw", "at", "(IIII)I"⟩ : MethodName)) hown (mvT hZ (hw _ (List.mem_of_getElem? (i := 23) rfl))) (mvT hZ (hw _ (List.mem_of_getElem? (i := 24) rfl))) (mvT hZ (hw _ (List.mem_of_getElem? (i := 25) rfl))) (mvT hZ (hw _ (List.mem_of_getElem? (i := 26) rfl))) (by decide) (backOf (W := 0) (rmT l Z a0 hw [] (0 : Int32) pa pb pd h25 n0 ) hZ (hw _ (List.mem_of_getElem? (i := 26) rfl)) (hw _ (List.mem_of_getElem? (i := 25) rfl)) (by decide) (by decide)) (g := (mkF m 88 #[iv ps, iv pe, iv pa, iv pb, iv pd, iv pq, iv 1, rv b21, rv b22, rv b25, iv 0, iv pq, .unset, .unset] [(.int pd), (.int pb), (.int pa), (.int 0)])) rfl (by rw [hml]; rfl) (argsL := [(.int 0), (.int pa), (.int pb), (.int pd)]) (rest := []) (lenOf pd_2 rfl) rfl (by show 2 * 0 + _ ≤ _; exact Nat.le_of_eq rfl) (hb hby at_88) (fun _ _ => ⟨rfl, e25, (by decide : 3 + 0 ≤ _), (by decide : 2 + 0 ≤ _)⟩)
        dsimp only [Pt.U, Pt.locs, Pt.cells, Pt.slots] at X38 l38 y38 z38 st38 hQ38
        subst l38 y38 z38
        obtain ⟨hv38, N38q, e38⟩ := hQ38
        rw [(show (own_at (0 : Int32) pa pb pd) = pa from by rw [own_at, if_pos rfl])] at hv38; subst hv38
        have N38 := Fr.app N24 N38q
        refine Go.pull (V := T38.setTop (mkF m 91 #[iv ps, iv pe, iv pa, iv pb, iv pd, iv pq, iv 1, rv b21, rv b22, rv b25, iv 0, iv pq, .unset, .unset] [(.int pa)])) st38 ?_
        refine Go.pull (V := T38.setTop (mkF m 93 #[iv ps, iv pe, iv pa, iv pb, iv pd, iv pq, iv 1, rv b21, rv b22, rv b25, iv 0, iv pa, .unset, .unset] [])) (fun t k => XS.istore X38.here hx rfl (hb hby at_91) rfl (l' := #[iv ps, iv pe, iv pa, iv pb, iv pd, iv pq, iv 1, rv b21, rv b22, rv b25, iv 0, iv pa, .unset, .unset]) rfl k) ?_
        obtain ⟨T39, h39, X39, e39, E39, A39, D39, -, st39⟩ := newO X38 hx hZ hown (hw _ (List.mem_of_getElem? (i := 1) rfl)) (hw _ (List.mem_of_getElem? (i := 2) rfl)) (hw _ (List.mem_of_getElem? (i := 3) rfl)) e38 (g := (mkF m 93 #[iv ps, iv pe, iv pa, iv pb, iv pd, iv pq, iv 1, rv b21, rv b22, rv b25, iv 0, iv pa, .unset, .unset] [])) rfl (hb hby at_93) (by decide) (by decide)
        obtain ⟨b39, g39⟩ : ∃ z, z = h25.size := ⟨_, rfl⟩
        rw [← g39] at A39 D39 st39
        have ne_b21_b39 : b21 ≠ b39 := Nat.ne_of_lt (Nat.lt_of_lt_of_le (V24.ext E25).lt (Nat.le_of_eq g39.symm))
        have ne_b22_b39 : b22 ≠ b39 := Nat.ne_of_lt (Nat.lt_of_lt_of_le ((V22.other W24 (Ne.symm (ne_b21_b22))).ext E25).lt (Nat.le_of_eq g39.symm))
        have ne_b25_b39 : b25 ≠ b39 := Nat.ne_of_lt (Nat.lt_of_lt_of_le V25.lt (Nat.le_of_eq g39.symm))
        have sz_b39 : h0.size ≤ b39 := Nat.le_trans (K25).1 (Nat.le_of_eq g39.symm)
        have g_b39 : n0 ≤ b39 := Nat.le_trans Z0 sz_b39
        have K39 : Keep h0 h39 [] := K25.ext E39
        have F40 : Fld Z h39 b39 "com/example/threshold/threshold/PostingList" "documents" "[I" .null := D39 (Or.inr (hw _ (List.mem_of_getElem? (i := 11) rfl))) (ty := (.array .int)) (by decide)
        have F41 : Fld Z h39 b39 "com/example/threshold/threshold/PostingList" "counts" "[I" .null := D39 (Or.inr (hw _ (List.mem_of_getElem? (i := 13) rfl))) (ty := (.array .int)) (by decide)
        have F42 : Fld Z h39 b39 "com/example/threshold/threshold/PostingList" "collectionFrequency" "J" (.long 0) := D39 (Or.inr (hw _ (List.mem_of_getElem? (i := 15) rfl))) (ty := .long) (by decide)
        have F43 : Fld Z h39 b39 "com/example/threshold/threshold/PostingList" "lengths" "[I" .null := D39 (Or.inr (hw _ (List.mem_of_getElem? (i := 17) rfl))) (ty := (.array .int)) (by decide)
        refine Go.pull (V := T39.setTop (mkF m 96 #[iv ps, iv pe, iv pa, iv pb, iv pd, iv pq, iv 1, rv b21, rv b22, rv b25, iv 0, iv pa, .unset, .unset] [(.ref b39)])) st39 ?_
        refine Go.pull (V := T39.setTop (mkF m 97 #[iv ps, iv pe, iv pa, iv pb, iv pd, iv pq, iv 1, rv b21, rv b22, rv b25, iv 0, iv pa, .unset, .unset] [(.ref b39), (.ref b39)])) (fun t k => XS.dup X39.here hx rfl (hb hby at_96) rfl rfl k) ?_
        refine Go.pull (V := T39.setTop (mkF m 99 #[iv ps, iv pe, iv pa, iv pb, iv pd, iv pq, iv 1, rv b21, rv b22, rv b25, iv 0, iv pa, .unset, .unset] [(.ref b21), (.ref b39), (.ref b39)])) (fun t k => XS.aload X39.here hx rfl (hb hby at_97) rfl rfl k) ?_
        refine Go.pull (V := T39.setTop (mkF m 101 #[iv ps, iv pe, iv pa, iv pb, iv pd, iv pq, iv 1, rv b21, rv b22, rv b25, iv 0, iv pa, .unset, .unset] [(.ref b22), (.ref b21), (.ref b39), (.ref b39)])) (fun t k => XS.aload X39.here hx rfl (hb hby at_99) rfl rfl k) ?_
        refine Go.pull (V := T39.setTop (mkF m 102 #[iv ps, iv pe, iv pa, iv pb, iv pd, iv pq, iv 1, rv b21, rv b22, rv b25, iv 0, iv pa, .unset, .unset] [(.long 0), (.ref b22), (.ref b21), (.ref b39), (.ref b39)])) (fun t k => XS.lconst X39.here hx rfl (hb hby at_101) k) ?_
        refine Go.pull (V := T39.setTop (mkF m 104 #[iv ps, iv pe, iv pa, iv pb, iv pd, iv pq, iv 1, rv b21, rv b22, rv b25, iv 0, iv pa, .unset, .unset] [(.ref b25), (.long 0), (.ref b22), (.ref b21), (.ref b39), (.ref b39)])) (fun t k => XS.aload X39.here hx rfl (hb hby at_102) rfl rfl k) ?_
        obtain ⟨_, _, ⟨T44, L44, k44, n44⟩, -, X44, ⟨Lc44, hQ44, l44, y44, z44⟩, st44⟩ := X39.specialBack hx (y := (⟨"com/example/threshold/threshold/PostingList", "<init>", "([I[IJ[I)V"⟩ : MethodName)) rfl hown (mvT hZ (hw _ (List.mem_of_getElem? (i := 4) rfl))) (mvT hZ (hw _ (List.mem_of_getElem? (i := 5) rfl))) (mvT hZ (hw _ (List.mem_of_getElem? (i := 6) rfl))) (by decide) (backOf (W := 1) (rmI l Z a0 hw [] b39 b21 b22 (0 : Int64) b25 .null .null (.long 0) .null h39 n0 (g_b39) A39 F40 F41 F42 F43) hZ (hw _ (List.mem_of_getElem? (i := 6) rfl)) (hw _ (List.mem_of_getElem? (i := 3) rfl)) (by decide) (by decide)) (g := (mkF m 104 #[iv ps, iv pe, iv pa, iv pb, iv pd, iv pq, iv 1, rv b21, rv b22, rv b25, iv 0, iv pa, .unset, .unset] [(.ref b25), (.long 0), (.ref b22), (.ref b21), (.ref b39), (.ref b39)])) rfl (by rw [hml]; rfl) (Steps.refl _) (a := b39) (argsL := [(.ref b21), (.ref b22), (.long 0), (.ref b25)]) (rest := [(.ref b39)]) (lenOf pd_0 rfl) rfl (by show 2 * 0 + _ ≤ _; exact Nat.le_of_eq rfl) (hb hby at_104) (fun _ _ => ⟨rfl, e39, (by decide : 4 + 0 ≤ _), (by decide : 7 + 0 ≤ _)⟩)
        dsimp only [Pt.U, Pt.locs, Pt.cells, Pt.slots] at X44 l44 y44 z44 st44 hQ44
        subst l44 y44 z44
        obtain ⟨rfl, N44q, Kc44, Fc44_0⟩ := hQ44
        have K44 : Keep h0 T44.heap [] := K39.trans Kc44 ((allS (Or.inr sz_b39) all0))
        have N44 := Fr.app N38 N44q
        refine Go.pull (V := T44.setTop (mkF m 107 #[iv ps, iv pe, iv pa, iv pb, iv pd, iv pq, iv 1, rv b21, rv b22, rv b25, iv 0, iv pa, .unset, .unset] [(.ref b39)])) (fun _ k => st44.trans k) ?_
        refine Go.pull (V := T44.setTop (mkF m 109 #[iv ps, iv pe, iv pa, iv pb, iv pd, iv pq, iv 1, rv b21, rv b22, rv b25, iv 0, iv pa, rv b39, .unset] [])) (fun t k => XS.astore X44.here hx rfl (hb hby at_107) rfl rfl (l' := #[iv ps, iv pe, iv pa, iv pb, iv pd, iv pq, iv 1, rv b21, rv b22, rv b25, iv 0, iv pa, rv b39, .unset]) rfl k) ?_
        refine Go.pull (V := T44.setTop (mkF m 111 #[iv ps, iv pe, iv pa, iv pb, iv pd, iv pq, iv 1, rv b21, rv b22, rv b25, iv 0, iv pa, rv b39, .unset] [(.int 0)])) (fun t k => XS.iload X44.here hx rfl (hb hby at_109) rfl  k) ?_
        refine Go.pull (V := T44.setTop (mkF m 113 #[iv ps, iv pe, iv pa, iv pb, iv pd, iv pq, iv 1, rv b21, rv b22, rv b25, iv 0, iv pa, rv b39, .unset] [(.int 1), (.int 0)])) (fun t k => XS.iload X44.here hx rfl (hb hby at_111) rfl  k) ?_
        refine Go.pull (V := T44.setTop (mkF m 122 #[iv ps, iv pe, iv pa, iv pb, iv pd, iv pq, iv 1, rv b21, rv b22, rv b25, iv 0, iv pa, rv b39, .unset] [])) (fun t k => XS.icmpYes X44.here hx rfl (pc0 := 113) (pc' := 122) rfl (hb hby at_113) rfl (XT.ii_lt_t (by decide)) (by decide) (by decide) k) ?_
        refine Go.pull (V := T44.setTop (mkF m 124 #[iv ps, iv pe, iv pa, iv pb, iv pd, iv pq, iv 1, rv b21, rv b22, rv b25, iv 0, iv pa, rv b39, .unset] [(.int 0)])) (fun t k => XS.iload X44.here hx rfl (hb hby at_122) rfl  k) ?_
        refine Go.pull (V := T44.setTop (mkF m 125 #[iv ps, iv pe, iv pa, iv pb, iv pd, iv pq, iv 1, rv b21, rv b22, rv b25, iv 0, iv pa, rv b39, .unset] [(.int pa), (.int 0)])) (fun t k => XS.iloadN X44.here hx rfl (hb hby at_124) rfl  k) ?_
        refine Go.pull (V := T44.setTop (mkF m 126 #[iv ps, iv pe, iv pa, iv pb, iv pd, iv pq, iv 1, rv b21, rv b22, rv b25, iv 0, iv pa, rv b39, .unset] [(.int pb), (.int pa), (.int 0)])) (fun t k => XS.iloadN X44.here hx rfl (hb hby at_125) rfl  k) ?_
        refine Go.pull (V := T44.setTop (mkF m 128 #[iv ps, iv pe, iv pa, iv pb, iv pd, iv pq, iv 1, rv b21, rv b22, rv b25, iv 0, iv pa, rv b39, .unset] [(.int pd), (.int pb), (.int pa), (.int 0)])) (fun t k => XS.iload X44.here hx rfl (hb hby at_126) rfl  k) ?_
        obtain ⟨_, _, ⟨T45, L45, k45, n45⟩, -, X45, ⟨Lc45, hQ45, l45, y45, z45⟩, st45⟩ := Jvm.LawKit.callS X44 hx (y := (⟨"com/example/threshold/threshold/PostingListHoldsAtPinLaw", "at", "(IIII)I"⟩ : MethodName)) hown (mvT hZ (hw _ (List.mem_of_getElem? (i := 23) rfl))) (mvT hZ (hw _ (List.mem_of_getElem? (i := 24) rfl))) (mvT hZ (hw _ (List.mem_of_getElem? (i := 25) rfl))) (mvT hZ (hw _ (List.mem_of_getElem? (i := 26) rfl))) (by decide) (backOf (W := 0) (rmT l Z a0 hw [] (0 : Int32) pa pb pd T44.heap n0 ) hZ (hw _ (List.mem_of_getElem? (i := 26) rfl)) (hw _ (List.mem_of_getElem? (i := 25) rfl)) (by decide) (by decide)) (g := (mkF m 128 #[iv ps, iv pe, iv pa, iv pb, iv pd, iv pq, iv 1, rv b21, rv b22, rv b25, iv 0, iv pa, rv b39, .unset] [(.int pd), (.int pb), (.int pa), (.int 0)])) rfl (by rw [hml]; rfl) (argsL := [(.int 0), (.int pa), (.int pb), (.int pd)]) (rest := []) (lenOf pd_2 rfl) rfl (by show 2 * 0 + _ ≤ _; exact Nat.le_of_eq rfl) (hb hby at_128) (fun _ _ => ⟨rfl, rfl, (by decide : 4 + 0 ≤ _), (by decide : 7 + 0 ≤ _)⟩)
        dsimp only [Pt.U, Pt.locs, Pt.cells, Pt.slots] at X45 l45 y45 z45 st45 hQ45
        subst l45 y45 z45
        obtain ⟨hv45, N45q, e45⟩ := hQ45
        rw [(show (own_at (0 : Int32) pa pb pd) = pa from by rw [own_at, if_pos rfl])] at hv45; subst hv45
        have N45 := Fr.app N44 N45q
        refine Go.pull (V := T45.setTop (mkF m 131 #[iv ps, iv pe, iv pa, iv pb, iv pd, iv pq, iv 1, rv b21, rv b22, rv b25, iv 0, iv pa, rv b39, .unset] [(.int pa)])) st45 ?_
        refine Go.pull (V := T45.setTop (mkF m 133 #[iv ps, iv pe, iv pa, iv pb, iv pd, iv pq, iv 1, rv b21, rv b22, rv b25, iv 0, iv pa, rv b39, .unset] [(.int pa), (.int pa)])) (fun t k => XS.iload X45.here hx rfl (hb hby at_131) rfl  k) ?_
        refine Go.pull (V := T45.setTop (mkF m 136 #[iv ps, iv pe, iv pa, iv pb, iv pd, iv pq, iv 1, rv b21, rv b22, rv b25, iv 0, iv pa, rv b39, .unset] [])) (fun t k => XS.icmpNo X45.here hx rfl (hb hby at_133) rfl (XT.ii_ne_f rfl) k) ?_
        refine Go.pull (V := T45.setTop (mkF m 137 #[iv ps, iv pe, iv pa, iv pb, iv pd, iv pq, iv 1, rv b21, rv b22, rv b25, iv 0, iv pa, rv b39, .unset] [(.int 1)])) (fun t k => XS.iconst X45.here hx rfl (hb hby at_136) k) ?_
        refine Go.pull (V := T45.setTop (mkF m 141 #[iv ps, iv pe, iv pa, iv pb, iv pd, iv pq, iv 1, rv b21, rv b22, rv b25, iv 0, iv pa, rv b39, .unset] [(.int 1)])) (fun t k => XS.goto X45.here hx rfl (pc0 := 137) (pc' := 141) rfl (hb hby at_137) (by decide) (by decide) k) ?_
        refine Go.pull (V := T45.setTop (mkF m 143 #[iv ps, iv pe, iv pa, iv pb, iv pd, iv pq, iv 1, rv b21, rv b22, rv b25, iv 0, iv pa, rv b39, iv 1] [])) (fun t k => XS.istore X45.here hx rfl (hb hby at_141) rfl (l' := #[iv ps, iv pe, iv pa, iv pb, iv pd, iv pq, iv 1, rv b21, rv b22, rv b25, iv 0, iv pa, rv b39, iv 1]) rfl k) ?_
        refine Go.pull (V := T45.setTop (mkF m 145 #[iv ps, iv pe, iv pa, iv pb, iv pd, iv pq, iv 1, rv b21, rv b22, rv b25, iv 0, iv pa, rv b39, iv 1] [(.ref b39)])) (fun t k => XS.aload X45.here hx rfl (hb hby at_143) rfl rfl k) ?_
        refine Go.pull (V := T45.setTop (mkF m 147 #[iv ps, iv pe, iv pa, iv pb, iv pd, iv pq, iv 1, rv b21, rv b22, rv b25, iv 0, iv pa, rv b39, iv 1] [(.int 0), (.ref b39)])) (fun t k => XS.iload X45.here hx rfl (hb hby at_145) rfl  k) ?_
        refine Go.pull (V := T45.setTop (mkF m 149 #[iv ps, iv pe, iv pa, iv pb, iv pd, iv pq, iv 1, rv b21, rv b22, rv b25, iv 0, iv pa, rv b39, iv 1] [(.int pa), (.int 0), (.ref b39)])) (fun t k => XS.iload X45.here hx rfl (hb hby at_147) rfl  k) ?_
        obtain ⟨cq46, kq46, q46a, q46b, q46c⟩ := isOf hZ e45 (A39.keep Kc44)
        obtain ⟨_, _, ⟨T46, L46, k46, n46⟩, -, X46, ⟨Lc46, hQ46, l46, y46, z46⟩, st46⟩ := X45.virtualBack hx (y := (⟨"com/example/threshold/threshold/PostingList", "holdsAt", "(II)Z"⟩ : MethodName)) (z := (⟨"com/example/threshold/threshold/PostingList", "holdsAt", "(II)Z"⟩ : MethodName)) hown (mvT hZ (hw _ (List.mem_of_getElem? (i := 18) rfl))) (mvT hZ (hw _ (List.mem_of_getElem? (i := 19) rfl))) (notFace_of_selects (args := #[]) (mvT hZ (hw _ (List.mem_of_getElem? (i := 21) rfl)))) (mvT hZ (hw _ (List.mem_of_getElem? (i := 21) rfl))) (mvT hZ (hw _ (List.mem_of_getElem? (i := 20) rfl))) (by decide) (backOf (W := 0) (rmA l Z a0 hw [] b39 (0 : Int32) pa b21 k21 (1 : Int32) ([(.int pa)] : List Value) pa T44.heap n0 Fc44_0 (((V24.ext E25).ext E39).keep Kc44 (ninS (ne_b21_b39) nin0)) rfl (by decide)) hZ (hw _ (List.mem_of_getElem? (i := 22) rfl)) (hw _ (List.mem_of_getElem? (i := 3) rfl)) (by decide) (by decide)) q46a q46c (g := (mkF m 149 #[iv ps, iv pe, iv pa, iv pb, iv pd, iv pq, iv 1, rv b21, rv b22, rv b25, iv 0, iv pa, rv b39, iv 1] [(.int pa), (.int 0), (.ref b39)])) rfl (by rw [hml]; rfl) (Steps.refl _) (argsL := [(.int 0), (.int pa)]) (rest := []) (lenOf pd_1 rfl) rfl (by show 2 * 0 + _ ≤ _; exact Nat.le_of_eq rfl) (hb hby at_149) (fun _ _ => ⟨rfl, e45, (by decide : 4 + 0 ≤ _), (by decide : 7 + 0 ≤ _)⟩)
        dsimp only [Pt.U, Pt.locs, Pt.cells, Pt.slots] at X46 l46 y46 z46 st46 hQ46
        subst l46 y46 z46
        obtain ⟨hv46, N46q, e46⟩ := hQ46
        rw [(show (own_hold (0 : Int32) (1 : Int32) pa pa) = (1 : Int32) from by rw [own_hold, if_pos (by decide), if_pos rfl])] at hv46; subst hv46
        have N46 := Fr.app N45 N46q
        refine Go.pull (V := T46.setTop (mkF m 152 #[iv ps, iv pe, iv pa, iv pb, iv pd, iv pq, iv 1, rv b21, rv b22, rv b25, iv 0, iv pa, rv b39, iv 1] [(.int 1)])) (fun _ k => st46.trans k) ?_
        refine Go.pull (V := T46.setTop (mkF m 154 #[iv ps, iv pe, iv pa, iv pb, iv pd, iv pq, iv 1, rv b21, rv b22, rv b25, iv 0, iv pa, rv b39, iv 1] [(.int 1), (.int 1)])) (fun t k => XS.iload X46.here hx rfl (hb hby at_152) rfl  k) ?_
        refine Go.pull (V := T46.setTop (mkF m 157 #[iv ps, iv pe, iv pa, iv pb, iv pd, iv pq, iv 1, rv b21, rv b22, rv b25, iv 0, iv pa, rv b39, iv 1] [])) (fun t k => XS.icmpNo X46.here hx rfl (hb hby at_154) rfl (XT.ii_ne_f (by decide)) k) ?_
        refine Go.pull (V := T46.setTop (mkF m 158 #[iv ps, iv pe, iv pa, iv pb, iv pd, iv pq, iv 1, rv b21, rv b22, rv b25, iv 0, iv pa, rv b39, iv 1] [(.int 1)])) (fun t k => XS.iconst X46.here hx rfl (hb hby at_157) k) ?_
        refine Go.pull (V := T46.setTop (mkF m 162 #[iv ps, iv pe, iv pa, iv pb, iv pd, iv pq, iv 1, rv b21, rv b22, rv b25, iv 0, iv pa, rv b39, iv 1] [(.int 1)])) (fun t k => XS.goto X46.here hx rfl (pc0 := 158) (pc' := 162) rfl (hb hby at_158) (by decide) (by decide) k) ?_
        exact Go.retN X46 hx Bd.notSynchronized (t := .boolean) Bd.returns (by simp) (hb hby at_162) ⟨rfl, N46⟩ (by decide) (by decide)
    · subst hv26
      refine Go.pull (V := T25.setTop (mkF m 67 #[iv ps, iv pe, iv pa, iv pb, iv pd, iv pq, iv 1, rv b21, rv b22, rv b25, iv 1, .unset, .unset, .unset] [(.int pq)])) (fun t k => XS.iload X25.here hx rfl (hb hby at_65) rfl  k) ?_
      refine Go.pull (V := T25.setTop (mkF m 69 #[iv ps, iv pe, iv pa, iv pb, iv pd, iv pq, iv 1, rv b21, rv b22, rv b25, iv 1, iv pq, .unset, .unset] [])) (fun t k => XS.istore X25.here hx rfl (hb hby at_67) rfl (l' := #[iv ps, iv pe, iv pa, iv pb, iv pd, iv pq, iv 1, rv b21, rv b22, rv b25, iv 1, iv pq, .unset, .unset]) rfl k) ?_
      refine Go.pull (V := T25.setTop (mkF m 70 #[iv ps, iv pe, iv pa, iv pb, iv pd, iv pq, iv 1, rv b21, rv b22, rv b25, iv 1, iv pq, .unset, .unset] [(.int pe)])) (fun t k => XS.iloadN X25.here hx rfl (hb hby at_69) rfl  k) ?_
      refine Go.pull (V := T25.setTop (mkF m 71 #[iv ps, iv pe, iv pa, iv pb, iv pd, iv pq, iv 1, rv b21, rv b22, rv b25, iv 1, iv pq, .unset, .unset] [(.int 4), (.int pe)])) (fun t k => XS.iconst X25.here hx rfl (hb hby at_70) k) ?_
      refine Go.pull (V := T25.setTop (mkF m 72 #[iv ps, iv pe, iv pa, iv pb, iv pd, iv pq, iv 1, rv b21, rv b22, rv b25, iv 1, iv pq, .unset, .unset] [(.int (pe &&& (4 : Int32)))])) (fun t k => XS.iand X25.here hx rfl (hb hby at_71) rfl k) ?_
      by_cases hc72_47 : (pe &&& (4 : Int32)) = 0
      · skip
        refine Go.pull (V := T25.setTop (mkF m 93 #[iv ps, iv pe, iv pa, iv pb, iv pd, iv pq, iv 1, rv b21, rv b22, rv b25, iv 1, iv pq, .unset, .unset] [])) (fun t k => XS.ifYes X25.here hx rfl (pc0 := 72) (pc' := 93) rfl (hb hby at_72) rfl (XT.i0_eq_t hc72_47) (by decide) (by decide) k) ?_
        obtain ⟨T48, h48, X48, e48, E48, A48, D48, -, st48⟩ := newO X25 hx hZ hown (hw _ (List.mem_of_getElem? (i := 1) rfl)) (hw _ (List.mem_of_getElem? (i := 2) rfl)) (hw _ (List.mem_of_getElem? (i := 3) rfl)) e25 (g := (mkF m 93 #[iv ps, iv pe, iv pa, iv pb, iv pd, iv pq, iv 1, rv b21, rv b22, rv b25, iv 1, iv pq, .unset, .unset] [])) rfl (hb hby at_93) (by decide) (by decide)
        obtain ⟨b48, g48⟩ : ∃ z, z = h25.size := ⟨_, rfl⟩
        rw [← g48] at A48 D48 st48
        have ne_b21_b48 : b21 ≠ b48 := Nat.ne_of_lt (Nat.lt_of_lt_of_le (V24.ext E25).lt (Nat.le_of_eq g48.symm))
        have ne_b22_b48 : b22 ≠ b48 := Nat.ne_of_lt (Nat.lt_of_lt_of_le ((V22.other W24 (Ne.symm (ne_b21_b22))).ext E25).lt (Nat.le_of_eq g48.symm))
        have ne_b25_b48 : b25 ≠ b48 := Nat.ne_of_lt (Nat.lt_of_lt_of_le V25.lt (Nat.le_of_eq g48.symm))
        have sz_b48 : h0.size ≤ b48 := Nat.le_trans (K25).1 (Nat.le_of_eq g48.symm)
        have g_b48 : n0 ≤ b48 := Nat.le_trans Z0 sz_b48
        have K48 : Keep h0 h48 [] := K25.ext E48
        have F49 : Fld Z h48 b48 "com/example/threshold/threshold/PostingList" "documents" "[I" .null := D48 (Or.inr (hw _ (List.mem_of_getElem? (i := 11) rfl))) (ty := (.array .int)) (by decide)
        have F50 : Fld Z h48 b48 "com/example/threshold/threshold/PostingList" "counts" "[I" .null := D48 (Or.inr (hw _ (List.mem_of_getElem? (i := 13) rfl))) (ty := (.array .int)) (by decide)
        have F51 : Fld Z h48 b48 "com/example/threshold/threshold/PostingList" "collectionFrequency" "J" (.long 0) := D48 (Or.inr (hw _ (List.mem_of_getElem? (i := 15) rfl))) (ty := .long) (by decide)
        have F52 : Fld Z h48 b48 "com/example/threshold/threshold/PostingList" "lengths" "[I" .null := D48 (Or.inr (hw _ (List.mem_of_getElem? (i := 17) rfl))) (ty := (.array .int)) (by decide)
        refine Go.pull (V := T48.setTop (mkF m 96 #[iv ps, iv pe, iv pa, iv pb, iv pd, iv pq, iv 1, rv b21, rv b22, rv b25, iv 1, iv pq, .unset, .unset] [(.ref b48)])) st48 ?_
        refine Go.pull (V := T48.setTop (mkF m 97 #[iv ps, iv pe, iv pa, iv pb, iv pd, iv pq, iv 1, rv b21, rv b22, rv b25, iv 1, iv pq, .unset, .unset] [(.ref b48), (.ref b48)])) (fun t k => XS.dup X48.here hx rfl (hb hby at_96) rfl rfl k) ?_
        refine Go.pull (V := T48.setTop (mkF m 99 #[iv ps, iv pe, iv pa, iv pb, iv pd, iv pq, iv 1, rv b21, rv b22, rv b25, iv 1, iv pq, .unset, .unset] [(.ref b21), (.ref b48), (.ref b48)])) (fun t k => XS.aload X48.here hx rfl (hb hby at_97) rfl rfl k) ?_
        refine Go.pull (V := T48.setTop (mkF m 101 #[iv ps, iv pe, iv pa, iv pb, iv pd, iv pq, iv 1, rv b21, rv b22, rv b25, iv 1, iv pq, .unset, .unset] [(.ref b22), (.ref b21), (.ref b48), (.ref b48)])) (fun t k => XS.aload X48.here hx rfl (hb hby at_99) rfl rfl k) ?_
        refine Go.pull (V := T48.setTop (mkF m 102 #[iv ps, iv pe, iv pa, iv pb, iv pd, iv pq, iv 1, rv b21, rv b22, rv b25, iv 1, iv pq, .unset, .unset] [(.long 0), (.ref b22), (.ref b21), (.ref b48), (.ref b48)])) (fun t k => XS.lconst X48.here hx rfl (hb hby at_101) k) ?_
        refine Go.pull (V := T48.setTop (mkF m 104 #[iv ps, iv pe, iv pa, iv pb, iv pd, iv pq, iv 1, rv b21, rv b22, rv b25, iv 1, iv pq, .unset, .unset] [(.ref b25), (.long 0), (.ref b22), (.ref b21), (.ref b48), (.ref b48)])) (fun t k => XS.aload X48.here hx rfl (hb hby at_102) rfl rfl k) ?_
        obtain ⟨_, _, ⟨T53, L53, k53, n53⟩, -, X53, ⟨Lc53, hQ53, l53, y53, z53⟩, st53⟩ := X48.specialBack hx (y := (⟨"com/example/threshold/threshold/PostingList", "<init>", "([I[IJ[I)V"⟩ : MethodName)) rfl hown (mvT hZ (hw _ (List.mem_of_getElem? (i := 4) rfl))) (mvT hZ (hw _ (List.mem_of_getElem? (i := 5) rfl))) (mvT hZ (hw _ (List.mem_of_getElem? (i := 6) rfl))) (by decide) (backOf (W := 1) (rmI l Z a0 hw [] b48 b21 b22 (0 : Int64) b25 .null .null (.long 0) .null h48 n0 (g_b48) A48 F49 F50 F51 F52) hZ (hw _ (List.mem_of_getElem? (i := 6) rfl)) (hw _ (List.mem_of_getElem? (i := 3) rfl)) (by decide) (by decide)) (g := (mkF m 104 #[iv ps, iv pe, iv pa, iv pb, iv pd, iv pq, iv 1, rv b21, rv b22, rv b25, iv 1, iv pq, .unset, .unset] [(.ref b25), (.long 0), (.ref b22), (.ref b21), (.ref b48), (.ref b48)])) rfl (by rw [hml]; rfl) (Steps.refl _) (a := b48) (argsL := [(.ref b21), (.ref b22), (.long 0), (.ref b25)]) (rest := [(.ref b48)]) (lenOf pd_0 rfl) rfl (by show 2 * 0 + _ ≤ _; exact Nat.le_of_eq rfl) (hb hby at_104) (fun _ _ => ⟨rfl, e48, (by decide : 4 + 0 ≤ _), (by decide : 7 + 0 ≤ _)⟩)
        dsimp only [Pt.U, Pt.locs, Pt.cells, Pt.slots] at X53 l53 y53 z53 st53 hQ53
        subst l53 y53 z53
        obtain ⟨rfl, N53q, Kc53, Fc53_0⟩ := hQ53
        have K53 : Keep h0 T53.heap [] := K48.trans Kc53 ((allS (Or.inr sz_b48) all0))
        have N53 := Fr.app N24 N53q
        refine Go.pull (V := T53.setTop (mkF m 107 #[iv ps, iv pe, iv pa, iv pb, iv pd, iv pq, iv 1, rv b21, rv b22, rv b25, iv 1, iv pq, .unset, .unset] [(.ref b48)])) (fun _ k => st53.trans k) ?_
        refine Go.pull (V := T53.setTop (mkF m 109 #[iv ps, iv pe, iv pa, iv pb, iv pd, iv pq, iv 1, rv b21, rv b22, rv b25, iv 1, iv pq, rv b48, .unset] [])) (fun t k => XS.astore X53.here hx rfl (hb hby at_107) rfl rfl (l' := #[iv ps, iv pe, iv pa, iv pb, iv pd, iv pq, iv 1, rv b21, rv b22, rv b25, iv 1, iv pq, rv b48, .unset]) rfl k) ?_
        refine Go.pull (V := T53.setTop (mkF m 111 #[iv ps, iv pe, iv pa, iv pb, iv pd, iv pq, iv 1, rv b21, rv b22, rv b25, iv 1, iv pq, rv b48, .unset] [(.int 1)])) (fun t k => XS.iload X53.here hx rfl (hb hby at_109) rfl  k) ?_
        refine Go.pull (V := T53.setTop (mkF m 113 #[iv ps, iv pe, iv pa, iv pb, iv pd, iv pq, iv 1, rv b21, rv b22, rv b25, iv 1, iv pq, rv b48, .unset] [(.int 1), (.int 1)])) (fun t k => XS.iload X53.here hx rfl (hb hby at_111) rfl  k) ?_
        refine Go.pull (V := T53.setTop (mkF m 116 #[iv ps, iv pe, iv pa, iv pb, iv pd, iv pq, iv 1, rv b21, rv b22, rv b25, iv 1, iv pq, rv b48, .unset] [])) (fun t k => XS.icmpNo X53.here hx rfl (hb hby at_113) rfl (XT.ii_lt_f (by decide)) k) ?_
        refine Go.pull (V := T53.setTop (mkF m 117 #[iv ps, iv pe, iv pa, iv pb, iv pd, iv pq, iv 1, rv b21, rv b22, rv b25, iv 1, iv pq, rv b48, .unset] [(.int 0)])) (fun t k => XS.iconst X53.here hx rfl (hb hby at_116) k) ?_
        refine Go.pull (V := T53.setTop (mkF m 119 #[iv ps, iv pe, iv pa, iv pb, iv pd, iv pq, iv 1, rv b21, rv b22, rv b25, iv 1, iv pq, rv b48, iv 0] [])) (fun t k => XS.istore X53.here hx rfl (hb hby at_117) rfl (l' := #[iv ps, iv pe, iv pa, iv pb, iv pd, iv pq, iv 1, rv b21, rv b22, rv b25, iv 1, iv pq, rv b48, iv 0]) rfl k) ?_
        refine Go.pull (V := T53.setTop (mkF m 143 #[iv ps, iv pe, iv pa, iv pb, iv pd, iv pq, iv 1, rv b21, rv b22, rv b25, iv 1, iv pq, rv b48, iv 0] [])) (fun t k => XS.goto X53.here hx rfl (pc0 := 119) (pc' := 143) rfl (hb hby at_119) (by decide) (by decide) k) ?_
        refine Go.pull (V := T53.setTop (mkF m 145 #[iv ps, iv pe, iv pa, iv pb, iv pd, iv pq, iv 1, rv b21, rv b22, rv b25, iv 1, iv pq, rv b48, iv 0] [(.ref b48)])) (fun t k => XS.aload X53.here hx rfl (hb hby at_143) rfl rfl k) ?_
        refine Go.pull (V := T53.setTop (mkF m 147 #[iv ps, iv pe, iv pa, iv pb, iv pd, iv pq, iv 1, rv b21, rv b22, rv b25, iv 1, iv pq, rv b48, iv 0] [(.int 1), (.ref b48)])) (fun t k => XS.iload X53.here hx rfl (hb hby at_145) rfl  k) ?_
        refine Go.pull (V := T53.setTop (mkF m 149 #[iv ps, iv pe, iv pa, iv pb, iv pd, iv pq, iv 1, rv b21, rv b22, rv b25, iv 1, iv pq, rv b48, iv 0] [(.int pq), (.int 1), (.ref b48)])) (fun t k => XS.iload X53.here hx rfl (hb hby at_147) rfl  k) ?_
        obtain ⟨cq54, kq54, q54a, q54b, q54c⟩ := isOf hZ rfl (A48.keep Kc53)
        obtain ⟨_, _, ⟨T54, L54, k54, n54⟩, -, X54, ⟨Lc54, hQ54, l54, y54, z54⟩, st54⟩ := X53.virtualBack hx (y := (⟨"com/example/threshold/threshold/PostingList", "holdsAt", "(II)Z"⟩ : MethodName)) (z := (⟨"com/example/threshold/threshold/PostingList", "holdsAt", "(II)Z"⟩ : MethodName)) hown (mvT hZ (hw _ (List.mem_of_getElem? (i := 18) rfl))) (mvT hZ (hw _ (List.mem_of_getElem? (i := 19) rfl))) (notFace_of_selects (args := #[]) (mvT hZ (hw _ (List.mem_of_getElem? (i := 21) rfl)))) (mvT hZ (hw _ (List.mem_of_getElem? (i := 21) rfl))) (mvT hZ (hw _ (List.mem_of_getElem? (i := 20) rfl))) (by decide) (backOf (W := 0) (rmA l Z a0 hw [] b48 (1 : Int32) pq b21 k21 (1 : Int32) ([(.int pa)] : List Value) (0 : Int32) T53.heap n0 Fc53_0 (((V24.ext E25).ext E48).keep Kc53 (ninS (ne_b21_b48) nin0)) rfl (by decide)) hZ (hw _ (List.mem_of_getElem? (i := 22) rfl)) (hw _ (List.mem_of_getElem? (i := 3) rfl)) (by decide) (by decide)) q54a q54c (g := (mkF m 149 #[iv ps, iv pe, iv pa, iv pb, iv pd, iv pq, iv 1, rv b21, rv b22, rv b25, iv 1, iv pq, rv b48, iv 0] [(.int pq), (.int 1), (.ref b48)])) rfl (by rw [hml]; rfl) (Steps.refl _) (argsL := [(.int 1), (.int pq)]) (rest := []) (lenOf pd_1 rfl) rfl (by show 2 * 0 + _ ≤ _; exact Nat.le_of_eq rfl) (hb hby at_149) (fun _ _ => ⟨rfl, rfl, (by decide : 4 + 0 ≤ _), (by decide : 7 + 0 ≤ _)⟩)
        dsimp only [Pt.U, Pt.locs, Pt.cells, Pt.slots] at X54 l54 y54 z54 st54 hQ54
        subst l54 y54 z54
        obtain ⟨hv54, N54q, e54⟩ := hQ54
        rw [(show (own_hold (1 : Int32) (1 : Int32) pq (0 : Int32)) = (0 : Int32) from by rw [own_hold, if_neg (by decide)])] at hv54; subst hv54
        have N54 := Fr.app N53 N54q
        refine Go.pull (V := T54.setTop (mkF m 152 #[iv ps, iv pe, iv pa, iv pb, iv pd, iv pq, iv 1, rv b21, rv b22, rv b25, iv 1, iv pq, rv b48, iv 0] [(.int 0)])) (fun _ k => st54.trans k) ?_
        refine Go.pull (V := T54.setTop (mkF m 154 #[iv ps, iv pe, iv pa, iv pb, iv pd, iv pq, iv 1, rv b21, rv b22, rv b25, iv 1, iv pq, rv b48, iv 0] [(.int 0), (.int 0)])) (fun t k => XS.iload X54.here hx rfl (hb hby at_152) rfl  k) ?_
        refine Go.pull (V := T54.setTop (mkF m 157 #[iv ps, iv pe, iv pa, iv pb, iv pd, iv pq, iv 1, rv b21, rv b22, rv b25, iv 1, iv pq, rv b48, iv 0] [])) (fun t k => XS.icmpNo X54.here hx rfl (hb hby at_154) rfl (XT.ii_ne_f (by decide)) k) ?_
        refine Go.pull (V := T54.setTop (mkF m 158 #[iv ps, iv pe, iv pa, iv pb, iv pd, iv pq, iv 1, rv b21, rv b22, rv b25, iv 1, iv pq, rv b48, iv 0] [(.int 1)])) (fun t k => XS.iconst X54.here hx rfl (hb hby at_157) k) ?_
        refine Go.pull (V := T54.setTop (mkF m 162 #[iv ps, iv pe, iv pa, iv pb, iv pd, iv pq, iv 1, rv b21, rv b22, rv b25, iv 1, iv pq, rv b48, iv 0] [(.int 1)])) (fun t k => XS.goto X54.here hx rfl (pc0 := 158) (pc' := 162) rfl (hb hby at_158) (by decide) (by decide) k) ?_
        exact Go.retN X54 hx Bd.notSynchronized (t := .boolean) Bd.returns (by simp) (hb hby at_162) ⟨rfl, N54⟩ (by decide) (by decide)
      · skip
        refine Go.pull (V := T25.setTop (mkF m 75 #[iv ps, iv pe, iv pa, iv pb, iv pd, iv pq, iv 1, rv b21, rv b22, rv b25, iv 1, iv pq, .unset, .unset] [])) (fun t k => XS.ifNo X25.here hx rfl (hb hby at_72) rfl (XT.i0_eq_f hc72_47) k) ?_
        refine Go.pull (V := T25.setTop (mkF m 77 #[iv ps, iv pe, iv pa, iv pb, iv pd, iv pq, iv 1, rv b21, rv b22, rv b25, iv 1, iv pq, .unset, .unset] [(.int 1)])) (fun t k => XS.iload X25.here hx rfl (hb hby at_75) rfl  k) ?_
        refine Go.pull (V := T25.setTop (mkF m 79 #[iv ps, iv pe, iv pa, iv pb, iv pd, iv pq, iv 1, rv b21, rv b22, rv b25, iv 1, iv pq, .unset, .unset] [(.int 1), (.int 1)])) (fun t k => XS.iload X25.here hx rfl (hb hby at_77) rfl  k) ?_
        refine Go.pull (V := T25.setTop (mkF m 93 #[iv ps, iv pe, iv pa, iv pb, iv pd, iv pq, iv 1, rv b21, rv b22, rv b25, iv 1, iv pq, .unset, .unset] [])) (fun t k => XS.icmpYes X25.here hx rfl (pc0 := 79) (pc' := 93) rfl (hb hby at_79) rfl (XT.ii_ge_t (by decide)) (by decide) (by decide) k) ?_
        obtain ⟨T55, h55, X55, e55, E55, A55, D55, -, st55⟩ := newO X25 hx hZ hown (hw _ (List.mem_of_getElem? (i := 1) rfl)) (hw _ (List.mem_of_getElem? (i := 2) rfl)) (hw _ (List.mem_of_getElem? (i := 3) rfl)) e25 (g := (mkF m 93 #[iv ps, iv pe, iv pa, iv pb, iv pd, iv pq, iv 1, rv b21, rv b22, rv b25, iv 1, iv pq, .unset, .unset] [])) rfl (hb hby at_93) (by decide) (by decide)
        obtain ⟨b55, g55⟩ : ∃ z, z = h25.size := ⟨_, rfl⟩
        rw [← g55] at A55 D55 st55
        have ne_b21_b55 : b21 ≠ b55 := Nat.ne_of_lt (Nat.lt_of_lt_of_le (V24.ext E25).lt (Nat.le_of_eq g55.symm))
        have ne_b22_b55 : b22 ≠ b55 := Nat.ne_of_lt (Nat.lt_of_lt_of_le ((V22.other W24 (Ne.symm (ne_b21_b22))).ext E25).lt (Nat.le_of_eq g55.symm))
        have ne_b25_b55 : b25 ≠ b55 := Nat.ne_of_lt (Nat.lt_of_lt_of_le V25.lt (Nat.le_of_eq g55.symm))
        have sz_b55 : h0.size ≤ b55 := Nat.le_trans (K25).1 (Nat.le_of_eq g55.symm)
        have g_b55 : n0 ≤ b55 := Nat.le_trans Z0 sz_b55
        have K55 : Keep h0 h55 [] := K25.ext E55
        have F56 : Fld Z h55 b55 "com/example/threshold/threshold/PostingList" "documents" "[I" .null := D55 (Or.inr (hw _ (List.mem_of_getElem? (i := 11) rfl))) (ty := (.array .int)) (by decide)
        have F57 : Fld Z h55 b55 "com/example/threshold/threshold/PostingList" "counts" "[I" .null := D55 (Or.inr (hw _ (List.mem_of_getElem? (i := 13) rfl))) (ty := (.array .int)) (by decide)
        have F58 : Fld Z h55 b55 "com/example/threshold/threshold/PostingList" "collectionFrequency" "J" (.long 0) := D55 (Or.inr (hw _ (List.mem_of_getElem? (i := 15) rfl))) (ty := .long) (by decide)
        have F59 : Fld Z h55 b55 "com/example/threshold/threshold/PostingList" "lengths" "[I" .null := D55 (Or.inr (hw _ (List.mem_of_getElem? (i := 17) rfl))) (ty := (.array .int)) (by decide)
        refine Go.pull (V := T55.setTop (mkF m 96 #[iv ps, iv pe, iv pa, iv pb, iv pd, iv pq, iv 1, rv b21, rv b22, rv b25, iv 1, iv pq, .unset, .unset] [(.ref b55)])) st55 ?_
        refine Go.pull (V := T55.setTop (mkF m 97 #[iv ps, iv pe, iv pa, iv pb, iv pd, iv pq, iv 1, rv b21, rv b22, rv b25, iv 1, iv pq, .unset, .unset] [(.ref b55), (.ref b55)])) (fun t k => XS.dup X55.here hx rfl (hb hby at_96) rfl rfl k) ?_
        refine Go.pull (V := T55.setTop (mkF m 99 #[iv ps, iv pe, iv pa, iv pb, iv pd, iv pq, iv 1, rv b21, rv b22, rv b25, iv 1, iv pq, .unset, .unset] [(.ref b21), (.ref b55), (.ref b55)])) (fun t k => XS.aload X55.here hx rfl (hb hby at_97) rfl rfl k) ?_
        refine Go.pull (V := T55.setTop (mkF m 101 #[iv ps, iv pe, iv pa, iv pb, iv pd, iv pq, iv 1, rv b21, rv b22, rv b25, iv 1, iv pq, .unset, .unset] [(.ref b22), (.ref b21), (.ref b55), (.ref b55)])) (fun t k => XS.aload X55.here hx rfl (hb hby at_99) rfl rfl k) ?_
        refine Go.pull (V := T55.setTop (mkF m 102 #[iv ps, iv pe, iv pa, iv pb, iv pd, iv pq, iv 1, rv b21, rv b22, rv b25, iv 1, iv pq, .unset, .unset] [(.long 0), (.ref b22), (.ref b21), (.ref b55), (.ref b55)])) (fun t k => XS.lconst X55.here hx rfl (hb hby at_101) k) ?_
        refine Go.pull (V := T55.setTop (mkF m 104 #[iv ps, iv pe, iv pa, iv pb, iv pd, iv pq, iv 1, rv b21, rv b22, rv b25, iv 1, iv pq, .unset, .unset] [(.ref b25), (.long 0), (.ref b22), (.ref b21), (.ref b55), (.ref b55)])) (fun t k => XS.aload X55.here hx rfl (hb hby at_102) rfl rfl k) ?_
        obtain ⟨_, _, ⟨T60, L60, k60, n60⟩, -, X60, ⟨Lc60, hQ60, l60, y60, z60⟩, st60⟩ := X55.specialBack hx (y := (⟨"com/example/threshold/threshold/PostingList", "<init>", "([I[IJ[I)V"⟩ : MethodName)) rfl hown (mvT hZ (hw _ (List.mem_of_getElem? (i := 4) rfl))) (mvT hZ (hw _ (List.mem_of_getElem? (i := 5) rfl))) (mvT hZ (hw _ (List.mem_of_getElem? (i := 6) rfl))) (by decide) (backOf (W := 1) (rmI l Z a0 hw [] b55 b21 b22 (0 : Int64) b25 .null .null (.long 0) .null h55 n0 (g_b55) A55 F56 F57 F58 F59) hZ (hw _ (List.mem_of_getElem? (i := 6) rfl)) (hw _ (List.mem_of_getElem? (i := 3) rfl)) (by decide) (by decide)) (g := (mkF m 104 #[iv ps, iv pe, iv pa, iv pb, iv pd, iv pq, iv 1, rv b21, rv b22, rv b25, iv 1, iv pq, .unset, .unset] [(.ref b25), (.long 0), (.ref b22), (.ref b21), (.ref b55), (.ref b55)])) rfl (by rw [hml]; rfl) (Steps.refl _) (a := b55) (argsL := [(.ref b21), (.ref b22), (.long 0), (.ref b25)]) (rest := [(.ref b55)]) (lenOf pd_0 rfl) rfl (by show 2 * 0 + _ ≤ _; exact Nat.le_of_eq rfl) (hb hby at_104) (fun _ _ => ⟨rfl, e55, (by decide : 4 + 0 ≤ _), (by decide : 7 + 0 ≤ _)⟩)
        dsimp only [Pt.U, Pt.locs, Pt.cells, Pt.slots] at X60 l60 y60 z60 st60 hQ60
        subst l60 y60 z60
        obtain ⟨rfl, N60q, Kc60, Fc60_0⟩ := hQ60
        have K60 : Keep h0 T60.heap [] := K55.trans Kc60 ((allS (Or.inr sz_b55) all0))
        have N60 := Fr.app N24 N60q
        refine Go.pull (V := T60.setTop (mkF m 107 #[iv ps, iv pe, iv pa, iv pb, iv pd, iv pq, iv 1, rv b21, rv b22, rv b25, iv 1, iv pq, .unset, .unset] [(.ref b55)])) (fun _ k => st60.trans k) ?_
        refine Go.pull (V := T60.setTop (mkF m 109 #[iv ps, iv pe, iv pa, iv pb, iv pd, iv pq, iv 1, rv b21, rv b22, rv b25, iv 1, iv pq, rv b55, .unset] [])) (fun t k => XS.astore X60.here hx rfl (hb hby at_107) rfl rfl (l' := #[iv ps, iv pe, iv pa, iv pb, iv pd, iv pq, iv 1, rv b21, rv b22, rv b25, iv 1, iv pq, rv b55, .unset]) rfl k) ?_
        refine Go.pull (V := T60.setTop (mkF m 111 #[iv ps, iv pe, iv pa, iv pb, iv pd, iv pq, iv 1, rv b21, rv b22, rv b25, iv 1, iv pq, rv b55, .unset] [(.int 1)])) (fun t k => XS.iload X60.here hx rfl (hb hby at_109) rfl  k) ?_
        refine Go.pull (V := T60.setTop (mkF m 113 #[iv ps, iv pe, iv pa, iv pb, iv pd, iv pq, iv 1, rv b21, rv b22, rv b25, iv 1, iv pq, rv b55, .unset] [(.int 1), (.int 1)])) (fun t k => XS.iload X60.here hx rfl (hb hby at_111) rfl  k) ?_
        refine Go.pull (V := T60.setTop (mkF m 116 #[iv ps, iv pe, iv pa, iv pb, iv pd, iv pq, iv 1, rv b21, rv b22, rv b25, iv 1, iv pq, rv b55, .unset] [])) (fun t k => XS.icmpNo X60.here hx rfl (hb hby at_113) rfl (XT.ii_lt_f (by decide)) k) ?_
        refine Go.pull (V := T60.setTop (mkF m 117 #[iv ps, iv pe, iv pa, iv pb, iv pd, iv pq, iv 1, rv b21, rv b22, rv b25, iv 1, iv pq, rv b55, .unset] [(.int 0)])) (fun t k => XS.iconst X60.here hx rfl (hb hby at_116) k) ?_
        refine Go.pull (V := T60.setTop (mkF m 119 #[iv ps, iv pe, iv pa, iv pb, iv pd, iv pq, iv 1, rv b21, rv b22, rv b25, iv 1, iv pq, rv b55, iv 0] [])) (fun t k => XS.istore X60.here hx rfl (hb hby at_117) rfl (l' := #[iv ps, iv pe, iv pa, iv pb, iv pd, iv pq, iv 1, rv b21, rv b22, rv b25, iv 1, iv pq, rv b55, iv 0]) rfl k) ?_
        refine Go.pull (V := T60.setTop (mkF m 143 #[iv ps, iv pe, iv pa, iv pb, iv pd, iv pq, iv 1, rv b21, rv b22, rv b25, iv 1, iv pq, rv b55, iv 0] [])) (fun t k => XS.goto X60.here hx rfl (pc0 := 119) (pc' := 143) rfl (hb hby at_119) (by decide) (by decide) k) ?_
        refine Go.pull (V := T60.setTop (mkF m 145 #[iv ps, iv pe, iv pa, iv pb, iv pd, iv pq, iv 1, rv b21, rv b22, rv b25, iv 1, iv pq, rv b55, iv 0] [(.ref b55)])) (fun t k => XS.aload X60.here hx rfl (hb hby at_143) rfl rfl k) ?_
        refine Go.pull (V := T60.setTop (mkF m 147 #[iv ps, iv pe, iv pa, iv pb, iv pd, iv pq, iv 1, rv b21, rv b22, rv b25, iv 1, iv pq, rv b55, iv 0] [(.int 1), (.ref b55)])) (fun t k => XS.iload X60.here hx rfl (hb hby at_145) rfl  k) ?_
        refine Go.pull (V := T60.setTop (mkF m 149 #[iv ps, iv pe, iv pa, iv pb, iv pd, iv pq, iv 1, rv b21, rv b22, rv b25, iv 1, iv pq, rv b55, iv 0] [(.int pq), (.int 1), (.ref b55)])) (fun t k => XS.iload X60.here hx rfl (hb hby at_147) rfl  k) ?_
        obtain ⟨cq61, kq61, q61a, q61b, q61c⟩ := isOf hZ rfl (A55.keep Kc60)
        obtain ⟨_, _, ⟨T61, L61, k61, n61⟩, -, X61, ⟨Lc61, hQ61, l61, y61, z61⟩, st61⟩ := X60.virtualBack hx (y := (⟨"com/example/threshold/threshold/PostingList", "holdsAt", "(II)Z"⟩ : MethodName)) (z := (⟨"com/example/threshold/threshold/PostingList", "holdsAt", "(II)Z"⟩ : MethodName)) hown (mvT hZ (hw _ (List.mem_of_getElem? (i := 18) rfl))) (mvT hZ (hw _ (List.mem_of_getElem? (i := 19) rfl))) (notFace_of_selects (args := #[]) (mvT hZ (hw _ (List.mem_of_getElem? (i := 21) rfl)))) (mvT hZ (hw _ (List.mem_of_getElem? (i := 21) rfl))) (mvT hZ (hw _ (List.mem_of_getElem? (i := 20) rfl))) (by decide) (backOf (W := 0) (rmA l Z a0 hw [] b55 (1 : Int32) pq b21 k21 (1 : Int32) ([(.int pa)] : List Value) (0 : Int32) T60.heap n0 Fc60_0 (((V24.ext E25).ext E55).keep Kc60 (ninS (ne_b21_b55) nin0)) rfl (by decide)) hZ (hw _ (List.mem_of_getElem? (i := 22) rfl)) (hw _ (List.mem_of_getElem? (i := 3) rfl)) (by decide) (by decide)) q61a q61c (g := (mkF m 149 #[iv ps, iv pe, iv pa, iv pb, iv pd, iv pq, iv 1, rv b21, rv b22, rv b25, iv 1, iv pq, rv b55, iv 0] [(.int pq), (.int 1), (.ref b55)])) rfl (by rw [hml]; rfl) (Steps.refl _) (argsL := [(.int 1), (.int pq)]) (rest := []) (lenOf pd_1 rfl) rfl (by show 2 * 0 + _ ≤ _; exact Nat.le_of_eq rfl) (hb hby at_149) (fun _ _ => ⟨rfl, rfl, (by decide : 4 + 0 ≤ _), (by decide : 7 + 0 ≤ _)⟩)
        dsimp only [Pt.U, Pt.locs, Pt.cells, Pt.slots] at X61 l61 y61 z61 st61 hQ61
        subst l61 y61 z61
        obtain ⟨hv61, N61q, e61⟩ := hQ61
        rw [(show (own_hold (1 : Int32) (1 : Int32) pq (0 : Int32)) = (0 : Int32) from by rw [own_hold, if_neg (by decide)])] at hv61; subst hv61
        have N61 := Fr.app N60 N61q
        refine Go.pull (V := T61.setTop (mkF m 152 #[iv ps, iv pe, iv pa, iv pb, iv pd, iv pq, iv 1, rv b21, rv b22, rv b25, iv 1, iv pq, rv b55, iv 0] [(.int 0)])) (fun _ k => st61.trans k) ?_
        refine Go.pull (V := T61.setTop (mkF m 154 #[iv ps, iv pe, iv pa, iv pb, iv pd, iv pq, iv 1, rv b21, rv b22, rv b25, iv 1, iv pq, rv b55, iv 0] [(.int 0), (.int 0)])) (fun t k => XS.iload X61.here hx rfl (hb hby at_152) rfl  k) ?_
        refine Go.pull (V := T61.setTop (mkF m 157 #[iv ps, iv pe, iv pa, iv pb, iv pd, iv pq, iv 1, rv b21, rv b22, rv b25, iv 1, iv pq, rv b55, iv 0] [])) (fun t k => XS.icmpNo X61.here hx rfl (hb hby at_154) rfl (XT.ii_ne_f (by decide)) k) ?_
        refine Go.pull (V := T61.setTop (mkF m 158 #[iv ps, iv pe, iv pa, iv pb, iv pd, iv pq, iv 1, rv b21, rv b22, rv b25, iv 1, iv pq, rv b55, iv 0] [(.int 1)])) (fun t k => XS.iconst X61.here hx rfl (hb hby at_157) k) ?_
        refine Go.pull (V := T61.setTop (mkF m 162 #[iv ps, iv pe, iv pa, iv pb, iv pd, iv pq, iv 1, rv b21, rv b22, rv b25, iv 1, iv pq, rv b55, iv 0] [(.int 1)])) (fun t k => XS.goto X61.here hx rfl (pc0 := 158) (pc' := 162) rfl (hb hby at_158) (by decide) (by decide) k) ?_
        exact Go.retN X61 hx Bd.notSynchronized (t := .boolean) Bd.returns (by simp) (hb hby at_162) ⟨rfl, N61⟩ (by decide) (by decide)
  · subst hv1
    refine Go.pull (V := s₁.setTop (mkF m 7 #[iv ps, iv pe, iv pa, iv pb, iv pd, iv pq, iv 2, .unset, .unset, .unset, .unset, .unset, .unset, .unset] [(.int 2)])) (fun t k => XS.iload X0.here hx rfl (hb hby at_5) rfl  k) ?_
    obtain ⟨T62, h62, k62, X62, e62, E62, A62, st62⟩ := newP X0 hx hZ (hw _ (List.mem_of_getElem? (i := 0) rfl)) e0 (g := (mkF m 7 #[iv ps, iv pe, iv pa, iv pb, iv pd, iv pq, iv 2, .unset, .unset, .unset, .unset, .unset, .unset, .unset] [(.int 2)])) rfl (hb hby at_7) rfl (by decide) (cap := 2) (by decide) (by decide) (by decide) (by decide)
    obtain ⟨b62, g62⟩ : ∃ z, z = h0.size := ⟨_, rfl⟩
    rw [← g62] at A62 st62
    have sz_b62 : h0.size ≤ b62 := Nat.le_trans ((Keep.refl h0 [])).1 (Nat.le_of_eq g62.symm)
    have g_b62 : n0 ≤ b62 := Nat.le_trans Z0 sz_b62
    have K62 : Keep h0 h62 [] := (Keep.refl h0 []).ext E62
    have V62 : Arv Z h62 b62 k62 .int (2 : Int32) [(.int 0), (.int 0)] (.int 0) := (Arv.new A62 (by decide)).pad (pad_rep [] (.int 0) 2)
    refine Go.pull (V := T62.setTop (mkF m 9 #[iv ps, iv pe, iv pa, iv pb, iv pd, iv pq, iv 2, .unset, .unset, .unset, .unset, .unset, .unset, .unset] [(.ref b62)])) st62 ?_
    refine Go.pull (V := T62.setTop (mkF m 11 #[iv ps, iv pe, iv pa, iv pb, iv pd, iv pq, iv 2, rv b62, .unset, .unset, .unset, .unset, .unset, .unset] [])) (fun t k => XS.astore X62.here hx rfl (hb hby at_9) rfl rfl (l' := #[iv ps, iv pe, iv pa, iv pb, iv pd, iv pq, iv 2, rv b62, .unset, .unset, .unset, .unset, .unset, .unset]) rfl k) ?_
    refine Go.pull (V := T62.setTop (mkF m 13 #[iv ps, iv pe, iv pa, iv pb, iv pd, iv pq, iv 2, rv b62, .unset, .unset, .unset, .unset, .unset, .unset] [(.int 2)])) (fun t k => XS.iload X62.here hx rfl (hb hby at_11) rfl  k) ?_
    obtain ⟨T63, h63, k63, X63, e63, E63, A63, st63⟩ := newP X62 hx hZ (hw _ (List.mem_of_getElem? (i := 0) rfl)) e62 (g := (mkF m 13 #[iv ps, iv pe, iv pa, iv pb, iv pd, iv pq, iv 2, rv b62, .unset, .unset, .unset, .unset, .unset, .unset] [(.int 2)])) rfl (hb hby at_13) rfl (by decide) (cap := 2) (by decide) (by decide) (by decide) (by decide)
    obtain ⟨b63, g63⟩ : ∃ z, z = h62.size := ⟨_, rfl⟩
    rw [← g63] at A63 st63
    have ne_b62_b63 : b62 ≠ b63 := Nat.ne_of_lt (Nat.lt_of_lt_of_le V62.lt (Nat.le_of_eq g63.symm))
    have sz_b63 : h0.size ≤ b63 := Nat.le_trans (K62).1 (Nat.le_of_eq g63.symm)
    have g_b63 : n0 ≤ b63 := Nat.le_trans Z0 sz_b63
    have K63 : Keep h0 h63 [] := K62.ext E63
    have V63 : Arv Z h63 b63 k63 .int (2 : Int32) [(.int 0), (.int 0)] (.int 0) := (Arv.new A63 (by decide)).pad (pad_rep [] (.int 0) 2)
    refine Go.pull (V := T63.setTop (mkF m 15 #[iv ps, iv pe, iv pa, iv pb, iv pd, iv pq, iv 2, rv b62, .unset, .unset, .unset, .unset, .unset, .unset] [(.ref b63)])) st63 ?_
    refine Go.pull (V := T63.setTop (mkF m 17 #[iv ps, iv pe, iv pa, iv pb, iv pd, iv pq, iv 2, rv b62, rv b63, .unset, .unset, .unset, .unset, .unset] [])) (fun t k => XS.astore X63.here hx rfl (hb hby at_15) rfl rfl (l' := #[iv ps, iv pe, iv pa, iv pb, iv pd, iv pq, iv 2, rv b62, rv b63, .unset, .unset, .unset, .unset, .unset]) rfl k) ?_
    refine Go.pull (V := T63.setTop (mkF m 19 #[iv ps, iv pe, iv pa, iv pb, iv pd, iv pq, iv 2, rv b62, rv b63, .unset, .unset, .unset, .unset, .unset] [(.int 2)])) (fun t k => XS.iload X63.here hx rfl (hb hby at_17) rfl  k) ?_
    refine Go.pull (V := T63.setTop (mkF m 22 #[iv ps, iv pe, iv pa, iv pb, iv pd, iv pq, iv 2, rv b62, rv b63, .unset, .unset, .unset, .unset, .unset] [])) (fun t k => XS.ifNo X63.here hx rfl (hb hby at_19) rfl (XT.i0_le_f (by decide)) k) ?_
    refine Go.pull (V := T63.setTop (mkF m 24 #[iv ps, iv pe, iv pa, iv pb, iv pd, iv pq, iv 2, rv b62, rv b63, .unset, .unset, .unset, .unset, .unset] [(.ref b62)])) (fun t k => XS.aload X63.here hx rfl (hb hby at_22) rfl rfl k) ?_
    refine Go.pull (V := T63.setTop (mkF m 25 #[iv ps, iv pe, iv pa, iv pb, iv pd, iv pq, iv 2, rv b62, rv b63, .unset, .unset, .unset, .unset, .unset] [(.int 0), (.ref b62)])) (fun t k => XS.iconst X63.here hx rfl (hb hby at_24) k) ?_
    refine Go.pull (V := T63.setTop (mkF m 26 #[iv ps, iv pe, iv pa, iv pb, iv pd, iv pq, iv 2, rv b62, rv b63, .unset, .unset, .unset, .unset, .unset] [(.int pa), (.int 0), (.ref b62)])) (fun t k => XS.iloadN X63.here hx rfl (hb hby at_25) rfl  k) ?_
    obtain ⟨cl64, Ar64, q64, S64, M64, Hs64, G64⟩ := id (V62.ext E63)
    have hin64 : ¬ ((0 : Int32) < 0 ∨ cl64.slots.size ≤ ((0 : Int32)).toNatClampNeg) := inb_of S64 ⟨by decide, by decide⟩
    obtain ⟨T65, h65, X65, e65, W65, st65⟩ := stI X63 hx hZ e63 Ar64 (j := (0 : Int32)) hin64 (g := (mkF m 26 #[iv ps, iv pe, iv pa, iv pb, iv pd, iv pq, iv 2, rv b62, rv b63, .unset, .unset, .unset, .unset, .unset] [(.int pa), (.int 0), (.ref b62)])) rfl rfl (hb hby at_26)
    have V65 : Arv Z h65 b62 k62 .int (2 : Int32) [(.int pa), (.int 0)] (.int 0) := Arv.set Ar64 q64 S64 M64 Hs64 G64 rfl W65 0 rfl (Nat.le_of_ble_eq_true rfl)
    have K65 : Keep h0 h65 [] := K63.wr W65 (Or.inr sz_b62)
    have N65 := Fr.snoc X65 N0 g_b62
    refine Go.pull (V := T65.setTop (mkF m 27 #[iv ps, iv pe, iv pa, iv pb, iv pd, iv pq, iv 2, rv b62, rv b63, .unset, .unset, .unset, .unset, .unset] [])) st65 ?_
    refine Go.pull (V := T65.setTop (mkF m 29 #[iv ps, iv pe, iv pa, iv pb, iv pd, iv pq, iv 2, rv b62, rv b63, .unset, .unset, .unset, .unset, .unset] [(.int 2)])) (fun t k => XS.iload X65.here hx rfl (hb hby at_27) rfl  k) ?_
    refine Go.pull (V := T65.setTop (mkF m 30 #[iv ps, iv pe, iv pa, iv pb, iv pd, iv pq, iv 2, rv b62, rv b63, .unset, .unset, .unset, .unset, .unset] [(.int 1), (.int 2)])) (fun t k => XS.iconst X65.here hx rfl (hb hby at_29) k) ?_
    refine Go.pull (V := T65.setTop (mkF m 33 #[iv ps, iv pe, iv pa, iv pb, iv pd, iv pq, iv 2, rv b62, rv b63, .unset, .unset, .unset, .unset, .unset] [])) (fun t k => XS.icmpNo X65.here hx rfl (hb hby at_30) rfl (XT.ii_le_f (by decide)) k) ?_
    refine Go.pull (V := T65.setTop (mkF m 35 #[iv ps, iv pe, iv pa, iv pb, iv pd, iv pq, iv 2, rv b62, rv b63, .unset, .unset, .unset, .unset, .unset] [(.ref b62)])) (fun t k => XS.aload X65.here hx rfl (hb hby at_33) rfl rfl k) ?_
    refine Go.pull (V := T65.setTop (mkF m 36 #[iv ps, iv pe, iv pa, iv pb, iv pd, iv pq, iv 2, rv b62, rv b63, .unset, .unset, .unset, .unset, .unset] [(.int 1), (.ref b62)])) (fun t k => XS.iconst X65.here hx rfl (hb hby at_35) k) ?_
    refine Go.pull (V := T65.setTop (mkF m 37 #[iv ps, iv pe, iv pa, iv pb, iv pd, iv pq, iv 2, rv b62, rv b63, .unset, .unset, .unset, .unset, .unset] [(.int pb), (.int 1), (.ref b62)])) (fun t k => XS.iloadN X65.here hx rfl (hb hby at_36) rfl  k) ?_
    obtain ⟨cl66, Ar66, q66, S66, M66, Hs66, G66⟩ := id V65
    have hin66 : ¬ ((1 : Int32) < 0 ∨ cl66.slots.size ≤ ((1 : Int32)).toNatClampNeg) := inb_of S66 ⟨by decide, by decide⟩
    obtain ⟨T67, h67, X67, e67, W67, st67⟩ := stI X65 hx hZ e65 Ar66 (j := (1 : Int32)) hin66 (g := (mkF m 37 #[iv ps, iv pe, iv pa, iv pb, iv pd, iv pq, iv 2, rv b62, rv b63, .unset, .unset, .unset, .unset, .unset] [(.int pb), (.int 1), (.ref b62)])) rfl rfl (hb hby at_37)
    have V67 : Arv Z h67 b62 k62 .int (2 : Int32) [(.int pa), (.int pb)] (.int 0) := Arv.set Ar66 q66 S66 M66 Hs66 G66 rfl W67 1 rfl (Nat.le_of_ble_eq_true rfl)
    have K67 : Keep h0 h67 [] := K65.wr W67 (Or.inr sz_b62)
    have N67 := Fr.snoc X67 N65 g_b62
    refine Go.pull (V := T67.setTop (mkF m 38 #[iv ps, iv pe, iv pa, iv pb, iv pd, iv pq, iv 2, rv b62, rv b63, .unset, .unset, .unset, .unset, .unset] [])) st67 ?_
    refine Go.pull (V := T67.setTop (mkF m 40 #[iv ps, iv pe, iv pa, iv pb, iv pd, iv pq, iv 2, rv b62, rv b63, .unset, .unset, .unset, .unset, .unset] [(.int 2)])) (fun t k => XS.iload X67.here hx rfl (hb hby at_38) rfl  k) ?_
    refine Go.pull (V := T67.setTop (mkF m 41 #[iv ps, iv pe, iv pa, iv pb, iv pd, iv pq, iv 2, rv b62, rv b63, .unset, .unset, .unset, .unset, .unset] [(.int 2), (.int 2)])) (fun t k => XS.iconst X67.here hx rfl (hb hby at_40) k) ?_
    refine Go.pull (V := T67.setTop (mkF m 50 #[iv ps, iv pe, iv pa, iv pb, iv pd, iv pq, iv 2, rv b62, rv b63, .unset, .unset, .unset, .unset, .unset] [])) (fun t k => XS.icmpYes X67.here hx rfl (pc0 := 41) (pc' := 50) rfl (hb hby at_41) rfl (XT.ii_le_t (by decide)) (by decide) (by decide) k) ?_
    refine Go.pull (V := T67.setTop (mkF m 51 #[iv ps, iv pe, iv pa, iv pb, iv pd, iv pq, iv 2, rv b62, rv b63, .unset, .unset, .unset, .unset, .unset] [(.int 0)])) (fun t k => XS.iconst X67.here hx rfl (hb hby at_50) k) ?_
    obtain ⟨T68, h68, k68, X68, e68, E68, A68, st68⟩ := newP X67 hx hZ (hw _ (List.mem_of_getElem? (i := 0) rfl)) e67 (g := (mkF m 51 #[iv ps, iv pe, iv pa, iv pb, iv pd, iv pq, iv 2, rv b62, rv b63, .unset, .unset, .unset, .unset, .unset] [(.int 0)])) rfl (hb hby at_51) rfl (by decide) (cap := 0) (by decide) (by decide) (by decide) (by decide)
    obtain ⟨b68, g68⟩ : ∃ z, z = h67.size := ⟨_, rfl⟩
    rw [← g68] at A68 st68
    have ne_b62_b68 : b62 ≠ b68 := Nat.ne_of_lt (Nat.lt_of_lt_of_le V67.lt (Nat.le_of_eq g68.symm))
    have ne_b63_b68 : b63 ≠ b68 := Nat.ne_of_lt (Nat.lt_of_lt_of_le ((V63.other W65 (Ne.symm (ne_b62_b63))).other W67 (Ne.symm (ne_b62_b63))).lt (Nat.le_of_eq g68.symm))
    have sz_b68 : h0.size ≤ b68 := Nat.le_trans (K67).1 (Nat.le_of_eq g68.symm)
    have g_b68 : n0 ≤ b68 := Nat.le_trans Z0 sz_b68
    have K68 : Keep h0 h68 [] := K67.ext E68
    have V68 : Arv Z h68 b68 k68 .int (0 : Int32) [] (.int 0) := (Arv.new A68 (by decide)).pad (pad_rep [] (.int 0) 0)
    refine Go.pull (V := T68.setTop (mkF m 53 #[iv ps, iv pe, iv pa, iv pb, iv pd, iv pq, iv 2, rv b62, rv b63, .unset, .unset, .unset, .unset, .unset] [(.ref b68)])) st68 ?_
    refine Go.pull (V := T68.setTop (mkF m 55 #[iv ps, iv pe, iv pa, iv pb, iv pd, iv pq, iv 2, rv b62, rv b63, rv b68, .unset, .unset, .unset, .unset] [])) (fun t k => XS.astore X68.here hx rfl (hb hby at_53) rfl rfl (l' := #[iv ps, iv pe, iv pa, iv pb, iv pd, iv pq, iv 2, rv b62, rv b63, rv b68, .unset, .unset, .unset, .unset]) rfl k) ?_
    refine Go.pull (V := T68.setTop (mkF m 56 #[iv ps, iv pe, iv pa, iv pb, iv pd, iv pq, iv 2, rv b62, rv b63, rv b68, .unset, .unset, .unset, .unset] [(.int pe)])) (fun t k => XS.iloadN X68.here hx rfl (hb hby at_55) rfl  k) ?_
    refine Go.pull (V := T68.setTop (mkF m 57 #[iv ps, iv pe, iv pa, iv pb, iv pd, iv pq, iv 2, rv b62, rv b63, rv b68, .unset, .unset, .unset, .unset] [(.int 3), (.int pe)])) (fun t k => XS.iconst X68.here hx rfl (hb hby at_56) k) ?_
    refine Go.pull (V := T68.setTop (mkF m 58 #[iv ps, iv pe, iv pa, iv pb, iv pd, iv pq, iv 2, rv b62, rv b63, rv b68, .unset, .unset, .unset, .unset] [(.int (pe &&& (3 : Int32)))])) (fun t k => XS.iand X68.here hx rfl (hb hby at_57) rfl k) ?_
    refine Go.pull (V := T68.setTop (mkF m 60 #[iv ps, iv pe, iv pa, iv pb, iv pd, iv pq, iv 2, rv b62, rv b63, rv b68, .unset, .unset, .unset, .unset] [(.int 2), (.int (pe &&& (3 : Int32)))])) (fun t k => XS.iload X68.here hx rfl (hb hby at_58) rfl  k) ?_
    refine Go.pull (V := T68.setTop (mkF m 61 #[iv ps, iv pe, iv pa, iv pb, iv pd, iv pq, iv 2, rv b62, rv b63, rv b68, .unset, .unset, .unset, .unset] [(.int 1), (.int 2), (.int (pe &&& (3 : Int32)))])) (fun t k => XS.iconst X68.here hx rfl (hb hby at_60) k) ?_
    refine Go.pull (V := T68.setTop (mkF m 62 #[iv ps, iv pe, iv pa, iv pb, iv pd, iv pq, iv 2, rv b62, rv b63, rv b68, .unset, .unset, .unset, .unset] [(.int 3), (.int (pe &&& (3 : Int32)))])) (fun t k => XS.iadd X68.here hx rfl (hb hby at_61) rfl k) ?_
    refine Go.pull (V := T68.setTop (mkF m 63 #[iv ps, iv pe, iv pa, iv pb, iv pd, iv pq, iv 2, rv b62, rv b63, rv b68, .unset, .unset, .unset, .unset] [(.int ((pe &&& (3 : Int32)) % (3 : Int32)))])) (fun t k => iremM X68 hx rfl (hb hby at_62) rfl (by decide) k) ?_
    refine Go.pull (V := T68.setTop (mkF m 65 #[iv ps, iv pe, iv pa, iv pb, iv pd, iv pq, iv 2, rv b62, rv b63, rv b68, iv ((pe &&& (3 : Int32)) % (3 : Int32)), .unset, .unset, .unset] [])) (fun t k => XS.istore X68.here hx rfl (hb hby at_63) rfl (l' := #[iv ps, iv pe, iv pa, iv pb, iv pd, iv pq, iv 2, rv b62, rv b63, rv b68, iv ((pe &&& (3 : Int32)) % (3 : Int32)), .unset, .unset, .unset]) rfl k) ?_
    generalize gv69 : ((pe &&& (3 : Int32)) % (3 : Int32)) = v69
    obtain hv69 | hv69 | hv69 := own_rem3 _ gv69
    · subst hv69
      refine Go.pull (V := T68.setTop (mkF m 67 #[iv ps, iv pe, iv pa, iv pb, iv pd, iv pq, iv 2, rv b62, rv b63, rv b68, iv 0, .unset, .unset, .unset] [(.int pq)])) (fun t k => XS.iload X68.here hx rfl (hb hby at_65) rfl  k) ?_
      refine Go.pull (V := T68.setTop (mkF m 69 #[iv ps, iv pe, iv pa, iv pb, iv pd, iv pq, iv 2, rv b62, rv b63, rv b68, iv 0, iv pq, .unset, .unset] [])) (fun t k => XS.istore X68.here hx rfl (hb hby at_67) rfl (l' := #[iv ps, iv pe, iv pa, iv pb, iv pd, iv pq, iv 2, rv b62, rv b63, rv b68, iv 0, iv pq, .unset, .unset]) rfl k) ?_
      refine Go.pull (V := T68.setTop (mkF m 70 #[iv ps, iv pe, iv pa, iv pb, iv pd, iv pq, iv 2, rv b62, rv b63, rv b68, iv 0, iv pq, .unset, .unset] [(.int pe)])) (fun t k => XS.iloadN X68.here hx rfl (hb hby at_69) rfl  k) ?_
      refine Go.pull (V := T68.setTop (mkF m 71 #[iv ps, iv pe, iv pa, iv pb, iv pd, iv pq, iv 2, rv b62, rv b63, rv b68, iv 0, iv pq, .unset, .unset] [(.int 4), (.int pe)])) (fun t k => XS.iconst X68.here hx rfl (hb hby at_70) k) ?_
      refine Go.pull (V := T68.setTop (mkF m 72 #[iv ps, iv pe, iv pa, iv pb, iv pd, iv pq, iv 2, rv b62, rv b63, rv b68, iv 0, iv pq, .unset, .unset] [(.int (pe &&& (4 : Int32)))])) (fun t k => XS.iand X68.here hx rfl (hb hby at_71) rfl k) ?_
      by_cases hc72_70 : (pe &&& (4 : Int32)) = 0
      · skip
        refine Go.pull (V := T68.setTop (mkF m 93 #[iv ps, iv pe, iv pa, iv pb, iv pd, iv pq, iv 2, rv b62, rv b63, rv b68, iv 0, iv pq, .unset, .unset] [])) (fun t k => XS.ifYes X68.here hx rfl (pc0 := 72) (pc' := 93) rfl (hb hby at_72) rfl (XT.i0_eq_t hc72_70) (by decide) (by decide) k) ?_
        obtain ⟨T71, h71, X71, e71, E71, A71, D71, -, st71⟩ := newO X68 hx hZ hown (hw _ (List.mem_of_getElem? (i := 1) rfl)) (hw _ (List.mem_of_getElem? (i := 2) rfl)) (hw _ (List.mem_of_getElem? (i := 3) rfl)) e68 (g := (mkF m 93 #[iv ps, iv pe, iv pa, iv pb, iv pd, iv pq, iv 2, rv b62, rv b63, rv b68, iv 0, iv pq, .unset, .unset] [])) rfl (hb hby at_93) (by decide) (by decide)
        obtain ⟨b71, g71⟩ : ∃ z, z = h68.size := ⟨_, rfl⟩
        rw [← g71] at A71 D71 st71
        have ne_b62_b71 : b62 ≠ b71 := Nat.ne_of_lt (Nat.lt_of_lt_of_le (V67.ext E68).lt (Nat.le_of_eq g71.symm))
        have ne_b63_b71 : b63 ≠ b71 := Nat.ne_of_lt (Nat.lt_of_lt_of_le (((V63.other W65 (Ne.symm (ne_b62_b63))).other W67 (Ne.symm (ne_b62_b63))).ext E68).lt (Nat.le_of_eq g71.symm))
        have ne_b68_b71 : b68 ≠ b71 := Nat.ne_of_lt (Nat.lt_of_lt_of_le V68.lt (Nat.le_of_eq g71.symm))
        have sz_b71 : h0.size ≤ b71 := Nat.le_trans (K68).1 (Nat.le_of_eq g71.symm)
        have g_b71 : n0 ≤ b71 := Nat.le_trans Z0 sz_b71
        have K71 : Keep h0 h71 [] := K68.ext E71
        have F72 : Fld Z h71 b71 "com/example/threshold/threshold/PostingList" "documents" "[I" .null := D71 (Or.inr (hw _ (List.mem_of_getElem? (i := 11) rfl))) (ty := (.array .int)) (by decide)
        have F73 : Fld Z h71 b71 "com/example/threshold/threshold/PostingList" "counts" "[I" .null := D71 (Or.inr (hw _ (List.mem_of_getElem? (i := 13) rfl))) (ty := (.array .int)) (by decide)
        have F74 : Fld Z h71 b71 "com/example/threshold/threshold/PostingList" "collectionFrequency" "J" (.long 0) := D71 (Or.inr (hw _ (List.mem_of_getElem? (i := 15) rfl))) (ty := .long) (by decide)
        have F75 : Fld Z h71 b71 "com/example/threshold/threshold/PostingList" "lengths" "[I" .null := D71 (Or.inr (hw _ (List.mem_of_getElem? (i := 17) rfl))) (ty := (.array .int)) (by decide)
        refine Go.pull (V := T71.setTop (mkF m 96 #[iv ps, iv pe, iv pa, iv pb, iv pd, iv pq, iv 2, rv b62, rv b63, rv b68, iv 0, iv pq, .unset, .unset] [(.ref b71)])) st71 ?_
        refine Go.pull (V := T71.setTop (mkF m 97 #[iv ps, iv pe, iv pa, iv pb, iv pd, iv pq, iv 2, rv b62, rv b63, rv b68, iv 0, iv pq, .unset, .unset] [(.ref b71), (.ref b71)])) (fun t k => XS.dup X71.here hx rfl (hb hby at_96) rfl rfl k) ?_
        refine Go.pull (V := T71.setTop (mkF m 99 #[iv ps, iv pe, iv pa, iv pb, iv pd, iv pq, iv 2, rv b62, rv b63, rv b68, iv 0, iv pq, .unset, .unset] [(.ref b62), (.ref b71), (.ref b71)])) (fun t k => XS.aload X71.here hx rfl (hb hby at_97) rfl rfl k) ?_
        refine Go.pull (V := T71.setTop (mkF m 101 #[iv ps, iv pe, iv pa, iv pb, iv pd, iv pq, iv 2, rv b62, rv b63, rv b68, iv 0, iv pq, .unset, .unset] [(.ref b63), (.ref b62), (.ref b71), (.ref b71)])) (fun t k => XS.aload X71.here hx rfl (hb hby at_99) rfl rfl k) ?_
        refine Go.pull (V := T71.setTop (mkF m 102 #[iv ps, iv pe, iv pa, iv pb, iv pd, iv pq, iv 2, rv b62, rv b63, rv b68, iv 0, iv pq, .unset, .unset] [(.long 0), (.ref b63), (.ref b62), (.ref b71), (.ref b71)])) (fun t k => XS.lconst X71.here hx rfl (hb hby at_101) k) ?_
        refine Go.pull (V := T71.setTop (mkF m 104 #[iv ps, iv pe, iv pa, iv pb, iv pd, iv pq, iv 2, rv b62, rv b63, rv b68, iv 0, iv pq, .unset, .unset] [(.ref b68), (.long 0), (.ref b63), (.ref b62), (.ref b71), (.ref b71)])) (fun t k => XS.aload X71.here hx rfl (hb hby at_102) rfl rfl k) ?_
        obtain ⟨_, _, ⟨T76, L76, k76, n76⟩, -, X76, ⟨Lc76, hQ76, l76, y76, z76⟩, st76⟩ := X71.specialBack hx (y := (⟨"com/example/threshold/threshold/PostingList", "<init>", "([I[IJ[I)V"⟩ : MethodName)) rfl hown (mvT hZ (hw _ (List.mem_of_getElem? (i := 4) rfl))) (mvT hZ (hw _ (List.mem_of_getElem? (i := 5) rfl))) (mvT hZ (hw _ (List.mem_of_getElem? (i := 6) rfl))) (by decide) (backOf (W := 1) (rmI l Z a0 hw [] b71 b62 b63 (0 : Int64) b68 .null .null (.long 0) .null h71 n0 (g_b71) A71 F72 F73 F74 F75) hZ (hw _ (List.mem_of_getElem? (i := 6) rfl)) (hw _ (List.mem_of_getElem? (i := 3) rfl)) (by decide) (by decide)) (g := (mkF m 104 #[iv ps, iv pe, iv pa, iv pb, iv pd, iv pq, iv 2, rv b62, rv b63, rv b68, iv 0, iv pq, .unset, .unset] [(.ref b68), (.long 0), (.ref b63), (.ref b62), (.ref b71), (.ref b71)])) rfl (by rw [hml]; rfl) (Steps.refl _) (a := b71) (argsL := [(.ref b62), (.ref b63), (.long 0), (.ref b68)]) (rest := [(.ref b71)]) (lenOf pd_0 rfl) rfl (by show 2 * 0 + _ ≤ _; exact Nat.le_of_eq rfl) (hb hby at_104) (fun _ _ => ⟨rfl, e71, (by decide : 4 + 0 ≤ _), (by decide : 9 + 0 ≤ _)⟩)
        dsimp only [Pt.U, Pt.locs, Pt.cells, Pt.slots] at X76 l76 y76 z76 st76 hQ76
        subst l76 y76 z76
        obtain ⟨rfl, N76q, Kc76, Fc76_0⟩ := hQ76
        have K76 : Keep h0 T76.heap [] := K71.trans Kc76 ((allS (Or.inr sz_b71) all0))
        have N76 := Fr.app N67 N76q
        refine Go.pull (V := T76.setTop (mkF m 107 #[iv ps, iv pe, iv pa, iv pb, iv pd, iv pq, iv 2, rv b62, rv b63, rv b68, iv 0, iv pq, .unset, .unset] [(.ref b71)])) (fun _ k => st76.trans k) ?_
        refine Go.pull (V := T76.setTop (mkF m 109 #[iv ps, iv pe, iv pa, iv pb, iv pd, iv pq, iv 2, rv b62, rv b63, rv b68, iv 0, iv pq, rv b71, .unset] [])) (fun t k => XS.astore X76.here hx rfl (hb hby at_107) rfl rfl (l' := #[iv ps, iv pe, iv pa, iv pb, iv pd, iv pq, iv 2, rv b62, rv b63, rv b68, iv 0, iv pq, rv b71, .unset]) rfl k) ?_
        refine Go.pull (V := T76.setTop (mkF m 111 #[iv ps, iv pe, iv pa, iv pb, iv pd, iv pq, iv 2, rv b62, rv b63, rv b68, iv 0, iv pq, rv b71, .unset] [(.int 0)])) (fun t k => XS.iload X76.here hx rfl (hb hby at_109) rfl  k) ?_
        refine Go.pull (V := T76.setTop (mkF m 113 #[iv ps, iv pe, iv pa, iv pb, iv pd, iv pq, iv 2, rv b62, rv b63, rv b68, iv 0, iv pq, rv b71, .unset] [(.int 2), (.int 0)])) (fun t k => XS.iload X76.here hx rfl (hb hby at_111) rfl  k) ?_
        refine Go.pull (V := T76.setTop (mkF m 122 #[iv ps, iv pe, iv pa, iv pb, iv pd, iv pq, iv 2, rv b62, rv b63, rv b68, iv 0, iv pq, rv b71, .unset] [])) (fun t k => XS.icmpYes X76.here hx rfl (pc0 := 113) (pc' := 122) rfl (hb hby at_113) rfl (XT.ii_lt_t (by decide)) (by decide) (by decide) k) ?_
        refine Go.pull (V := T76.setTop (mkF m 124 #[iv ps, iv pe, iv pa, iv pb, iv pd, iv pq, iv 2, rv b62, rv b63, rv b68, iv 0, iv pq, rv b71, .unset] [(.int 0)])) (fun t k => XS.iload X76.here hx rfl (hb hby at_122) rfl  k) ?_
        refine Go.pull (V := T76.setTop (mkF m 125 #[iv ps, iv pe, iv pa, iv pb, iv pd, iv pq, iv 2, rv b62, rv b63, rv b68, iv 0, iv pq, rv b71, .unset] [(.int pa), (.int 0)])) (fun t k => XS.iloadN X76.here hx rfl (hb hby at_124) rfl  k) ?_
        refine Go.pull (V := T76.setTop (mkF m 126 #[iv ps, iv pe, iv pa, iv pb, iv pd, iv pq, iv 2, rv b62, rv b63, rv b68, iv 0, iv pq, rv b71, .unset] [(.int pb), (.int pa), (.int 0)])) (fun t k => XS.iloadN X76.here hx rfl (hb hby at_125) rfl  k) ?_
        refine Go.pull (V := T76.setTop (mkF m 128 #[iv ps, iv pe, iv pa, iv pb, iv pd, iv pq, iv 2, rv b62, rv b63, rv b68, iv 0, iv pq, rv b71, .unset] [(.int pd), (.int pb), (.int pa), (.int 0)])) (fun t k => XS.iload X76.here hx rfl (hb hby at_126) rfl  k) ?_
        obtain ⟨_, _, ⟨T77, L77, k77, n77⟩, -, X77, ⟨Lc77, hQ77, l77, y77, z77⟩, st77⟩ := Jvm.LawKit.callS X76 hx (y := (⟨"com/example/threshold/threshold/PostingListHoldsAtPinLaw", "at", "(IIII)I"⟩ : MethodName)) hown (mvT hZ (hw _ (List.mem_of_getElem? (i := 23) rfl))) (mvT hZ (hw _ (List.mem_of_getElem? (i := 24) rfl))) (mvT hZ (hw _ (List.mem_of_getElem? (i := 25) rfl))) (mvT hZ (hw _ (List.mem_of_getElem? (i := 26) rfl))) (by decide) (backOf (W := 0) (rmT l Z a0 hw [] (0 : Int32) pa pb pd T76.heap n0 ) hZ (hw _ (List.mem_of_getElem? (i := 26) rfl)) (hw _ (List.mem_of_getElem? (i := 25) rfl)) (by decide) (by decide)) (g := (mkF m 128 #[iv ps, iv pe, iv pa, iv pb, iv pd, iv pq, iv 2, rv b62, rv b63, rv b68, iv 0, iv pq, rv b71, .unset] [(.int pd), (.int pb), (.int pa), (.int 0)])) rfl (by rw [hml]; rfl) (argsL := [(.int 0), (.int pa), (.int pb), (.int pd)]) (rest := []) (lenOf pd_2 rfl) rfl (by show 2 * 0 + _ ≤ _; exact Nat.le_of_eq rfl) (hb hby at_128) (fun _ _ => ⟨rfl, rfl, (by decide : 4 + 0 ≤ _), (by decide : 9 + 0 ≤ _)⟩)
        dsimp only [Pt.U, Pt.locs, Pt.cells, Pt.slots] at X77 l77 y77 z77 st77 hQ77
        subst l77 y77 z77
        obtain ⟨hv77, N77q, e77⟩ := hQ77
        rw [(show (own_at (0 : Int32) pa pb pd) = pa from by rw [own_at, if_pos rfl])] at hv77; subst hv77
        have N77 := Fr.app N76 N77q
        refine Go.pull (V := T77.setTop (mkF m 131 #[iv ps, iv pe, iv pa, iv pb, iv pd, iv pq, iv 2, rv b62, rv b63, rv b68, iv 0, iv pq, rv b71, .unset] [(.int pa)])) st77 ?_
        refine Go.pull (V := T77.setTop (mkF m 133 #[iv ps, iv pe, iv pa, iv pb, iv pd, iv pq, iv 2, rv b62, rv b63, rv b68, iv 0, iv pq, rv b71, .unset] [(.int pq), (.int pa)])) (fun t k => XS.iload X77.here hx rfl (hb hby at_131) rfl  k) ?_
        by_cases hc133_78 : pa = pq
        · skip
          refine Go.pull (V := T77.setTop (mkF m 136 #[iv ps, iv pe, iv pa, iv pb, iv pd, iv pq, iv 2, rv b62, rv b63, rv b68, iv 0, iv pq, rv b71, .unset] [])) (fun t k => XS.icmpNo X77.here hx rfl (hb hby at_133) rfl (XT.ii_ne_f hc133_78) k) ?_
          refine Go.pull (V := T77.setTop (mkF m 137 #[iv ps, iv pe, iv pa, iv pb, iv pd, iv pq, iv 2, rv b62, rv b63, rv b68, iv 0, iv pq, rv b71, .unset] [(.int 1)])) (fun t k => XS.iconst X77.here hx rfl (hb hby at_136) k) ?_
          refine Go.pull (V := T77.setTop (mkF m 141 #[iv ps, iv pe, iv pa, iv pb, iv pd, iv pq, iv 2, rv b62, rv b63, rv b68, iv 0, iv pq, rv b71, .unset] [(.int 1)])) (fun t k => XS.goto X77.here hx rfl (pc0 := 137) (pc' := 141) rfl (hb hby at_137) (by decide) (by decide) k) ?_
          refine Go.pull (V := T77.setTop (mkF m 143 #[iv ps, iv pe, iv pa, iv pb, iv pd, iv pq, iv 2, rv b62, rv b63, rv b68, iv 0, iv pq, rv b71, iv 1] [])) (fun t k => XS.istore X77.here hx rfl (hb hby at_141) rfl (l' := #[iv ps, iv pe, iv pa, iv pb, iv pd, iv pq, iv 2, rv b62, rv b63, rv b68, iv 0, iv pq, rv b71, iv 1]) rfl k) ?_
          refine Go.pull (V := T77.setTop (mkF m 145 #[iv ps, iv pe, iv pa, iv pb, iv pd, iv pq, iv 2, rv b62, rv b63, rv b68, iv 0, iv pq, rv b71, iv 1] [(.ref b71)])) (fun t k => XS.aload X77.here hx rfl (hb hby at_143) rfl rfl k) ?_
          refine Go.pull (V := T77.setTop (mkF m 147 #[iv ps, iv pe, iv pa, iv pb, iv pd, iv pq, iv 2, rv b62, rv b63, rv b68, iv 0, iv pq, rv b71, iv 1] [(.int 0), (.ref b71)])) (fun t k => XS.iload X77.here hx rfl (hb hby at_145) rfl  k) ?_
          refine Go.pull (V := T77.setTop (mkF m 149 #[iv ps, iv pe, iv pa, iv pb, iv pd, iv pq, iv 2, rv b62, rv b63, rv b68, iv 0, iv pq, rv b71, iv 1] [(.int pq), (.int 0), (.ref b71)])) (fun t k => XS.iload X77.here hx rfl (hb hby at_147) rfl  k) ?_
          obtain ⟨cq79, kq79, q79a, q79b, q79c⟩ := isOf hZ e77 (A71.keep Kc76)
          obtain ⟨_, _, ⟨T79, L79, k79, n79⟩, -, X79, ⟨Lc79, hQ79, l79, y79, z79⟩, st79⟩ := X77.virtualBack hx (y := (⟨"com/example/threshold/threshold/PostingList", "holdsAt", "(II)Z"⟩ : MethodName)) (z := (⟨"com/example/threshold/threshold/PostingList", "holdsAt", "(II)Z"⟩ : MethodName)) hown (mvT hZ (hw _ (List.mem_of_getElem? (i := 18) rfl))) (mvT hZ (hw _ (List.mem_of_getElem? (i := 19) rfl))) (notFace_of_selects (args := #[]) (mvT hZ (hw _ (List.mem_of_getElem? (i := 21) rfl)))) (mvT hZ (hw _ (List.mem_of_getElem? (i := 21) rfl))) (mvT hZ (hw _ (List.mem_of_getElem? (i := 20) rfl))) (by decide) (backOf (W := 0) (rmA l Z a0 hw [] b71 (0 : Int32) pq b62 k62 (2 : Int32) ([(.int pa), (.int pb)] : List Value) pa T76.heap n0 Fc76_0 (((V67.ext E68).ext E71).keep Kc76 (ninS (ne_b62_b71) nin0)) rfl (by decide)) hZ (hw _ (List.mem_of_getElem? (i := 22) rfl)) (hw _ (List.mem_of_getElem? (i := 3) rfl)) (by decide) (by decide)) q79a q79c (g := (mkF m 149 #[iv ps, iv pe, iv pa, iv pb, iv pd, iv pq, iv 2, rv b62, rv b63, rv b68, iv 0, iv pq, rv b71, iv 1] [(.int pq), (.int 0), (.ref b71)])) rfl (by rw [hml]; rfl) (Steps.refl _) (argsL := [(.int 0), (.int pq)]) (rest := []) (lenOf pd_1 rfl) rfl (by show 2 * 0 + _ ≤ _; exact Nat.le_of_eq rfl) (hb hby at_149) (fun _ _ => ⟨rfl, e77, (by decide : 4 + 0 ≤ _), (by decide : 9 + 0 ≤ _)⟩)
          dsimp only [Pt.U, Pt.locs, Pt.cells, Pt.slots] at X79 l79 y79 z79 st79 hQ79
          subst l79 y79 z79
          obtain ⟨hv79, N79q, e79⟩ := hQ79
          rw [(show (own_hold (0 : Int32) (2 : Int32) pq pa) = (1 : Int32) from by rw [own_hold, if_pos (by decide), if_pos hc133_78])] at hv79; subst hv79
          have N79 := Fr.app N77 N79q
          refine Go.pull (V := T79.setTop (mkF m 152 #[iv ps, iv pe, iv pa, iv pb, iv pd, iv pq, iv 2, rv b62, rv b63, rv b68, iv 0, iv pq, rv b71, iv 1] [(.int 1)])) (fun _ k => st79.trans k) ?_
          refine Go.pull (V := T79.setTop (mkF m 154 #[iv ps, iv pe, iv pa, iv pb, iv pd, iv pq, iv 2, rv b62, rv b63, rv b68, iv 0, iv pq, rv b71, iv 1] [(.int 1), (.int 1)])) (fun t k => XS.iload X79.here hx rfl (hb hby at_152) rfl  k) ?_
          refine Go.pull (V := T79.setTop (mkF m 157 #[iv ps, iv pe, iv pa, iv pb, iv pd, iv pq, iv 2, rv b62, rv b63, rv b68, iv 0, iv pq, rv b71, iv 1] [])) (fun t k => XS.icmpNo X79.here hx rfl (hb hby at_154) rfl (XT.ii_ne_f (by decide)) k) ?_
          refine Go.pull (V := T79.setTop (mkF m 158 #[iv ps, iv pe, iv pa, iv pb, iv pd, iv pq, iv 2, rv b62, rv b63, rv b68, iv 0, iv pq, rv b71, iv 1] [(.int 1)])) (fun t k => XS.iconst X79.here hx rfl (hb hby at_157) k) ?_
          refine Go.pull (V := T79.setTop (mkF m 162 #[iv ps, iv pe, iv pa, iv pb, iv pd, iv pq, iv 2, rv b62, rv b63, rv b68, iv 0, iv pq, rv b71, iv 1] [(.int 1)])) (fun t k => XS.goto X79.here hx rfl (pc0 := 158) (pc' := 162) rfl (hb hby at_158) (by decide) (by decide) k) ?_
          exact Go.retN X79 hx Bd.notSynchronized (t := .boolean) Bd.returns (by simp) (hb hby at_162) ⟨rfl, N79⟩ (by decide) (by decide)
        · skip
          refine Go.pull (V := T77.setTop (mkF m 140 #[iv ps, iv pe, iv pa, iv pb, iv pd, iv pq, iv 2, rv b62, rv b63, rv b68, iv 0, iv pq, rv b71, .unset] [])) (fun t k => XS.icmpYes X77.here hx rfl (pc0 := 133) (pc' := 140) rfl (hb hby at_133) rfl (XT.ii_ne_t hc133_78) (by decide) (by decide) k) ?_
          refine Go.pull (V := T77.setTop (mkF m 141 #[iv ps, iv pe, iv pa, iv pb, iv pd, iv pq, iv 2, rv b62, rv b63, rv b68, iv 0, iv pq, rv b71, .unset] [(.int 0)])) (fun t k => XS.iconst X77.here hx rfl (hb hby at_140) k) ?_
          refine Go.pull (V := T77.setTop (mkF m 143 #[iv ps, iv pe, iv pa, iv pb, iv pd, iv pq, iv 2, rv b62, rv b63, rv b68, iv 0, iv pq, rv b71, iv 0] [])) (fun t k => XS.istore X77.here hx rfl (hb hby at_141) rfl (l' := #[iv ps, iv pe, iv pa, iv pb, iv pd, iv pq, iv 2, rv b62, rv b63, rv b68, iv 0, iv pq, rv b71, iv 0]) rfl k) ?_
          refine Go.pull (V := T77.setTop (mkF m 145 #[iv ps, iv pe, iv pa, iv pb, iv pd, iv pq, iv 2, rv b62, rv b63, rv b68, iv 0, iv pq, rv b71, iv 0] [(.ref b71)])) (fun t k => XS.aload X77.here hx rfl (hb hby at_143) rfl rfl k) ?_
          refine Go.pull (V := T77.setTop (mkF m 147 #[iv ps, iv pe, iv pa, iv pb, iv pd, iv pq, iv 2, rv b62, rv b63, rv b68, iv 0, iv pq, rv b71, iv 0] [(.int 0), (.ref b71)])) (fun t k => XS.iload X77.here hx rfl (hb hby at_145) rfl  k) ?_
          refine Go.pull (V := T77.setTop (mkF m 149 #[iv ps, iv pe, iv pa, iv pb, iv pd, iv pq, iv 2, rv b62, rv b63, rv b68, iv 0, iv pq, rv b71, iv 0] [(.int pq), (.int 0), (.ref b71)])) (fun t k => XS.iload X77.here hx rfl (hb hby at_147) rfl  k) ?_
          obtain ⟨cq80, kq80, q80a, q80b, q80c⟩ := isOf hZ e77 (A71.keep Kc76)
          obtain ⟨_, _, ⟨T80, L80, k80, n80⟩, -, X80, ⟨Lc80, hQ80, l80, y80, z80⟩, st80⟩ := X77.virtualBack hx (y := (⟨"com/example/threshold/threshold/PostingList", "holdsAt", "(II)Z"⟩ : MethodName)) (z := (⟨"com/example/threshold/threshold/PostingList", "holdsAt", "(II)Z"⟩ : MethodName)) hown (mvT hZ (hw _ (List.mem_of_getElem? (i := 18) rfl))) (mvT hZ (hw _ (List.mem_of_getElem? (i := 19) rfl))) (notFace_of_selects (args := #[]) (mvT hZ (hw _ (List.mem_of_getElem? (i := 21) rfl)))) (mvT hZ (hw _ (List.mem_of_getElem? (i := 21) rfl))) (mvT hZ (hw _ (List.mem_of_getElem? (i := 20) rfl))) (by decide) (backOf (W := 0) (rmA l Z a0 hw [] b71 (0 : Int32) pq b62 k62 (2 : Int32) ([(.int pa), (.int pb)] : List Value) pa T76.heap n0 Fc76_0 (((V67.ext E68).ext E71).keep Kc76 (ninS (ne_b62_b71) nin0)) rfl (by decide)) hZ (hw _ (List.mem_of_getElem? (i := 22) rfl)) (hw _ (List.mem_of_getElem? (i := 3) rfl)) (by decide) (by decide)) q80a q80c (g := (mkF m 149 #[iv ps, iv pe, iv pa, iv pb, iv pd, iv pq, iv 2, rv b62, rv b63, rv b68, iv 0, iv pq, rv b71, iv 0] [(.int pq), (.int 0), (.ref b71)])) rfl (by rw [hml]; rfl) (Steps.refl _) (argsL := [(.int 0), (.int pq)]) (rest := []) (lenOf pd_1 rfl) rfl (by show 2 * 0 + _ ≤ _; exact Nat.le_of_eq rfl) (hb hby at_149) (fun _ _ => ⟨rfl, e77, (by decide : 4 + 0 ≤ _), (by decide : 9 + 0 ≤ _)⟩)
          dsimp only [Pt.U, Pt.locs, Pt.cells, Pt.slots] at X80 l80 y80 z80 st80 hQ80
          subst l80 y80 z80
          obtain ⟨hv80, N80q, e80⟩ := hQ80
          rw [(show (own_hold (0 : Int32) (2 : Int32) pq pa) = (0 : Int32) from by rw [own_hold, if_pos (by decide), if_neg hc133_78])] at hv80; subst hv80
          have N80 := Fr.app N77 N80q
          refine Go.pull (V := T80.setTop (mkF m 152 #[iv ps, iv pe, iv pa, iv pb, iv pd, iv pq, iv 2, rv b62, rv b63, rv b68, iv 0, iv pq, rv b71, iv 0] [(.int 0)])) (fun _ k => st80.trans k) ?_
          refine Go.pull (V := T80.setTop (mkF m 154 #[iv ps, iv pe, iv pa, iv pb, iv pd, iv pq, iv 2, rv b62, rv b63, rv b68, iv 0, iv pq, rv b71, iv 0] [(.int 0), (.int 0)])) (fun t k => XS.iload X80.here hx rfl (hb hby at_152) rfl  k) ?_
          refine Go.pull (V := T80.setTop (mkF m 157 #[iv ps, iv pe, iv pa, iv pb, iv pd, iv pq, iv 2, rv b62, rv b63, rv b68, iv 0, iv pq, rv b71, iv 0] [])) (fun t k => XS.icmpNo X80.here hx rfl (hb hby at_154) rfl (XT.ii_ne_f (by decide)) k) ?_
          refine Go.pull (V := T80.setTop (mkF m 158 #[iv ps, iv pe, iv pa, iv pb, iv pd, iv pq, iv 2, rv b62, rv b63, rv b68, iv 0, iv pq, rv b71, iv 0] [(.int 1)])) (fun t k => XS.iconst X80.here hx rfl (hb hby at_157) k) ?_
          refine Go.pull (V := T80.setTop (mkF m 162 #[iv ps, iv pe, iv pa, iv pb, iv pd, iv pq, iv 2, rv b62, rv b63, rv b68, iv 0, iv pq, rv b71, iv 0] [(.int 1)])) (fun t k => XS.goto X80.here hx rfl (pc0 := 158) (pc' := 162) rfl (hb hby at_158) (by decide) (by decide) k) ?_
          exact Go.retN X80 hx Bd.notSynchronized (t := .boolean) Bd.returns (by simp) (hb hby at_162) ⟨rfl, N80⟩ (by decide) (by decide)
      · skip
        refine Go.pull (V := T68.setTop (mkF m 75 #[iv ps, iv pe, iv pa, iv pb, iv pd, iv pq, iv 2, rv b62, rv b63, rv b68, iv 0, iv pq, .unset, .unset] [])) (fun t k => XS.ifNo X68.here hx rfl (hb hby at_72) rfl (XT.i0_eq_f hc72_70) k) ?_
        refine Go.pull (V := T68.setTop (mkF m 77 #[iv ps, iv pe, iv pa, iv pb, iv pd, iv pq, iv 2, rv b62, rv b63, rv b68, iv 0, iv pq, .unset, .unset] [(.int 0)])) (fun t k => XS.iload X68.here hx rfl (hb hby at_75) rfl  k) ?_
        refine Go.pull (V := T68.setTop (mkF m 79 #[iv ps, iv pe, iv pa, iv pb, iv pd, iv pq, iv 2, rv b62, rv b63, rv b68, iv 0, iv pq, .unset, .unset] [(.int 2), (.int 0)])) (fun t k => XS.iload X68.here hx rfl (hb hby at_77) rfl  k) ?_
        refine Go.pull (V := T68.setTop (mkF m 82 #[iv ps, iv pe, iv pa, iv pb, iv pd, iv pq, iv 2, rv b62, rv b63, rv b68, iv 0, iv pq, .unset, .unset] [])) (fun t k => XS.icmpNo X68.here hx rfl (hb hby at_79) rfl (XT.ii_ge_f (by decide)) k) ?_
        refine Go.pull (V := T68.setTop (mkF m 84 #[iv ps, iv pe, iv pa, iv pb, iv pd, iv pq, iv 2, rv b62, rv b63, rv b68, iv 0, iv pq, .unset, .unset] [(.int 0)])) (fun t k => XS.iload X68.here hx rfl (hb hby at_82) rfl  k) ?_
        refine Go.pull (V := T68.setTop (mkF m 85 #[iv ps, iv pe, iv pa, iv pb, iv pd, iv pq, iv 2, rv b62, rv b63, rv b68, iv 0, iv pq, .unset, .unset] [(.int pa), (.int 0)])) (fun t k => XS.iloadN X68.here hx rfl (hb hby at_84) rfl  k) ?_
        refine Go.pull (V := T68.setTop (mkF m 86 #[iv ps, iv pe, iv pa, iv pb, iv pd, iv pq, iv 2, rv b62, rv b63, rv b68, iv 0, iv pq, .unset, .unset] [(.int pb), (.int pa), (.int 0)])) (fun t k => XS.iloadN X68.here hx rfl (hb hby at_85) rfl  k) ?_
        refine Go.pull (V := T68.setTop (mkF m 88 #[iv ps, iv pe, iv pa, iv pb, iv pd, iv pq, iv 2, rv b62, rv b63, rv b68, iv 0, iv pq, .unset, .unset] [(.int pd), (.int pb), (.int pa), (.int 0)])) (fun t k => XS.iload X68.here hx rfl (hb hby at_86) rfl  k) ?_
        obtain ⟨_, _, ⟨T81, L81, k81, n81⟩, -, X81, ⟨Lc81, hQ81, l81, y81, z81⟩, st81⟩ := Jvm.LawKit.callS X68 hx (y := (⟨"com/example/threshold/threshold/PostingListHoldsAtPinLaw", "at", "(IIII)I"⟩ : MethodName)) hown (mvT hZ (hw _ (List.mem_of_getElem? (i := 23) rfl))) (mvT hZ (hw _ (List.mem_of_getElem? (i := 24) rfl))) (mvT hZ (hw _ (List.mem_of_getElem? (i := 25) rfl))) (mvT hZ (hw _ (List.mem_of_getElem? (i := 26) rfl))) (by decide) (backOf (W := 0) (rmT l Z a0 hw [] (0 : Int32) pa pb pd h68 n0 ) hZ (hw _ (List.mem_of_getElem? (i := 26) rfl)) (hw _ (List.mem_of_getElem? (i := 25) rfl)) (by decide) (by decide)) (g := (mkF m 88 #[iv ps, iv pe, iv pa, iv pb, iv pd, iv pq, iv 2, rv b62, rv b63, rv b68, iv 0, iv pq, .unset, .unset] [(.int pd), (.int pb), (.int pa), (.int 0)])) rfl (by rw [hml]; rfl) (argsL := [(.int 0), (.int pa), (.int pb), (.int pd)]) (rest := []) (lenOf pd_2 rfl) rfl (by show 2 * 0 + _ ≤ _; exact Nat.le_of_eq rfl) (hb hby at_88) (fun _ _ => ⟨rfl, e68, (by decide : 3 + 0 ≤ _), (by decide : 4 + 0 ≤ _)⟩)
        dsimp only [Pt.U, Pt.locs, Pt.cells, Pt.slots] at X81 l81 y81 z81 st81 hQ81
        subst l81 y81 z81
        obtain ⟨hv81, N81q, e81⟩ := hQ81
        rw [(show (own_at (0 : Int32) pa pb pd) = pa from by rw [own_at, if_pos rfl])] at hv81; subst hv81
        have N81 := Fr.app N67 N81q
        refine Go.pull (V := T81.setTop (mkF m 91 #[iv ps, iv pe, iv pa, iv pb, iv pd, iv pq, iv 2, rv b62, rv b63, rv b68, iv 0, iv pq, .unset, .unset] [(.int pa)])) st81 ?_
        refine Go.pull (V := T81.setTop (mkF m 93 #[iv ps, iv pe, iv pa, iv pb, iv pd, iv pq, iv 2, rv b62, rv b63, rv b68, iv 0, iv pa, .unset, .unset] [])) (fun t k => XS.istore X81.here hx rfl (hb hby at_91) rfl (l' := #[iv ps, iv pe, iv pa, iv pb, iv pd, iv pq, iv 2, rv b62, rv b63, rv b68, iv 0, iv pa, .unset, .unset]) rfl k) ?_
        obtain ⟨T82, h82, X82, e82, E82, A82, D82, -, st82⟩ := newO X81 hx hZ hown (hw _ (List.mem_of_getElem? (i := 1) rfl)) (hw _ (List.mem_of_getElem? (i := 2) rfl)) (hw _ (List.mem_of_getElem? (i := 3) rfl)) e81 (g := (mkF m 93 #[iv ps, iv pe, iv pa, iv pb, iv pd, iv pq, iv 2, rv b62, rv b63, rv b68, iv 0, iv pa, .unset, .unset] [])) rfl (hb hby at_93) (by decide) (by decide)
        obtain ⟨b82, g82⟩ : ∃ z, z = h68.size := ⟨_, rfl⟩
        rw [← g82] at A82 D82 st82
        have ne_b62_b82 : b62 ≠ b82 := Nat.ne_of_lt (Nat.lt_of_lt_of_le (V67.ext E68).lt (Nat.le_of_eq g82.symm))
        have ne_b63_b82 : b63 ≠ b82 := Nat.ne_of_lt (Nat.lt_of_lt_of_le (((V63.other W65 (Ne.symm (ne_b62_b63))).other W67 (Ne.symm (ne_b62_b63))).ext E68).lt (Nat.le_of_eq g82.symm))
        have ne_b68_b82 : b68 ≠ b82 := Nat.ne_of_lt (Nat.lt_of_lt_of_le V68.lt (Nat.le_of_eq g82.symm))
        have sz_b82 : h0.size ≤ b82 := Nat.le_trans (K68).1 (Nat.le_of_eq g82.symm)
        have g_b82 : n0 ≤ b82 := Nat.le_trans Z0 sz_b82
        have K82 : Keep h0 h82 [] := K68.ext E82
        have F83 : Fld Z h82 b82 "com/example/threshold/threshold/PostingList" "documents" "[I" .null := D82 (Or.inr (hw _ (List.mem_of_getElem? (i := 11) rfl))) (ty := (.array .int)) (by decide)
        have F84 : Fld Z h82 b82 "com/example/threshold/threshold/PostingList" "counts" "[I" .null := D82 (Or.inr (hw _ (List.mem_of_getElem? (i := 13) rfl))) (ty := (.array .int)) (by decide)
        have F85 : Fld Z h82 b82 "com/example/threshold/threshold/PostingList" "collectionFrequency" "J" (.long 0) := D82 (Or.inr (hw _ (List.mem_of_getElem? (i := 15) rfl))) (ty := .long) (by decide)
        have F86 : Fld Z h82 b82 "com/example/threshold/threshold/PostingList" "lengths" "[I" .null := D82 (Or.inr (hw _ (List.mem_of_getElem? (i := 17) rfl))) (ty := (.array .int)) (by decide)
        refine Go.pull (V := T82.setTop (mkF m 96 #[iv ps, iv pe, iv pa, iv pb, iv pd, iv pq, iv 2, rv b62, rv b63, rv b68, iv 0, iv pa, .unset, .unset] [(.ref b82)])) st82 ?_
        refine Go.pull (V := T82.setTop (mkF m 97 #[iv ps, iv pe, iv pa, iv pb, iv pd, iv pq, iv 2, rv b62, rv b63, rv b68, iv 0, iv pa, .unset, .unset] [(.ref b82), (.ref b82)])) (fun t k => XS.dup X82.here hx rfl (hb hby at_96) rfl rfl k) ?_
        refine Go.pull (V := T82.setTop (mkF m 99 #[iv ps, iv pe, iv pa, iv pb, iv pd, iv pq, iv 2, rv b62, rv b63, rv b68, iv 0, iv pa, .unset, .unset] [(.ref b62), (.ref b82), (.ref b82)])) (fun t k => XS.aload X82.here hx rfl (hb hby at_97) rfl rfl k) ?_
        refine Go.pull (V := T82.setTop (mkF m 101 #[iv ps, iv pe, iv pa, iv pb, iv pd, iv pq, iv 2, rv b62, rv b63, rv b68, iv 0, iv pa, .unset, .unset] [(.ref b63), (.ref b62), (.ref b82), (.ref b82)])) (fun t k => XS.aload X82.here hx rfl (hb hby at_99) rfl rfl k) ?_
        refine Go.pull (V := T82.setTop (mkF m 102 #[iv ps, iv pe, iv pa, iv pb, iv pd, iv pq, iv 2, rv b62, rv b63, rv b68, iv 0, iv pa, .unset, .unset] [(.long 0), (.ref b63), (.ref b62), (.ref b82), (.ref b82)])) (fun t k => XS.lconst X82.here hx rfl (hb hby at_101) k) ?_
        refine Go.pull (V := T82.setTop (mkF m 104 #[iv ps, iv pe, iv pa, iv pb, iv pd, iv pq, iv 2, rv b62, rv b63, rv b68, iv 0, iv pa, .unset, .unset] [(.ref b68), (.long 0), (.ref b63), (.ref b62), (.ref b82), (.ref b82)])) (fun t k => XS.aload X82.here hx rfl (hb hby at_102) rfl rfl k) ?_
        obtain ⟨_, _, ⟨T87, L87, k87, n87⟩, -, X87, ⟨Lc87, hQ87, l87, y87, z87⟩, st87⟩ := X82.specialBack hx (y := (⟨"com/example/threshold/threshold/PostingList", "<init>", "([I[IJ[I)V"⟩ : MethodName)) rfl hown (mvT hZ (hw _ (List.mem_of_getElem? (i := 4) rfl))) (mvT hZ (hw _ (List.mem_of_getElem? (i := 5) rfl))) (mvT hZ (hw _ (List.mem_of_getElem? (i := 6) rfl))) (by decide) (backOf (W := 1) (rmI l Z a0 hw [] b82 b62 b63 (0 : Int64) b68 .null .null (.long 0) .null h82 n0 (g_b82) A82 F83 F84 F85 F86) hZ (hw _ (List.mem_of_getElem? (i := 6) rfl)) (hw _ (List.mem_of_getElem? (i := 3) rfl)) (by decide) (by decide)) (g := (mkF m 104 #[iv ps, iv pe, iv pa, iv pb, iv pd, iv pq, iv 2, rv b62, rv b63, rv b68, iv 0, iv pa, .unset, .unset] [(.ref b68), (.long 0), (.ref b63), (.ref b62), (.ref b82), (.ref b82)])) rfl (by rw [hml]; rfl) (Steps.refl _) (a := b82) (argsL := [(.ref b62), (.ref b63), (.long 0), (.ref b68)]) (rest := [(.ref b82)]) (lenOf pd_0 rfl) rfl (by show 2 * 0 + _ ≤ _; exact Nat.le_of_eq rfl) (hb hby at_104) (fun _ _ => ⟨rfl, e82, (by decide : 4 + 0 ≤ _), (by decide : 9 + 0 ≤ _)⟩)
        dsimp only [Pt.U, Pt.locs, Pt.cells, Pt.slots] at X87 l87 y87 z87 st87 hQ87
        subst l87 y87 z87
        obtain ⟨rfl, N87q, Kc87, Fc87_0⟩ := hQ87
        have K87 : Keep h0 T87.heap [] := K82.trans Kc87 ((allS (Or.inr sz_b82) all0))
        have N87 := Fr.app N81 N87q
        refine Go.pull (V := T87.setTop (mkF m 107 #[iv ps, iv pe, iv pa, iv pb, iv pd, iv pq, iv 2, rv b62, rv b63, rv b68, iv 0, iv pa, .unset, .unset] [(.ref b82)])) (fun _ k => st87.trans k) ?_
        refine Go.pull (V := T87.setTop (mkF m 109 #[iv ps, iv pe, iv pa, iv pb, iv pd, iv pq, iv 2, rv b62, rv b63, rv b68, iv 0, iv pa, rv b82, .unset] [])) (fun t k => XS.astore X87.here hx rfl (hb hby at_107) rfl rfl (l' := #[iv ps, iv pe, iv pa, iv pb, iv pd, iv pq, iv 2, rv b62, rv b63, rv b68, iv 0, iv pa, rv b82, .unset]) rfl k) ?_
        refine Go.pull (V := T87.setTop (mkF m 111 #[iv ps, iv pe, iv pa, iv pb, iv pd, iv pq, iv 2, rv b62, rv b63, rv b68, iv 0, iv pa, rv b82, .unset] [(.int 0)])) (fun t k => XS.iload X87.here hx rfl (hb hby at_109) rfl  k) ?_
        refine Go.pull (V := T87.setTop (mkF m 113 #[iv ps, iv pe, iv pa, iv pb, iv pd, iv pq, iv 2, rv b62, rv b63, rv b68, iv 0, iv pa, rv b82, .unset] [(.int 2), (.int 0)])) (fun t k => XS.iload X87.here hx rfl (hb hby at_111) rfl  k) ?_
        refine Go.pull (V := T87.setTop (mkF m 122 #[iv ps, iv pe, iv pa, iv pb, iv pd, iv pq, iv 2, rv b62, rv b63, rv b68, iv 0, iv pa, rv b82, .unset] [])) (fun t k => XS.icmpYes X87.here hx rfl (pc0 := 113) (pc' := 122) rfl (hb hby at_113) rfl (XT.ii_lt_t (by decide)) (by decide) (by decide) k) ?_
        refine Go.pull (V := T87.setTop (mkF m 124 #[iv ps, iv pe, iv pa, iv pb, iv pd, iv pq, iv 2, rv b62, rv b63, rv b68, iv 0, iv pa, rv b82, .unset] [(.int 0)])) (fun t k => XS.iload X87.here hx rfl (hb hby at_122) rfl  k) ?_
        refine Go.pull (V := T87.setTop (mkF m 125 #[iv ps, iv pe, iv pa, iv pb, iv pd, iv pq, iv 2, rv b62, rv b63, rv b68, iv 0, iv pa, rv b82, .unset] [(.int pa), (.int 0)])) (fun t k => XS.iloadN X87.here hx rfl (hb hby at_124) rfl  k) ?_
        refine Go.pull (V := T87.setTop (mkF m 126 #[iv ps, iv pe, iv pa, iv pb, iv pd, iv pq, iv 2, rv b62, rv b63, rv b68, iv 0, iv pa, rv b82, .unset] [(.int pb), (.int pa), (.int 0)])) (fun t k => XS.iloadN X87.here hx rfl (hb hby at_125) rfl  k) ?_
        refine Go.pull (V := T87.setTop (mkF m 128 #[iv ps, iv pe, iv pa, iv pb, iv pd, iv pq, iv 2, rv b62, rv b63, rv b68, iv 0, iv pa, rv b82, .unset] [(.int pd), (.int pb), (.int pa), (.int 0)])) (fun t k => XS.iload X87.here hx rfl (hb hby at_126) rfl  k) ?_
        obtain ⟨_, _, ⟨T88, L88, k88, n88⟩, -, X88, ⟨Lc88, hQ88, l88, y88, z88⟩, st88⟩ := Jvm.LawKit.callS X87 hx (y := (⟨"com/example/threshold/threshold/PostingListHoldsAtPinLaw", "at", "(IIII)I"⟩ : MethodName)) hown (mvT hZ (hw _ (List.mem_of_getElem? (i := 23) rfl))) (mvT hZ (hw _ (List.mem_of_getElem? (i := 24) rfl))) (mvT hZ (hw _ (List.mem_of_getElem? (i := 25) rfl))) (mvT hZ (hw _ (List.mem_of_getElem? (i := 26) rfl))) (by decide) (backOf (W := 0) (rmT l Z a0 hw [] (0 : Int32) pa pb pd T87.heap n0 ) hZ (hw _ (List.mem_of_getElem? (i := 26) rfl)) (hw _ (List.mem_of_getElem? (i := 25) rfl)) (by decide) (by decide)) (g := (mkF m 128 #[iv ps, iv pe, iv pa, iv pb, iv pd, iv pq, iv 2, rv b62, rv b63, rv b68, iv 0, iv pa, rv b82, .unset] [(.int pd), (.int pb), (.int pa), (.int 0)])) rfl (by rw [hml]; rfl) (argsL := [(.int 0), (.int pa), (.int pb), (.int pd)]) (rest := []) (lenOf pd_2 rfl) rfl (by show 2 * 0 + _ ≤ _; exact Nat.le_of_eq rfl) (hb hby at_128) (fun _ _ => ⟨rfl, rfl, (by decide : 4 + 0 ≤ _), (by decide : 9 + 0 ≤ _)⟩)
        dsimp only [Pt.U, Pt.locs, Pt.cells, Pt.slots] at X88 l88 y88 z88 st88 hQ88
        subst l88 y88 z88
        obtain ⟨hv88, N88q, e88⟩ := hQ88
        rw [(show (own_at (0 : Int32) pa pb pd) = pa from by rw [own_at, if_pos rfl])] at hv88; subst hv88
        have N88 := Fr.app N87 N88q
        refine Go.pull (V := T88.setTop (mkF m 131 #[iv ps, iv pe, iv pa, iv pb, iv pd, iv pq, iv 2, rv b62, rv b63, rv b68, iv 0, iv pa, rv b82, .unset] [(.int pa)])) st88 ?_
        refine Go.pull (V := T88.setTop (mkF m 133 #[iv ps, iv pe, iv pa, iv pb, iv pd, iv pq, iv 2, rv b62, rv b63, rv b68, iv 0, iv pa, rv b82, .unset] [(.int pa), (.int pa)])) (fun t k => XS.iload X88.here hx rfl (hb hby at_131) rfl  k) ?_
        refine Go.pull (V := T88.setTop (mkF m 136 #[iv ps, iv pe, iv pa, iv pb, iv pd, iv pq, iv 2, rv b62, rv b63, rv b68, iv 0, iv pa, rv b82, .unset] [])) (fun t k => XS.icmpNo X88.here hx rfl (hb hby at_133) rfl (XT.ii_ne_f rfl) k) ?_
        refine Go.pull (V := T88.setTop (mkF m 137 #[iv ps, iv pe, iv pa, iv pb, iv pd, iv pq, iv 2, rv b62, rv b63, rv b68, iv 0, iv pa, rv b82, .unset] [(.int 1)])) (fun t k => XS.iconst X88.here hx rfl (hb hby at_136) k) ?_
        refine Go.pull (V := T88.setTop (mkF m 141 #[iv ps, iv pe, iv pa, iv pb, iv pd, iv pq, iv 2, rv b62, rv b63, rv b68, iv 0, iv pa, rv b82, .unset] [(.int 1)])) (fun t k => XS.goto X88.here hx rfl (pc0 := 137) (pc' := 141) rfl (hb hby at_137) (by decide) (by decide) k) ?_
        refine Go.pull (V := T88.setTop (mkF m 143 #[iv ps, iv pe, iv pa, iv pb, iv pd, iv pq, iv 2, rv b62, rv b63, rv b68, iv 0, iv pa, rv b82, iv 1] [])) (fun t k => XS.istore X88.here hx rfl (hb hby at_141) rfl (l' := #[iv ps, iv pe, iv pa, iv pb, iv pd, iv pq, iv 2, rv b62, rv b63, rv b68, iv 0, iv pa, rv b82, iv 1]) rfl k) ?_
        refine Go.pull (V := T88.setTop (mkF m 145 #[iv ps, iv pe, iv pa, iv pb, iv pd, iv pq, iv 2, rv b62, rv b63, rv b68, iv 0, iv pa, rv b82, iv 1] [(.ref b82)])) (fun t k => XS.aload X88.here hx rfl (hb hby at_143) rfl rfl k) ?_
        refine Go.pull (V := T88.setTop (mkF m 147 #[iv ps, iv pe, iv pa, iv pb, iv pd, iv pq, iv 2, rv b62, rv b63, rv b68, iv 0, iv pa, rv b82, iv 1] [(.int 0), (.ref b82)])) (fun t k => XS.iload X88.here hx rfl (hb hby at_145) rfl  k) ?_
        refine Go.pull (V := T88.setTop (mkF m 149 #[iv ps, iv pe, iv pa, iv pb, iv pd, iv pq, iv 2, rv b62, rv b63, rv b68, iv 0, iv pa, rv b82, iv 1] [(.int pa), (.int 0), (.ref b82)])) (fun t k => XS.iload X88.here hx rfl (hb hby at_147) rfl  k) ?_
        obtain ⟨cq89, kq89, q89a, q89b, q89c⟩ := isOf hZ e88 (A82.keep Kc87)
        obtain ⟨_, _, ⟨T89, L89, k89, n89⟩, -, X89, ⟨Lc89, hQ89, l89, y89, z89⟩, st89⟩ := X88.virtualBack hx (y := (⟨"com/example/threshold/threshold/PostingList", "holdsAt", "(II)Z"⟩ : MethodName)) (z := (⟨"com/example/threshold/threshold/PostingList", "holdsAt", "(II)Z"⟩ : MethodName)) hown (mvT hZ (hw _ (List.mem_of_getElem? (i := 18) rfl))) (mvT hZ (hw _ (List.mem_of_getElem? (i := 19) rfl))) (notFace_of_selects (args := #[]) (mvT hZ (hw _ (List.mem_of_getElem? (i := 21) rfl)))) (mvT hZ (hw _ (List.mem_of_getElem? (i := 21) rfl))) (mvT hZ (hw _ (List.mem_of_getElem? (i := 20) rfl))) (by decide) (backOf (W := 0) (rmA l Z a0 hw [] b82 (0 : Int32) pa b62 k62 (2 : Int32) ([(.int pa), (.int pb)] : List Value) pa T87.heap n0 Fc87_0 (((V67.ext E68).ext E82).keep Kc87 (ninS (ne_b62_b82) nin0)) rfl (by decide)) hZ (hw _ (List.mem_of_getElem? (i := 22) rfl)) (hw _ (List.mem_of_getElem? (i := 3) rfl)) (by decide) (by decide)) q89a q89c (g := (mkF m 149 #[iv ps, iv pe, iv pa, iv pb, iv pd, iv pq, iv 2, rv b62, rv b63, rv b68, iv 0, iv pa, rv b82, iv 1] [(.int pa), (.int 0), (.ref b82)])) rfl (by rw [hml]; rfl) (Steps.refl _) (argsL := [(.int 0), (.int pa)]) (rest := []) (lenOf pd_1 rfl) rfl (by show 2 * 0 + _ ≤ _; exact Nat.le_of_eq rfl) (hb hby at_149) (fun _ _ => ⟨rfl, e88, (by decide : 4 + 0 ≤ _), (by decide : 9 + 0 ≤ _)⟩)
        dsimp only [Pt.U, Pt.locs, Pt.cells, Pt.slots] at X89 l89 y89 z89 st89 hQ89
        subst l89 y89 z89
        obtain ⟨hv89, N89q, e89⟩ := hQ89
        rw [(show (own_hold (0 : Int32) (2 : Int32) pa pa) = (1 : Int32) from by rw [own_hold, if_pos (by decide), if_pos rfl])] at hv89; subst hv89
        have N89 := Fr.app N88 N89q
        refine Go.pull (V := T89.setTop (mkF m 152 #[iv ps, iv pe, iv pa, iv pb, iv pd, iv pq, iv 2, rv b62, rv b63, rv b68, iv 0, iv pa, rv b82, iv 1] [(.int 1)])) (fun _ k => st89.trans k) ?_
        refine Go.pull (V := T89.setTop (mkF m 154 #[iv ps, iv pe, iv pa, iv pb, iv pd, iv pq, iv 2, rv b62, rv b63, rv b68, iv 0, iv pa, rv b82, iv 1] [(.int 1), (.int 1)])) (fun t k => XS.iload X89.here hx rfl (hb hby at_152) rfl  k) ?_
        refine Go.pull (V := T89.setTop (mkF m 157 #[iv ps, iv pe, iv pa, iv pb, iv pd, iv pq, iv 2, rv b62, rv b63, rv b68, iv 0, iv pa, rv b82, iv 1] [])) (fun t k => XS.icmpNo X89.here hx rfl (hb hby at_154) rfl (XT.ii_ne_f (by decide)) k) ?_
        refine Go.pull (V := T89.setTop (mkF m 158 #[iv ps, iv pe, iv pa, iv pb, iv pd, iv pq, iv 2, rv b62, rv b63, rv b68, iv 0, iv pa, rv b82, iv 1] [(.int 1)])) (fun t k => XS.iconst X89.here hx rfl (hb hby at_157) k) ?_
        refine Go.pull (V := T89.setTop (mkF m 162 #[iv ps, iv pe, iv pa, iv pb, iv pd, iv pq, iv 2, rv b62, rv b63, rv b68, iv 0, iv pa, rv b82, iv 1] [(.int 1)])) (fun t k => XS.goto X89.here hx rfl (pc0 := 158) (pc' := 162) rfl (hb hby at_158) (by decide) (by decide) k) ?_
        exact Go.retN X89 hx Bd.notSynchronized (t := .boolean) Bd.returns (by simp) (hb hby at_162) ⟨rfl, N89⟩ (by decide) (by decide)
    · subst hv69
      refine Go.pull (V := T68.setTop (mkF m 67 #[iv ps, iv pe, iv pa, iv pb, iv pd, iv pq, iv 2, rv b62, rv b63, rv b68, iv 1, .unset, .unset, .unset] [(.int pq)])) (fun t k => XS.iload X68.here hx rfl (hb hby at_65) rfl  k) ?_
      refine Go.pull (V := T68.setTop (mkF m 69 #[iv ps, iv pe, iv pa, iv pb, iv pd, iv pq, iv 2, rv b62, rv b63, rv b68, iv 1, iv pq, .unset, .unset] [])) (fun t k => XS.istore X68.here hx rfl (hb hby at_67) rfl (l' := #[iv ps, iv pe, iv pa, iv pb, iv pd, iv pq, iv 2, rv b62, rv b63, rv b68, iv 1, iv pq, .unset, .unset]) rfl k) ?_
      refine Go.pull (V := T68.setTop (mkF m 70 #[iv ps, iv pe, iv pa, iv pb, iv pd, iv pq, iv 2, rv b62, rv b63, rv b68, iv 1, iv pq, .unset, .unset] [(.int pe)])) (fun t k => XS.iloadN X68.here hx rfl (hb hby at_69) rfl  k) ?_
      refine Go.pull (V := T68.setTop (mkF m 71 #[iv ps, iv pe, iv pa, iv pb, iv pd, iv pq, iv 2, rv b62, rv b63, rv b68, iv 1, iv pq, .unset, .unset] [(.int 4), (.int pe)])) (fun t k => XS.iconst X68.here hx rfl (hb hby at_70) k) ?_
      refine Go.pull (V := T68.setTop (mkF m 72 #[iv ps, iv pe, iv pa, iv pb, iv pd, iv pq, iv 2, rv b62, rv b63, rv b68, iv 1, iv pq, .unset, .unset] [(.int (pe &&& (4 : Int32)))])) (fun t k => XS.iand X68.here hx rfl (hb hby at_71) rfl k) ?_
      by_cases hc72_90 : (pe &&& (4 : Int32)) = 0
      · skip
        refine Go.pull (V := T68.setTop (mkF m 93 #[iv ps, iv pe, iv pa, iv pb, iv pd, iv pq, iv 2, rv b62, rv b63, rv b68, iv 1, iv pq, .unset, .unset] [])) (fun t k => XS.ifYes X68.here hx rfl (pc0 := 72) (pc' := 93) rfl (hb hby at_72) rfl (XT.i0_eq_t hc72_90) (by decide) (by decide) k) ?_
        obtain ⟨T91, h91, X91, e91, E91, A91, D91, -, st91⟩ := newO X68 hx hZ hown (hw _ (List.mem_of_getElem? (i := 1) rfl)) (hw _ (List.mem_of_getElem? (i := 2) rfl)) (hw _ (List.mem_of_getElem? (i := 3) rfl)) e68 (g := (mkF m 93 #[iv ps, iv pe, iv pa, iv pb, iv pd, iv pq, iv 2, rv b62, rv b63, rv b68, iv 1, iv pq, .unset, .unset] [])) rfl (hb hby at_93) (by decide) (by decide)
        obtain ⟨b91, g91⟩ : ∃ z, z = h68.size := ⟨_, rfl⟩
        rw [← g91] at A91 D91 st91
        have ne_b62_b91 : b62 ≠ b91 := Nat.ne_of_lt (Nat.lt_of_lt_of_le (V67.ext E68).lt (Nat.le_of_eq g91.symm))
        have ne_b63_b91 : b63 ≠ b91 := Nat.ne_of_lt (Nat.lt_of_lt_of_le (((V63.other W65 (Ne.symm (ne_b62_b63))).other W67 (Ne.symm (ne_b62_b63))).ext E68).lt (Nat.le_of_eq g91.symm))
        have ne_b68_b91 : b68 ≠ b91 := Nat.ne_of_lt (Nat.lt_of_lt_of_le V68.lt (Nat.le_of_eq g91.symm))
        have sz_b91 : h0.size ≤ b91 := Nat.le_trans (K68).1 (Nat.le_of_eq g91.symm)
        have g_b91 : n0 ≤ b91 := Nat.le_trans Z0 sz_b91
        have K91 : Keep h0 h91 [] := K68.ext E91
        have F92 : Fld Z h91 b91 "com/example/threshold/threshold/PostingList" "documents" "[I" .null := D91 (Or.inr (hw _ (List.mem_of_getElem? (i := 11) rfl))) (ty := (.array .int)) (by decide)
        have F93 : Fld Z h91 b91 "com/example/threshold/threshold/PostingList" "counts" "[I" .null := D91 (Or.inr (hw _ (List.mem_of_getElem? (i := 13) rfl))) (ty := (.array .int)) (by decide)
        have F94 : Fld Z h91 b91 "com/example/threshold/threshold/PostingList" "collectionFrequency" "J" (.long 0) := D91 (Or.inr (hw _ (List.mem_of_getElem? (i := 15) rfl))) (ty := .long) (by decide)
        have F95 : Fld Z h91 b91 "com/example/threshold/threshold/PostingList" "lengths" "[I" .null := D91 (Or.inr (hw _ (List.mem_of_getElem? (i := 17) rfl))) (ty := (.array .int)) (by decide)
        refine Go.pull (V := T91.setTop (mkF m 96 #[iv ps, iv pe, iv pa, iv pb, iv pd, iv pq, iv 2, rv b62, rv b63, rv b68, iv 1, iv pq, .unset, .unset] [(.ref b91)])) st91 ?_
        refine Go.pull (V := T91.setTop (mkF m 97 #[iv ps, iv pe, iv pa, iv pb, iv pd, iv pq, iv 2, rv b62, rv b63, rv b68, iv 1, iv pq, .unset, .unset] [(.ref b91), (.ref b91)])) (fun t k => XS.dup X91.here hx rfl (hb hby at_96) rfl rfl k) ?_
        refine Go.pull (V := T91.setTop (mkF m 99 #[iv ps, iv pe, iv pa, iv pb, iv pd, iv pq, iv 2, rv b62, rv b63, rv b68, iv 1, iv pq, .unset, .unset] [(.ref b62), (.ref b91), (.ref b91)])) (fun t k => XS.aload X91.here hx rfl (hb hby at_97) rfl rfl k) ?_
        refine Go.pull (V := T91.setTop (mkF m 101 #[iv ps, iv pe, iv pa, iv pb, iv pd, iv pq, iv 2, rv b62, rv b63, rv b68, iv 1, iv pq, .unset, .unset] [(.ref b63), (.ref b62), (.ref b91), (.ref b91)])) (fun t k => XS.aload X91.here hx rfl (hb hby at_99) rfl rfl k) ?_
        refine Go.pull (V := T91.setTop (mkF m 102 #[iv ps, iv pe, iv pa, iv pb, iv pd, iv pq, iv 2, rv b62, rv b63, rv b68, iv 1, iv pq, .unset, .unset] [(.long 0), (.ref b63), (.ref b62), (.ref b91), (.ref b91)])) (fun t k => XS.lconst X91.here hx rfl (hb hby at_101) k) ?_
        refine Go.pull (V := T91.setTop (mkF m 104 #[iv ps, iv pe, iv pa, iv pb, iv pd, iv pq, iv 2, rv b62, rv b63, rv b68, iv 1, iv pq, .unset, .unset] [(.ref b68), (.long 0), (.ref b63), (.ref b62), (.ref b91), (.ref b91)])) (fun t k => XS.aload X91.here hx rfl (hb hby at_102) rfl rfl k) ?_
        obtain ⟨_, _, ⟨T96, L96, k96, n96⟩, -, X96, ⟨Lc96, hQ96, l96, y96, z96⟩, st96⟩ := X91.specialBack hx (y := (⟨"com/example/threshold/threshold/PostingList", "<init>", "([I[IJ[I)V"⟩ : MethodName)) rfl hown (mvT hZ (hw _ (List.mem_of_getElem? (i := 4) rfl))) (mvT hZ (hw _ (List.mem_of_getElem? (i := 5) rfl))) (mvT hZ (hw _ (List.mem_of_getElem? (i := 6) rfl))) (by decide) (backOf (W := 1) (rmI l Z a0 hw [] b91 b62 b63 (0 : Int64) b68 .null .null (.long 0) .null h91 n0 (g_b91) A91 F92 F93 F94 F95) hZ (hw _ (List.mem_of_getElem? (i := 6) rfl)) (hw _ (List.mem_of_getElem? (i := 3) rfl)) (by decide) (by decide)) (g := (mkF m 104 #[iv ps, iv pe, iv pa, iv pb, iv pd, iv pq, iv 2, rv b62, rv b63, rv b68, iv 1, iv pq, .unset, .unset] [(.ref b68), (.long 0), (.ref b63), (.ref b62), (.ref b91), (.ref b91)])) rfl (by rw [hml]; rfl) (Steps.refl _) (a := b91) (argsL := [(.ref b62), (.ref b63), (.long 0), (.ref b68)]) (rest := [(.ref b91)]) (lenOf pd_0 rfl) rfl (by show 2 * 0 + _ ≤ _; exact Nat.le_of_eq rfl) (hb hby at_104) (fun _ _ => ⟨rfl, e91, (by decide : 4 + 0 ≤ _), (by decide : 9 + 0 ≤ _)⟩)
        dsimp only [Pt.U, Pt.locs, Pt.cells, Pt.slots] at X96 l96 y96 z96 st96 hQ96
        subst l96 y96 z96
        obtain ⟨rfl, N96q, Kc96, Fc96_0⟩ := hQ96
        have K96 : Keep h0 T96.heap [] := K91.trans Kc96 ((allS (Or.inr sz_b91) all0))
        have N96 := Fr.app N67 N96q
        refine Go.pull (V := T96.setTop (mkF m 107 #[iv ps, iv pe, iv pa, iv pb, iv pd, iv pq, iv 2, rv b62, rv b63, rv b68, iv 1, iv pq, .unset, .unset] [(.ref b91)])) (fun _ k => st96.trans k) ?_
        refine Go.pull (V := T96.setTop (mkF m 109 #[iv ps, iv pe, iv pa, iv pb, iv pd, iv pq, iv 2, rv b62, rv b63, rv b68, iv 1, iv pq, rv b91, .unset] [])) (fun t k => XS.astore X96.here hx rfl (hb hby at_107) rfl rfl (l' := #[iv ps, iv pe, iv pa, iv pb, iv pd, iv pq, iv 2, rv b62, rv b63, rv b68, iv 1, iv pq, rv b91, .unset]) rfl k) ?_
        refine Go.pull (V := T96.setTop (mkF m 111 #[iv ps, iv pe, iv pa, iv pb, iv pd, iv pq, iv 2, rv b62, rv b63, rv b68, iv 1, iv pq, rv b91, .unset] [(.int 1)])) (fun t k => XS.iload X96.here hx rfl (hb hby at_109) rfl  k) ?_
        refine Go.pull (V := T96.setTop (mkF m 113 #[iv ps, iv pe, iv pa, iv pb, iv pd, iv pq, iv 2, rv b62, rv b63, rv b68, iv 1, iv pq, rv b91, .unset] [(.int 2), (.int 1)])) (fun t k => XS.iload X96.here hx rfl (hb hby at_111) rfl  k) ?_
        refine Go.pull (V := T96.setTop (mkF m 122 #[iv ps, iv pe, iv pa, iv pb, iv pd, iv pq, iv 2, rv b62, rv b63, rv b68, iv 1, iv pq, rv b91, .unset] [])) (fun t k => XS.icmpYes X96.here hx rfl (pc0 := 113) (pc' := 122) rfl (hb hby at_113) rfl (XT.ii_lt_t (by decide)) (by decide) (by decide) k) ?_
        refine Go.pull (V := T96.setTop (mkF m 124 #[iv ps, iv pe, iv pa, iv pb, iv pd, iv pq, iv 2, rv b62, rv b63, rv b68, iv 1, iv pq, rv b91, .unset] [(.int 1)])) (fun t k => XS.iload X96.here hx rfl (hb hby at_122) rfl  k) ?_
        refine Go.pull (V := T96.setTop (mkF m 125 #[iv ps, iv pe, iv pa, iv pb, iv pd, iv pq, iv 2, rv b62, rv b63, rv b68, iv 1, iv pq, rv b91, .unset] [(.int pa), (.int 1)])) (fun t k => XS.iloadN X96.here hx rfl (hb hby at_124) rfl  k) ?_
        refine Go.pull (V := T96.setTop (mkF m 126 #[iv ps, iv pe, iv pa, iv pb, iv pd, iv pq, iv 2, rv b62, rv b63, rv b68, iv 1, iv pq, rv b91, .unset] [(.int pb), (.int pa), (.int 1)])) (fun t k => XS.iloadN X96.here hx rfl (hb hby at_125) rfl  k) ?_
        refine Go.pull (V := T96.setTop (mkF m 128 #[iv ps, iv pe, iv pa, iv pb, iv pd, iv pq, iv 2, rv b62, rv b63, rv b68, iv 1, iv pq, rv b91, .unset] [(.int pd), (.int pb), (.int pa), (.int 1)])) (fun t k => XS.iload X96.here hx rfl (hb hby at_126) rfl  k) ?_
        obtain ⟨_, _, ⟨T97, L97, k97, n97⟩, -, X97, ⟨Lc97, hQ97, l97, y97, z97⟩, st97⟩ := Jvm.LawKit.callS X96 hx (y := (⟨"com/example/threshold/threshold/PostingListHoldsAtPinLaw", "at", "(IIII)I"⟩ : MethodName)) hown (mvT hZ (hw _ (List.mem_of_getElem? (i := 23) rfl))) (mvT hZ (hw _ (List.mem_of_getElem? (i := 24) rfl))) (mvT hZ (hw _ (List.mem_of_getElem? (i := 25) rfl))) (mvT hZ (hw _ (List.mem_of_getElem? (i := 26) rfl))) (by decide) (backOf (W := 0) (rmT l Z a0 hw [] (1 : Int32) pa pb pd T96.heap n0 ) hZ (hw _ (List.mem_of_getElem? (i := 26) rfl)) (hw _ (List.mem_of_getElem? (i := 25) rfl)) (by decide) (by decide)) (g := (mkF m 128 #[iv ps, iv pe, iv pa, iv pb, iv pd, iv pq, iv 2, rv b62, rv b63, rv b68, iv 1, iv pq, rv b91, .unset] [(.int pd), (.int pb), (.int pa), (.int 1)])) rfl (by rw [hml]; rfl) (argsL := [(.int 1), (.int pa), (.int pb), (.int pd)]) (rest := []) (lenOf pd_2 rfl) rfl (by show 2 * 0 + _ ≤ _; exact Nat.le_of_eq rfl) (hb hby at_128) (fun _ _ => ⟨rfl, rfl, (by decide : 4 + 0 ≤ _), (by decide : 9 + 0 ≤ _)⟩)
        dsimp only [Pt.U, Pt.locs, Pt.cells, Pt.slots] at X97 l97 y97 z97 st97 hQ97
        subst l97 y97 z97
        obtain ⟨hv97, N97q, e97⟩ := hQ97
        rw [(show (own_at (1 : Int32) pa pb pd) = pb from by rw [own_at, if_neg (by decide), if_pos rfl])] at hv97; subst hv97
        have N97 := Fr.app N96 N97q
        refine Go.pull (V := T97.setTop (mkF m 131 #[iv ps, iv pe, iv pa, iv pb, iv pd, iv pq, iv 2, rv b62, rv b63, rv b68, iv 1, iv pq, rv b91, .unset] [(.int pb)])) st97 ?_
        refine Go.pull (V := T97.setTop (mkF m 133 #[iv ps, iv pe, iv pa, iv pb, iv pd, iv pq, iv 2, rv b62, rv b63, rv b68, iv 1, iv pq, rv b91, .unset] [(.int pq), (.int pb)])) (fun t k => XS.iload X97.here hx rfl (hb hby at_131) rfl  k) ?_
        by_cases hc133_98 : pb = pq
        · skip
          refine Go.pull (V := T97.setTop (mkF m 136 #[iv ps, iv pe, iv pa, iv pb, iv pd, iv pq, iv 2, rv b62, rv b63, rv b68, iv 1, iv pq, rv b91, .unset] [])) (fun t k => XS.icmpNo X97.here hx rfl (hb hby at_133) rfl (XT.ii_ne_f hc133_98) k) ?_
          refine Go.pull (V := T97.setTop (mkF m 137 #[iv ps, iv pe, iv pa, iv pb, iv pd, iv pq, iv 2, rv b62, rv b63, rv b68, iv 1, iv pq, rv b91, .unset] [(.int 1)])) (fun t k => XS.iconst X97.here hx rfl (hb hby at_136) k) ?_
          refine Go.pull (V := T97.setTop (mkF m 141 #[iv ps, iv pe, iv pa, iv pb, iv pd, iv pq, iv 2, rv b62, rv b63, rv b68, iv 1, iv pq, rv b91, .unset] [(.int 1)])) (fun t k => XS.goto X97.here hx rfl (pc0 := 137) (pc' := 141) rfl (hb hby at_137) (by decide) (by decide) k) ?_
          refine Go.pull (V := T97.setTop (mkF m 143 #[iv ps, iv pe, iv pa, iv pb, iv pd, iv pq, iv 2, rv b62, rv b63, rv b68, iv 1, iv pq, rv b91, iv 1] [])) (fun t k => XS.istore X97.here hx rfl (hb hby at_141) rfl (l' := #[iv ps, iv pe, iv pa, iv pb, iv pd, iv pq, iv 2, rv b62, rv b63, rv b68, iv 1, iv pq, rv b91, iv 1]) rfl k) ?_
          refine Go.pull (V := T97.setTop (mkF m 145 #[iv ps, iv pe, iv pa, iv pb, iv pd, iv pq, iv 2, rv b62, rv b63, rv b68, iv 1, iv pq, rv b91, iv 1] [(.ref b91)])) (fun t k => XS.aload X97.here hx rfl (hb hby at_143) rfl rfl k) ?_
          refine Go.pull (V := T97.setTop (mkF m 147 #[iv ps, iv pe, iv pa, iv pb, iv pd, iv pq, iv 2, rv b62, rv b63, rv b68, iv 1, iv pq, rv b91, iv 1] [(.int 1), (.ref b91)])) (fun t k => XS.iload X97.here hx rfl (hb hby at_145) rfl  k) ?_
          refine Go.pull (V := T97.setTop (mkF m 149 #[iv ps, iv pe, iv pa, iv pb, iv pd, iv pq, iv 2, rv b62, rv b63, rv b68, iv 1, iv pq, rv b91, iv 1] [(.int pq), (.int 1), (.ref b91)])) (fun t k => XS.iload X97.here hx rfl (hb hby at_147) rfl  k) ?_
          obtain ⟨cq99, kq99, q99a, q99b, q99c⟩ := isOf hZ e97 (A91.keep Kc96)
          obtain ⟨_, _, ⟨T99, L99, k99, n99⟩, -, X99, ⟨Lc99, hQ99, l99, y99, z99⟩, st99⟩ := X97.virtualBack hx (y := (⟨"com/example/threshold/threshold/PostingList", "holdsAt", "(II)Z"⟩ : MethodName)) (z := (⟨"com/example/threshold/threshold/PostingList", "holdsAt", "(II)Z"⟩ : MethodName)) hown (mvT hZ (hw _ (List.mem_of_getElem? (i := 18) rfl))) (mvT hZ (hw _ (List.mem_of_getElem? (i := 19) rfl))) (notFace_of_selects (args := #[]) (mvT hZ (hw _ (List.mem_of_getElem? (i := 21) rfl)))) (mvT hZ (hw _ (List.mem_of_getElem? (i := 21) rfl))) (mvT hZ (hw _ (List.mem_of_getElem? (i := 20) rfl))) (by decide) (backOf (W := 0) (rmA l Z a0 hw [] b91 (1 : Int32) pq b62 k62 (2 : Int32) ([(.int pa), (.int pb)] : List Value) pb T96.heap n0 Fc96_0 (((V67.ext E68).ext E91).keep Kc96 (ninS (ne_b62_b91) nin0)) rfl (by decide)) hZ (hw _ (List.mem_of_getElem? (i := 22) rfl)) (hw _ (List.mem_of_getElem? (i := 3) rfl)) (by decide) (by decide)) q99a q99c (g := (mkF m 149 #[iv ps, iv pe, iv pa, iv pb, iv pd, iv pq, iv 2, rv b62, rv b63, rv b68, iv 1, iv pq, rv b91, iv 1] [(.int pq), (.int 1), (.ref b91)])) rfl (by rw [hml]; rfl) (Steps.refl _) (argsL := [(.int 1), (.int pq)]) (rest := []) (lenOf pd_1 rfl) rfl (by show 2 * 0 + _ ≤ _; exact Nat.le_of_eq rfl) (hb hby at_149) (fun _ _ => ⟨rfl, e97, (by decide : 4 + 0 ≤ _), (by decide : 9 + 0 ≤ _)⟩)
          dsimp only [Pt.U, Pt.locs, Pt.cells, Pt.slots] at X99 l99 y99 z99 st99 hQ99
          subst l99 y99 z99
          obtain ⟨hv99, N99q, e99⟩ := hQ99
          rw [(show (own_hold (1 : Int32) (2 : Int32) pq pb) = (1 : Int32) from by rw [own_hold, if_pos (by decide), if_pos hc133_98])] at hv99; subst hv99
          have N99 := Fr.app N97 N99q
          refine Go.pull (V := T99.setTop (mkF m 152 #[iv ps, iv pe, iv pa, iv pb, iv pd, iv pq, iv 2, rv b62, rv b63, rv b68, iv 1, iv pq, rv b91, iv 1] [(.int 1)])) (fun _ k => st99.trans k) ?_
          refine Go.pull (V := T99.setTop (mkF m 154 #[iv ps, iv pe, iv pa, iv pb, iv pd, iv pq, iv 2, rv b62, rv b63, rv b68, iv 1, iv pq, rv b91, iv 1] [(.int 1), (.int 1)])) (fun t k => XS.iload X99.here hx rfl (hb hby at_152) rfl  k) ?_
          refine Go.pull (V := T99.setTop (mkF m 157 #[iv ps, iv pe, iv pa, iv pb, iv pd, iv pq, iv 2, rv b62, rv b63, rv b68, iv 1, iv pq, rv b91, iv 1] [])) (fun t k => XS.icmpNo X99.here hx rfl (hb hby at_154) rfl (XT.ii_ne_f (by decide)) k) ?_
          refine Go.pull (V := T99.setTop (mkF m 158 #[iv ps, iv pe, iv pa, iv pb, iv pd, iv pq, iv 2, rv b62, rv b63, rv b68, iv 1, iv pq, rv b91, iv 1] [(.int 1)])) (fun t k => XS.iconst X99.here hx rfl (hb hby at_157) k) ?_
          refine Go.pull (V := T99.setTop (mkF m 162 #[iv ps, iv pe, iv pa, iv pb, iv pd, iv pq, iv 2, rv b62, rv b63, rv b68, iv 1, iv pq, rv b91, iv 1] [(.int 1)])) (fun t k => XS.goto X99.here hx rfl (pc0 := 158) (pc' := 162) rfl (hb hby at_158) (by decide) (by decide) k) ?_
          exact Go.retN X99 hx Bd.notSynchronized (t := .boolean) Bd.returns (by simp) (hb hby at_162) ⟨rfl, N99⟩ (by decide) (by decide)
        · skip
          refine Go.pull (V := T97.setTop (mkF m 140 #[iv ps, iv pe, iv pa, iv pb, iv pd, iv pq, iv 2, rv b62, rv b63, rv b68, iv 1, iv pq, rv b91, .unset] [])) (fun t k => XS.icmpYes X97.here hx rfl (pc0 := 133) (pc' := 140) rfl (hb hby at_133) rfl (XT.ii_ne_t hc133_98) (by decide) (by decide) k) ?_
          refine Go.pull (V := T97.setTop (mkF m 141 #[iv ps, iv pe, iv pa, iv pb, iv pd, iv pq, iv 2, rv b62, rv b63, rv b68, iv 1, iv pq, rv b91, .unset] [(.int 0)])) (fun t k => XS.iconst X97.here hx rfl (hb hby at_140) k) ?_
          refine Go.pull (V := T97.setTop (mkF m 143 #[iv ps, iv pe, iv pa, iv pb, iv pd, iv pq, iv 2, rv b62, rv b63, rv b68, iv 1, iv pq, rv b91, iv 0] [])) (fun t k => XS.istore X97.here hx rfl (hb hby at_141) rfl (l' := #[iv ps, iv pe, iv pa, iv pb, iv pd, iv pq, iv 2, rv b62, rv b63, rv b68, iv 1, iv pq, rv b91, iv 0]) rfl k) ?_
          refine Go.pull (V := T97.setTop (mkF m 145 #[iv ps, iv pe, iv pa, iv pb, iv pd, iv pq, iv 2, rv b62, rv b63, rv b68, iv 1, iv pq, rv b91, iv 0] [(.ref b91)])) (fun t k => XS.aload X97.here hx rfl (hb hby at_143) rfl rfl k) ?_
          refine Go.pull (V := T97.setTop (mkF m 147 #[iv ps, iv pe, iv pa, iv pb, iv pd, iv pq, iv 2, rv b62, rv b63, rv b68, iv 1, iv pq, rv b91, iv 0] [(.int 1), (.ref b91)])) (fun t k => XS.iload X97.here hx rfl (hb hby at_145) rfl  k) ?_
          refine Go.pull (V := T97.setTop (mkF m 149 #[iv ps, iv pe, iv pa, iv pb, iv pd, iv pq, iv 2, rv b62, rv b63, rv b68, iv 1, iv pq, rv b91, iv 0] [(.int pq), (.int 1), (.ref b91)])) (fun t k => XS.iload X97.here hx rfl (hb hby at_147) rfl  k) ?_
          obtain ⟨cq100, kq100, q100a, q100b, q100c⟩ := isOf hZ e97 (A91.keep Kc96)
          obtain ⟨_, _, ⟨T100, L100, k100, n100⟩, -, X100, ⟨Lc100, hQ100, l100, y100, z100⟩, st100⟩ := X97.virtualBack hx (y := (⟨"com/example/threshold/threshold/PostingList", "holdsAt", "(II)Z"⟩ : MethodName)) (z := (⟨"com/example/threshold/threshold/PostingList", "holdsAt", "(II)Z"⟩ : MethodName)) hown (mvT hZ (hw _ (List.mem_of_getElem? (i := 18) rfl))) (mvT hZ (hw _ (List.mem_of_getElem? (i := 19) rfl))) (notFace_of_selects (args := #[]) (mvT hZ (hw _ (List.mem_of_getElem? (i := 21) rfl)))) (mvT hZ (hw _ (List.mem_of_getElem? (i := 21) rfl))) (mvT hZ (hw _ (List.mem_of_getElem? (i := 20) rfl))) (by decide) (backOf (W := 0) (rmA l Z a0 hw [] b91 (1 : Int32) pq b62 k62 (2 : Int32) ([(.int pa), (.int pb)] : List Value) pb T96.heap n0 Fc96_0 (((V67.ext E68).ext E91).keep Kc96 (ninS (ne_b62_b91) nin0)) rfl (by decide)) hZ (hw _ (List.mem_of_getElem? (i := 22) rfl)) (hw _ (List.mem_of_getElem? (i := 3) rfl)) (by decide) (by decide)) q100a q100c (g := (mkF m 149 #[iv ps, iv pe, iv pa, iv pb, iv pd, iv pq, iv 2, rv b62, rv b63, rv b68, iv 1, iv pq, rv b91, iv 0] [(.int pq), (.int 1), (.ref b91)])) rfl (by rw [hml]; rfl) (Steps.refl _) (argsL := [(.int 1), (.int pq)]) (rest := []) (lenOf pd_1 rfl) rfl (by show 2 * 0 + _ ≤ _; exact Nat.le_of_eq rfl) (hb hby at_149) (fun _ _ => ⟨rfl, e97, (by decide : 4 + 0 ≤ _), (by decide : 9 + 0 ≤ _)⟩)
          dsimp only [Pt.U, Pt.locs, Pt.cells, Pt.slots] at X100 l100 y100 z100 st100 hQ100
          subst l100 y100 z100
          obtain ⟨hv100, N100q, e100⟩ := hQ100
          rw [(show (own_hold (1 : Int32) (2 : Int32) pq pb) = (0 : Int32) from by rw [own_hold, if_pos (by decide), if_neg hc133_98])] at hv100; subst hv100
          have N100 := Fr.app N97 N100q
          refine Go.pull (V := T100.setTop (mkF m 152 #[iv ps, iv pe, iv pa, iv pb, iv pd, iv pq, iv 2, rv b62, rv b63, rv b68, iv 1, iv pq, rv b91, iv 0] [(.int 0)])) (fun _ k => st100.trans k) ?_
          refine Go.pull (V := T100.setTop (mkF m 154 #[iv ps, iv pe, iv pa, iv pb, iv pd, iv pq, iv 2, rv b62, rv b63, rv b68, iv 1, iv pq, rv b91, iv 0] [(.int 0), (.int 0)])) (fun t k => XS.iload X100.here hx rfl (hb hby at_152) rfl  k) ?_
          refine Go.pull (V := T100.setTop (mkF m 157 #[iv ps, iv pe, iv pa, iv pb, iv pd, iv pq, iv 2, rv b62, rv b63, rv b68, iv 1, iv pq, rv b91, iv 0] [])) (fun t k => XS.icmpNo X100.here hx rfl (hb hby at_154) rfl (XT.ii_ne_f (by decide)) k) ?_
          refine Go.pull (V := T100.setTop (mkF m 158 #[iv ps, iv pe, iv pa, iv pb, iv pd, iv pq, iv 2, rv b62, rv b63, rv b68, iv 1, iv pq, rv b91, iv 0] [(.int 1)])) (fun t k => XS.iconst X100.here hx rfl (hb hby at_157) k) ?_
          refine Go.pull (V := T100.setTop (mkF m 162 #[iv ps, iv pe, iv pa, iv pb, iv pd, iv pq, iv 2, rv b62, rv b63, rv b68, iv 1, iv pq, rv b91, iv 0] [(.int 1)])) (fun t k => XS.goto X100.here hx rfl (pc0 := 158) (pc' := 162) rfl (hb hby at_158) (by decide) (by decide) k) ?_
          exact Go.retN X100 hx Bd.notSynchronized (t := .boolean) Bd.returns (by simp) (hb hby at_162) ⟨rfl, N100⟩ (by decide) (by decide)
      · skip
        refine Go.pull (V := T68.setTop (mkF m 75 #[iv ps, iv pe, iv pa, iv pb, iv pd, iv pq, iv 2, rv b62, rv b63, rv b68, iv 1, iv pq, .unset, .unset] [])) (fun t k => XS.ifNo X68.here hx rfl (hb hby at_72) rfl (XT.i0_eq_f hc72_90) k) ?_
        refine Go.pull (V := T68.setTop (mkF m 77 #[iv ps, iv pe, iv pa, iv pb, iv pd, iv pq, iv 2, rv b62, rv b63, rv b68, iv 1, iv pq, .unset, .unset] [(.int 1)])) (fun t k => XS.iload X68.here hx rfl (hb hby at_75) rfl  k) ?_
        refine Go.pull (V := T68.setTop (mkF m 79 #[iv ps, iv pe, iv pa, iv pb, iv pd, iv pq, iv 2, rv b62, rv b63, rv b68, iv 1, iv pq, .unset, .unset] [(.int 2), (.int 1)])) (fun t k => XS.iload X68.here hx rfl (hb hby at_77) rfl  k) ?_
        refine Go.pull (V := T68.setTop (mkF m 82 #[iv ps, iv pe, iv pa, iv pb, iv pd, iv pq, iv 2, rv b62, rv b63, rv b68, iv 1, iv pq, .unset, .unset] [])) (fun t k => XS.icmpNo X68.here hx rfl (hb hby at_79) rfl (XT.ii_ge_f (by decide)) k) ?_
        refine Go.pull (V := T68.setTop (mkF m 84 #[iv ps, iv pe, iv pa, iv pb, iv pd, iv pq, iv 2, rv b62, rv b63, rv b68, iv 1, iv pq, .unset, .unset] [(.int 1)])) (fun t k => XS.iload X68.here hx rfl (hb hby at_82) rfl  k) ?_
        refine Go.pull (V := T68.setTop (mkF m 85 #[iv ps, iv pe, iv pa, iv pb, iv pd, iv pq, iv 2, rv b62, rv b63, rv b68, iv 1, iv pq, .unset, .unset] [(.int pa), (.int 1)])) (fun t k => XS.iloadN X68.here hx rfl (hb hby at_84) rfl  k) ?_
        refine Go.pull (V := T68.setTop (mkF m 86 #[iv ps, iv pe, iv pa, iv pb, iv pd, iv pq, iv 2, rv b62, rv b63, rv b68, iv 1, iv pq, .unset, .unset] [(.int pb), (.int pa), (.int 1)])) (fun t k => XS.iloadN X68.here hx rfl (hb hby at_85) rfl  k) ?_
        refine Go.pull (V := T68.setTop (mkF m 88 #[iv ps, iv pe, iv pa, iv pb, iv pd, iv pq, iv 2, rv b62, rv b63, rv b68, iv 1, iv pq, .unset, .unset] [(.int pd), (.int pb), (.int pa), (.int 1)])) (fun t k => XS.iload X68.here hx rfl (hb hby at_86) rfl  k) ?_
        obtain ⟨_, _, ⟨T101, L101, k101, n101⟩, -, X101, ⟨Lc101, hQ101, l101, y101, z101⟩, st101⟩ := Jvm.LawKit.callS X68 hx (y := (⟨"com/example/threshold/threshold/PostingListHoldsAtPinLaw", "at", "(IIII)I"⟩ : MethodName)) hown (mvT hZ (hw _ (List.mem_of_getElem? (i := 23) rfl))) (mvT hZ (hw _ (List.mem_of_getElem? (i := 24) rfl))) (mvT hZ (hw _ (List.mem_of_getElem? (i := 25) rfl))) (mvT hZ (hw _ (List.mem_of_getElem? (i := 26) rfl))) (by decide) (backOf (W := 0) (rmT l Z a0 hw [] (1 : Int32) pa pb pd h68 n0 ) hZ (hw _ (List.mem_of_getElem? (i := 26) rfl)) (hw _ (List.mem_of_getElem? (i := 25) rfl)) (by decide) (by decide)) (g := (mkF m 88 #[iv ps, iv pe, iv pa, iv pb, iv pd, iv pq, iv 2, rv b62, rv b63, rv b68, iv 1, iv pq, .unset, .unset] [(.int pd), (.int pb), (.int pa), (.int 1)])) rfl (by rw [hml]; rfl) (argsL := [(.int 1), (.int pa), (.int pb), (.int pd)]) (rest := []) (lenOf pd_2 rfl) rfl (by show 2 * 0 + _ ≤ _; exact Nat.le_of_eq rfl) (hb hby at_88) (fun _ _ => ⟨rfl, e68, (by decide : 3 + 0 ≤ _), (by decide : 4 + 0 ≤ _)⟩)
        dsimp only [Pt.U, Pt.locs, Pt.cells, Pt.slots] at X101 l101 y101 z101 st101 hQ101
        subst l101 y101 z101
        obtain ⟨hv101, N101q, e101⟩ := hQ101
        rw [(show (own_at (1 : Int32) pa pb pd) = pb from by rw [own_at, if_neg (by decide), if_pos rfl])] at hv101; subst hv101
        have N101 := Fr.app N67 N101q
        refine Go.pull (V := T101.setTop (mkF m 91 #[iv ps, iv pe, iv pa, iv pb, iv pd, iv pq, iv 2, rv b62, rv b63, rv b68, iv 1, iv pq, .unset, .unset] [(.int pb)])) st101 ?_
        refine Go.pull (V := T101.setTop (mkF m 93 #[iv ps, iv pe, iv pa, iv pb, iv pd, iv pq, iv 2, rv b62, rv b63, rv b68, iv 1, iv pb, .unset, .unset] [])) (fun t k => XS.istore X101.here hx rfl (hb hby at_91) rfl (l' := #[iv ps, iv pe, iv pa, iv pb, iv pd, iv pq, iv 2, rv b62, rv b63, rv b68, iv 1, iv pb, .unset, .unset]) rfl k) ?_
        obtain ⟨T102, h102, X102, e102, E102, A102, D102, -, st102⟩ := newO X101 hx hZ hown (hw _ (List.mem_of_getElem? (i := 1) rfl)) (hw _ (List.mem_of_getElem? (i := 2) rfl)) (hw _ (List.mem_of_getElem? (i := 3) rfl)) e101 (g := (mkF m 93 #[iv ps, iv pe, iv pa, iv pb, iv pd, iv pq, iv 2, rv b62, rv b63, rv b68, iv 1, iv pb, .unset, .unset] [])) rfl (hb hby at_93) (by decide) (by decide)
        obtain ⟨b102, g102⟩ : ∃ z, z = h68.size := ⟨_, rfl⟩
        rw [← g102] at A102 D102 st102
        have ne_b62_b102 : b62 ≠ b102 := Nat.ne_of_lt (Nat.lt_of_lt_of_le (V67.ext E68).lt (Nat.le_of_eq g102.symm))
        have ne_b63_b102 : b63 ≠ b102 := Nat.ne_of_lt (Nat.lt_of_lt_of_le (((V63.other W65 (Ne.symm (ne_b62_b63))).other W67 (Ne.symm (ne_b62_b63))).ext E68).lt (Nat.le_of_eq g102.symm))
        have ne_b68_b102 : b68 ≠ b102 := Nat.ne_of_lt (Nat.lt_of_lt_of_le V68.lt (Nat.le_of_eq g102.symm))
        have sz_b102 : h0.size ≤ b102 := Nat.le_trans (K68).1 (Nat.le_of_eq g102.symm)
        have g_b102 : n0 ≤ b102 := Nat.le_trans Z0 sz_b102
        have K102 : Keep h0 h102 [] := K68.ext E102
        have F103 : Fld Z h102 b102 "com/example/threshold/threshold/PostingList" "documents" "[I" .null := D102 (Or.inr (hw _ (List.mem_of_getElem? (i := 11) rfl))) (ty := (.array .int)) (by decide)
        have F104 : Fld Z h102 b102 "com/example/threshold/threshold/PostingList" "counts" "[I" .null := D102 (Or.inr (hw _ (List.mem_of_getElem? (i := 13) rfl))) (ty := (.array .int)) (by decide)
        have F105 : Fld Z h102 b102 "com/example/threshold/threshold/PostingList" "collectionFrequency" "J" (.long 0) := D102 (Or.inr (hw _ (List.mem_of_getElem? (i := 15) rfl))) (ty := .long) (by decide)
        have F106 : Fld Z h102 b102 "com/example/threshold/threshold/PostingList" "lengths" "[I" .null := D102 (Or.inr (hw _ (List.mem_of_getElem? (i := 17) rfl))) (ty := (.array .int)) (by decide)
        refine Go.pull (V := T102.setTop (mkF m 96 #[iv ps, iv pe, iv pa, iv pb, iv pd, iv pq, iv 2, rv b62, rv b63, rv b68, iv 1, iv pb, .unset, .unset] [(.ref b102)])) st102 ?_
        refine Go.pull (V := T102.setTop (mkF m 97 #[iv ps, iv pe, iv pa, iv pb, iv pd, iv pq, iv 2, rv b62, rv b63, rv b68, iv 1, iv pb, .unset, .unset] [(.ref b102), (.ref b102)])) (fun t k => XS.dup X102.here hx rfl (hb hby at_96) rfl rfl k) ?_
        refine Go.pull (V := T102.setTop (mkF m 99 #[iv ps, iv pe, iv pa, iv pb, iv pd, iv pq, iv 2, rv b62, rv b63, rv b68, iv 1, iv pb, .unset, .unset] [(.ref b62), (.ref b102), (.ref b102)])) (fun t k => XS.aload X102.here hx rfl (hb hby at_97) rfl rfl k) ?_
        refine Go.pull (V := T102.setTop (mkF m 101 #[iv ps, iv pe, iv pa, iv pb, iv pd, iv pq, iv 2, rv b62, rv b63, rv b68, iv 1, iv pb, .unset, .unset] [(.ref b63), (.ref b62), (.ref b102), (.ref b102)])) (fun t k => XS.aload X102.here hx rfl (hb hby at_99) rfl rfl k) ?_
        refine Go.pull (V := T102.setTop (mkF m 102 #[iv ps, iv pe, iv pa, iv pb, iv pd, iv pq, iv 2, rv b62, rv b63, rv b68, iv 1, iv pb, .unset, .unset] [(.long 0), (.ref b63), (.ref b62), (.ref b102), (.ref b102)])) (fun t k => XS.lconst X102.here hx rfl (hb hby at_101) k) ?_
        refine Go.pull (V := T102.setTop (mkF m 104 #[iv ps, iv pe, iv pa, iv pb, iv pd, iv pq, iv 2, rv b62, rv b63, rv b68, iv 1, iv pb, .unset, .unset] [(.ref b68), (.long 0), (.ref b63), (.ref b62), (.ref b102), (.ref b102)])) (fun t k => XS.aload X102.here hx rfl (hb hby at_102) rfl rfl k) ?_
        obtain ⟨_, _, ⟨T107, L107, k107, n107⟩, -, X107, ⟨Lc107, hQ107, l107, y107, z107⟩, st107⟩ := X102.specialBack hx (y := (⟨"com/example/threshold/threshold/PostingList", "<init>", "([I[IJ[I)V"⟩ : MethodName)) rfl hown (mvT hZ (hw _ (List.mem_of_getElem? (i := 4) rfl))) (mvT hZ (hw _ (List.mem_of_getElem? (i := 5) rfl))) (mvT hZ (hw _ (List.mem_of_getElem? (i := 6) rfl))) (by decide) (backOf (W := 1) (rmI l Z a0 hw [] b102 b62 b63 (0 : Int64) b68 .null .null (.long 0) .null h102 n0 (g_b102) A102 F103 F104 F105 F106) hZ (hw _ (List.mem_of_getElem? (i := 6) rfl)) (hw _ (List.mem_of_getElem? (i := 3) rfl)) (by decide) (by decide)) (g := (mkF m 104 #[iv ps, iv pe, iv pa, iv pb, iv pd, iv pq, iv 2, rv b62, rv b63, rv b68, iv 1, iv pb, .unset, .unset] [(.ref b68), (.long 0), (.ref b63), (.ref b62), (.ref b102), (.ref b102)])) rfl (by rw [hml]; rfl) (Steps.refl _) (a := b102) (argsL := [(.ref b62), (.ref b63), (.long 0), (.ref b68)]) (rest := [(.ref b102)]) (lenOf pd_0 rfl) rfl (by show 2 * 0 + _ ≤ _; exact Nat.le_of_eq rfl) (hb hby at_104) (fun _ _ => ⟨rfl, e102, (by decide : 4 + 0 ≤ _), (by decide : 9 + 0 ≤ _)⟩)
        dsimp only [Pt.U, Pt.locs, Pt.cells, Pt.slots] at X107 l107 y107 z107 st107 hQ107
        subst l107 y107 z107
        obtain ⟨rfl, N107q, Kc107, Fc107_0⟩ := hQ107
        have K107 : Keep h0 T107.heap [] := K102.trans Kc107 ((allS (Or.inr sz_b102) all0))
        have N107 := Fr.app N101 N107q
        refine Go.pull (V := T107.setTop (mkF m 107 #[iv ps, iv pe, iv pa, iv pb, iv pd, iv pq, iv 2, rv b62, rv b63, rv b68, iv 1, iv pb, .unset, .unset] [(.ref b102)])) (fun _ k => st107.trans k) ?_
        refine Go.pull (V := T107.setTop (mkF m 109 #[iv ps, iv pe, iv pa, iv pb, iv pd, iv pq, iv 2, rv b62, rv b63, rv b68, iv 1, iv pb, rv b102, .unset] [])) (fun t k => XS.astore X107.here hx rfl (hb hby at_107) rfl rfl (l' := #[iv ps, iv pe, iv pa, iv pb, iv pd, iv pq, iv 2, rv b62, rv b63, rv b68, iv 1, iv pb, rv b102, .unset]) rfl k) ?_
        refine Go.pull (V := T107.setTop (mkF m 111 #[iv ps, iv pe, iv pa, iv pb, iv pd, iv pq, iv 2, rv b62, rv b63, rv b68, iv 1, iv pb, rv b102, .unset] [(.int 1)])) (fun t k => XS.iload X107.here hx rfl (hb hby at_109) rfl  k) ?_
        refine Go.pull (V := T107.setTop (mkF m 113 #[iv ps, iv pe, iv pa, iv pb, iv pd, iv pq, iv 2, rv b62, rv b63, rv b68, iv 1, iv pb, rv b102, .unset] [(.int 2), (.int 1)])) (fun t k => XS.iload X107.here hx rfl (hb hby at_111) rfl  k) ?_
        refine Go.pull (V := T107.setTop (mkF m 122 #[iv ps, iv pe, iv pa, iv pb, iv pd, iv pq, iv 2, rv b62, rv b63, rv b68, iv 1, iv pb, rv b102, .unset] [])) (fun t k => XS.icmpYes X107.here hx rfl (pc0 := 113) (pc' := 122) rfl (hb hby at_113) rfl (XT.ii_lt_t (by decide)) (by decide) (by decide) k) ?_
        refine Go.pull (V := T107.setTop (mkF m 124 #[iv ps, iv pe, iv pa, iv pb, iv pd, iv pq, iv 2, rv b62, rv b63, rv b68, iv 1, iv pb, rv b102, .unset] [(.int 1)])) (fun t k => XS.iload X107.here hx rfl (hb hby at_122) rfl  k) ?_
        refine Go.pull (V := T107.setTop (mkF m 125 #[iv ps, iv pe, iv pa, iv pb, iv pd, iv pq, iv 2, rv b62, rv b63, rv b68, iv 1, iv pb, rv b102, .unset] [(.int pa), (.int 1)])) (fun t k => XS.iloadN X107.here hx rfl (hb hby at_124) rfl  k) ?_
        refine Go.pull (V := T107.setTop (mkF m 126 #[iv ps, iv pe, iv pa, iv pb, iv pd, iv pq, iv 2, rv b62, rv b63, rv b68, iv 1, iv pb, rv b102, .unset] [(.int pb), (.int pa), (.int 1)])) (fun t k => XS.iloadN X107.here hx rfl (hb hby at_125) rfl  k) ?_
        refine Go.pull (V := T107.setTop (mkF m 128 #[iv ps, iv pe, iv pa, iv pb, iv pd, iv pq, iv 2, rv b62, rv b63, rv b68, iv 1, iv pb, rv b102, .unset] [(.int pd), (.int pb), (.int pa), (.int 1)])) (fun t k => XS.iload X107.here hx rfl (hb hby at_126) rfl  k) ?_
        obtain ⟨_, _, ⟨T108, L108, k108, n108⟩, -, X108, ⟨Lc108, hQ108, l108, y108, z108⟩, st108⟩ := Jvm.LawKit.callS X107 hx (y := (⟨"com/example/threshold/threshold/PostingListHoldsAtPinLaw", "at", "(IIII)I"⟩ : MethodName)) hown (mvT hZ (hw _ (List.mem_of_getElem? (i := 23) rfl))) (mvT hZ (hw _ (List.mem_of_getElem? (i := 24) rfl))) (mvT hZ (hw _ (List.mem_of_getElem? (i := 25) rfl))) (mvT hZ (hw _ (List.mem_of_getElem? (i := 26) rfl))) (by decide) (backOf (W := 0) (rmT l Z a0 hw [] (1 : Int32) pa pb pd T107.heap n0 ) hZ (hw _ (List.mem_of_getElem? (i := 26) rfl)) (hw _ (List.mem_of_getElem? (i := 25) rfl)) (by decide) (by decide)) (g := (mkF m 128 #[iv ps, iv pe, iv pa, iv pb, iv pd, iv pq, iv 2, rv b62, rv b63, rv b68, iv 1, iv pb, rv b102, .unset] [(.int pd), (.int pb), (.int pa), (.int 1)])) rfl (by rw [hml]; rfl) (argsL := [(.int 1), (.int pa), (.int pb), (.int pd)]) (rest := []) (lenOf pd_2 rfl) rfl (by show 2 * 0 + _ ≤ _; exact Nat.le_of_eq rfl) (hb hby at_128) (fun _ _ => ⟨rfl, rfl, (by decide : 4 + 0 ≤ _), (by decide : 9 + 0 ≤ _)⟩)
        dsimp only [Pt.U, Pt.locs, Pt.cells, Pt.slots] at X108 l108 y108 z108 st108 hQ108
        subst l108 y108 z108
        obtain ⟨hv108, N108q, e108⟩ := hQ108
        rw [(show (own_at (1 : Int32) pa pb pd) = pb from by rw [own_at, if_neg (by decide), if_pos rfl])] at hv108; subst hv108
        have N108 := Fr.app N107 N108q
        refine Go.pull (V := T108.setTop (mkF m 131 #[iv ps, iv pe, iv pa, iv pb, iv pd, iv pq, iv 2, rv b62, rv b63, rv b68, iv 1, iv pb, rv b102, .unset] [(.int pb)])) st108 ?_
        refine Go.pull (V := T108.setTop (mkF m 133 #[iv ps, iv pe, iv pa, iv pb, iv pd, iv pq, iv 2, rv b62, rv b63, rv b68, iv 1, iv pb, rv b102, .unset] [(.int pb), (.int pb)])) (fun t k => XS.iload X108.here hx rfl (hb hby at_131) rfl  k) ?_
        refine Go.pull (V := T108.setTop (mkF m 136 #[iv ps, iv pe, iv pa, iv pb, iv pd, iv pq, iv 2, rv b62, rv b63, rv b68, iv 1, iv pb, rv b102, .unset] [])) (fun t k => XS.icmpNo X108.here hx rfl (hb hby at_133) rfl (XT.ii_ne_f rfl) k) ?_
        refine Go.pull (V := T108.setTop (mkF m 137 #[iv ps, iv pe, iv pa, iv pb, iv pd, iv pq, iv 2, rv b62, rv b63, rv b68, iv 1, iv pb, rv b102, .unset] [(.int 1)])) (fun t k => XS.iconst X108.here hx rfl (hb hby at_136) k) ?_
        refine Go.pull (V := T108.setTop (mkF m 141 #[iv ps, iv pe, iv pa, iv pb, iv pd, iv pq, iv 2, rv b62, rv b63, rv b68, iv 1, iv pb, rv b102, .unset] [(.int 1)])) (fun t k => XS.goto X108.here hx rfl (pc0 := 137) (pc' := 141) rfl (hb hby at_137) (by decide) (by decide) k) ?_
        refine Go.pull (V := T108.setTop (mkF m 143 #[iv ps, iv pe, iv pa, iv pb, iv pd, iv pq, iv 2, rv b62, rv b63, rv b68, iv 1, iv pb, rv b102, iv 1] [])) (fun t k => XS.istore X108.here hx rfl (hb hby at_141) rfl (l' := #[iv ps, iv pe, iv pa, iv pb, iv pd, iv pq, iv 2, rv b62, rv b63, rv b68, iv 1, iv pb, rv b102, iv 1]) rfl k) ?_
        refine Go.pull (V := T108.setTop (mkF m 145 #[iv ps, iv pe, iv pa, iv pb, iv pd, iv pq, iv 2, rv b62, rv b63, rv b68, iv 1, iv pb, rv b102, iv 1] [(.ref b102)])) (fun t k => XS.aload X108.here hx rfl (hb hby at_143) rfl rfl k) ?_
        refine Go.pull (V := T108.setTop (mkF m 147 #[iv ps, iv pe, iv pa, iv pb, iv pd, iv pq, iv 2, rv b62, rv b63, rv b68, iv 1, iv pb, rv b102, iv 1] [(.int 1), (.ref b102)])) (fun t k => XS.iload X108.here hx rfl (hb hby at_145) rfl  k) ?_
        refine Go.pull (V := T108.setTop (mkF m 149 #[iv ps, iv pe, iv pa, iv pb, iv pd, iv pq, iv 2, rv b62, rv b63, rv b68, iv 1, iv pb, rv b102, iv 1] [(.int pb), (.int 1), (.ref b102)])) (fun t k => XS.iload X108.here hx rfl (hb hby at_147) rfl  k) ?_
        obtain ⟨cq109, kq109, q109a, q109b, q109c⟩ := isOf hZ e108 (A102.keep Kc107)
        obtain ⟨_, _, ⟨T109, L109, k109, n109⟩, -, X109, ⟨Lc109, hQ109, l109, y109, z109⟩, st109⟩ := X108.virtualBack hx (y := (⟨"com/example/threshold/threshold/PostingList", "holdsAt", "(II)Z"⟩ : MethodName)) (z := (⟨"com/example/threshold/threshold/PostingList", "holdsAt", "(II)Z"⟩ : MethodName)) hown (mvT hZ (hw _ (List.mem_of_getElem? (i := 18) rfl))) (mvT hZ (hw _ (List.mem_of_getElem? (i := 19) rfl))) (notFace_of_selects (args := #[]) (mvT hZ (hw _ (List.mem_of_getElem? (i := 21) rfl)))) (mvT hZ (hw _ (List.mem_of_getElem? (i := 21) rfl))) (mvT hZ (hw _ (List.mem_of_getElem? (i := 20) rfl))) (by decide) (backOf (W := 0) (rmA l Z a0 hw [] b102 (1 : Int32) pb b62 k62 (2 : Int32) ([(.int pa), (.int pb)] : List Value) pb T107.heap n0 Fc107_0 (((V67.ext E68).ext E102).keep Kc107 (ninS (ne_b62_b102) nin0)) rfl (by decide)) hZ (hw _ (List.mem_of_getElem? (i := 22) rfl)) (hw _ (List.mem_of_getElem? (i := 3) rfl)) (by decide) (by decide)) q109a q109c (g := (mkF m 149 #[iv ps, iv pe, iv pa, iv pb, iv pd, iv pq, iv 2, rv b62, rv b63, rv b68, iv 1, iv pb, rv b102, iv 1] [(.int pb), (.int 1), (.ref b102)])) rfl (by rw [hml]; rfl) (Steps.refl _) (argsL := [(.int 1), (.int pb)]) (rest := []) (lenOf pd_1 rfl) rfl (by show 2 * 0 + _ ≤ _; exact Nat.le_of_eq rfl) (hb hby at_149) (fun _ _ => ⟨rfl, e108, (by decide : 4 + 0 ≤ _), (by decide : 9 + 0 ≤ _)⟩)
        dsimp only [Pt.U, Pt.locs, Pt.cells, Pt.slots] at X109 l109 y109 z109 st109 hQ109
        subst l109 y109 z109
        obtain ⟨hv109, N109q, e109⟩ := hQ109
        rw [(show (own_hold (1 : Int32) (2 : Int32) pb pb) = (1 : Int32) from by rw [own_hold, if_pos (by decide), if_pos rfl])] at hv109; subst hv109
        have N109 := Fr.app N108 N109q
        refine Go.pull (V := T109.setTop (mkF m 152 #[iv ps, iv pe, iv pa, iv pb, iv pd, iv pq, iv 2, rv b62, rv b63, rv b68, iv 1, iv pb, rv b102, iv 1] [(.int 1)])) (fun _ k => st109.trans k) ?_
        refine Go.pull (V := T109.setTop (mkF m 154 #[iv ps, iv pe, iv pa, iv pb, iv pd, iv pq, iv 2, rv b62, rv b63, rv b68, iv 1, iv pb, rv b102, iv 1] [(.int 1), (.int 1)])) (fun t k => XS.iload X109.here hx rfl (hb hby at_152) rfl  k) ?_
        refine Go.pull (V := T109.setTop (mkF m 157 #[iv ps, iv pe, iv pa, iv pb, iv pd, iv pq, iv 2, rv b62, rv b63, rv b68, iv 1, iv pb, rv b102, iv 1] [])) (fun t k => XS.icmpNo X109.here hx rfl (hb hby at_154) rfl (XT.ii_ne_f (by decide)) k) ?_
        refine Go.pull (V := T109.setTop (mkF m 158 #[iv ps, iv pe, iv pa, iv pb, iv pd, iv pq, iv 2, rv b62, rv b63, rv b68, iv 1, iv pb, rv b102, iv 1] [(.int 1)])) (fun t k => XS.iconst X109.here hx rfl (hb hby at_157) k) ?_
        refine Go.pull (V := T109.setTop (mkF m 162 #[iv ps, iv pe, iv pa, iv pb, iv pd, iv pq, iv 2, rv b62, rv b63, rv b68, iv 1, iv pb, rv b102, iv 1] [(.int 1)])) (fun t k => XS.goto X109.here hx rfl (pc0 := 158) (pc' := 162) rfl (hb hby at_158) (by decide) (by decide) k) ?_
        exact Go.retN X109 hx Bd.notSynchronized (t := .boolean) Bd.returns (by simp) (hb hby at_162) ⟨rfl, N109⟩ (by decide) (by decide)
    · subst hv69
      refine Go.pull (V := T68.setTop (mkF m 67 #[iv ps, iv pe, iv pa, iv pb, iv pd, iv pq, iv 2, rv b62, rv b63, rv b68, iv 2, .unset, .unset, .unset] [(.int pq)])) (fun t k => XS.iload X68.here hx rfl (hb hby at_65) rfl  k) ?_
      refine Go.pull (V := T68.setTop (mkF m 69 #[iv ps, iv pe, iv pa, iv pb, iv pd, iv pq, iv 2, rv b62, rv b63, rv b68, iv 2, iv pq, .unset, .unset] [])) (fun t k => XS.istore X68.here hx rfl (hb hby at_67) rfl (l' := #[iv ps, iv pe, iv pa, iv pb, iv pd, iv pq, iv 2, rv b62, rv b63, rv b68, iv 2, iv pq, .unset, .unset]) rfl k) ?_
      refine Go.pull (V := T68.setTop (mkF m 70 #[iv ps, iv pe, iv pa, iv pb, iv pd, iv pq, iv 2, rv b62, rv b63, rv b68, iv 2, iv pq, .unset, .unset] [(.int pe)])) (fun t k => XS.iloadN X68.here hx rfl (hb hby at_69) rfl  k) ?_
      refine Go.pull (V := T68.setTop (mkF m 71 #[iv ps, iv pe, iv pa, iv pb, iv pd, iv pq, iv 2, rv b62, rv b63, rv b68, iv 2, iv pq, .unset, .unset] [(.int 4), (.int pe)])) (fun t k => XS.iconst X68.here hx rfl (hb hby at_70) k) ?_
      refine Go.pull (V := T68.setTop (mkF m 72 #[iv ps, iv pe, iv pa, iv pb, iv pd, iv pq, iv 2, rv b62, rv b63, rv b68, iv 2, iv pq, .unset, .unset] [(.int (pe &&& (4 : Int32)))])) (fun t k => XS.iand X68.here hx rfl (hb hby at_71) rfl k) ?_
      by_cases hc72_110 : (pe &&& (4 : Int32)) = 0
      · skip
        refine Go.pull (V := T68.setTop (mkF m 93 #[iv ps, iv pe, iv pa, iv pb, iv pd, iv pq, iv 2, rv b62, rv b63, rv b68, iv 2, iv pq, .unset, .unset] [])) (fun t k => XS.ifYes X68.here hx rfl (pc0 := 72) (pc' := 93) rfl (hb hby at_72) rfl (XT.i0_eq_t hc72_110) (by decide) (by decide) k) ?_
        obtain ⟨T111, h111, X111, e111, E111, A111, D111, -, st111⟩ := newO X68 hx hZ hown (hw _ (List.mem_of_getElem? (i := 1) rfl)) (hw _ (List.mem_of_getElem? (i := 2) rfl)) (hw _ (List.mem_of_getElem? (i := 3) rfl)) e68 (g := (mkF m 93 #[iv ps, iv pe, iv pa, iv pb, iv pd, iv pq, iv 2, rv b62, rv b63, rv b68, iv 2, iv pq, .unset, .unset] [])) rfl (hb hby at_93) (by decide) (by decide)
        obtain ⟨b111, g111⟩ : ∃ z, z = h68.size := ⟨_, rfl⟩
        rw [← g111] at A111 D111 st111
        have ne_b62_b111 : b62 ≠ b111 := Nat.ne_of_lt (Nat.lt_of_lt_of_le (V67.ext E68).lt (Nat.le_of_eq g111.symm))
        have ne_b63_b111 : b63 ≠ b111 := Nat.ne_of_lt (Nat.lt_of_lt_of_le (((V63.other W65 (Ne.symm (ne_b62_b63))).other W67 (Ne.symm (ne_b62_b63))).ext E68).lt (Nat.le_of_eq g111.symm))
        have ne_b68_b111 : b68 ≠ b111 := Nat.ne_of_lt (Nat.lt_of_lt_of_le V68.lt (Nat.le_of_eq g111.symm))
        have sz_b111 : h0.size ≤ b111 := Nat.le_trans (K68).1 (Nat.le_of_eq g111.symm)
        have g_b111 : n0 ≤ b111 := Nat.le_trans Z0 sz_b111
        have K111 : Keep h0 h111 [] := K68.ext E111
        have F112 : Fld Z h111 b111 "com/example/threshold/threshold/PostingList" "documents" "[I" .null := D111 (Or.inr (hw _ (List.mem_of_getElem? (i := 11) rfl))) (ty := (.array .int)) (by decide)
        have F113 : Fld Z h111 b111 "com/example/threshold/threshold/PostingList" "counts" "[I" .null := D111 (Or.inr (hw _ (List.mem_of_getElem? (i := 13) rfl))) (ty := (.array .int)) (by decide)
        have F114 : Fld Z h111 b111 "com/example/threshold/threshold/PostingList" "collectionFrequency" "J" (.long 0) := D111 (Or.inr (hw _ (List.mem_of_getElem? (i := 15) rfl))) (ty := .long) (by decide)
        have F115 : Fld Z h111 b111 "com/example/threshold/threshold/PostingList" "lengths" "[I" .null := D111 (Or.inr (hw _ (List.mem_of_getElem? (i := 17) rfl))) (ty := (.array .int)) (by decide)
        refine Go.pull (V := T111.setTop (mkF m 96 #[iv ps, iv pe, iv pa, iv pb, iv pd, iv pq, iv 2, rv b62, rv b63, rv b68, iv 2, iv pq, .unset, .unset] [(.ref b111)])) st111 ?_
        refine Go.pull (V := T111.setTop (mkF m 97 #[iv ps, iv pe, iv pa, iv pb, iv pd, iv pq, iv 2, rv b62, rv b63, rv b68, iv 2, iv pq, .unset, .unset] [(.ref b111), (.ref b111)])) (fun t k => XS.dup X111.here hx rfl (hb hby at_96) rfl rfl k) ?_
        refine Go.pull (V := T111.setTop (mkF m 99 #[iv ps, iv pe, iv pa, iv pb, iv pd, iv pq, iv 2, rv b62, rv b63, rv b68, iv 2, iv pq, .unset, .unset] [(.ref b62), (.ref b111), (.ref b111)])) (fun t k => XS.aload X111.here hx rfl (hb hby at_97) rfl rfl k) ?_
        refine Go.pull (V := T111.setTop (mkF m 101 #[iv ps, iv pe, iv pa, iv pb, iv pd, iv pq, iv 2, rv b62, rv b63, rv b68, iv 2, iv pq, .unset, .unset] [(.ref b63), (.ref b62), (.ref b111), (.ref b111)])) (fun t k => XS.aload X111.here hx rfl (hb hby at_99) rfl rfl k) ?_
        refine Go.pull (V := T111.setTop (mkF m 102 #[iv ps, iv pe, iv pa, iv pb, iv pd, iv pq, iv 2, rv b62, rv b63, rv b68, iv 2, iv pq, .unset, .unset] [(.long 0), (.ref b63), (.ref b62), (.ref b111), (.ref b111)])) (fun t k => XS.lconst X111.here hx rfl (hb hby at_101) k) ?_
        refine Go.pull (V := T111.setTop (mkF m 104 #[iv ps, iv pe, iv pa, iv pb, iv pd, iv pq, iv 2, rv b62, rv b63, rv b68, iv 2, iv pq, .unset, .unset] [(.ref b68), (.long 0), (.ref b63), (.ref b62), (.ref b111), (.ref b111)])) (fun t k => XS.aload X111.here hx rfl (hb hby at_102) rfl rfl k) ?_
        obtain ⟨_, _, ⟨T116, L116, k116, n116⟩, -, X116, ⟨Lc116, hQ116, l116, y116, z116⟩, st116⟩ := X111.specialBack hx (y := (⟨"com/example/threshold/threshold/PostingList", "<init>", "([I[IJ[I)V"⟩ : MethodName)) rfl hown (mvT hZ (hw _ (List.mem_of_getElem? (i := 4) rfl))) (mvT hZ (hw _ (List.mem_of_getElem? (i := 5) rfl))) (mvT hZ (hw _ (List.mem_of_getElem? (i := 6) rfl))) (by decide) (backOf (W := 1) (rmI l Z a0 hw [] b111 b62 b63 (0 : Int64) b68 .null .null (.long 0) .null h111 n0 (g_b111) A111 F112 F113 F114 F115) hZ (hw _ (List.mem_of_getElem? (i := 6) rfl)) (hw _ (List.mem_of_getElem? (i := 3) rfl)) (by decide) (by decide)) (g := (mkF m 104 #[iv ps, iv pe, iv pa, iv pb, iv pd, iv pq, iv 2, rv b62, rv b63, rv b68, iv 2, iv pq, .unset, .unset] [(.ref b68), (.long 0), (.ref b63), (.ref b62), (.ref b111), (.ref b111)])) rfl (by rw [hml]; rfl) (Steps.refl _) (a := b111) (argsL := [(.ref b62), (.ref b63), (.long 0), (.ref b68)]) (rest := [(.ref b111)]) (lenOf pd_0 rfl) rfl (by show 2 * 0 + _ ≤ _; exact Nat.le_of_eq rfl) (hb hby at_104) (fun _ _ => ⟨rfl, e111, (by decide : 4 + 0 ≤ _), (by decide : 9 + 0 ≤ _)⟩)
        dsimp only [Pt.U, Pt.locs, Pt.cells, Pt.slots] at X116 l116 y116 z116 st116 hQ116
        subst l116 y116 z116
        obtain ⟨rfl, N116q, Kc116, Fc116_0⟩ := hQ116
        have K116 : Keep h0 T116.heap [] := K111.trans Kc116 ((allS (Or.inr sz_b111) all0))
        have N116 := Fr.app N67 N116q
        refine Go.pull (V := T116.setTop (mkF m 107 #[iv ps, iv pe, iv pa, iv pb, iv pd, iv pq, iv 2, rv b62, rv b63, rv b68, iv 2, iv pq, .unset, .unset] [(.ref b111)])) (fun _ k => st116.trans k) ?_
        refine Go.pull (V := T116.setTop (mkF m 109 #[iv ps, iv pe, iv pa, iv pb, iv pd, iv pq, iv 2, rv b62, rv b63, rv b68, iv 2, iv pq, rv b111, .unset] [])) (fun t k => XS.astore X116.here hx rfl (hb hby at_107) rfl rfl (l' := #[iv ps, iv pe, iv pa, iv pb, iv pd, iv pq, iv 2, rv b62, rv b63, rv b68, iv 2, iv pq, rv b111, .unset]) rfl k) ?_
        refine Go.pull (V := T116.setTop (mkF m 111 #[iv ps, iv pe, iv pa, iv pb, iv pd, iv pq, iv 2, rv b62, rv b63, rv b68, iv 2, iv pq, rv b111, .unset] [(.int 2)])) (fun t k => XS.iload X116.here hx rfl (hb hby at_109) rfl  k) ?_
        refine Go.pull (V := T116.setTop (mkF m 113 #[iv ps, iv pe, iv pa, iv pb, iv pd, iv pq, iv 2, rv b62, rv b63, rv b68, iv 2, iv pq, rv b111, .unset] [(.int 2), (.int 2)])) (fun t k => XS.iload X116.here hx rfl (hb hby at_111) rfl  k) ?_
        refine Go.pull (V := T116.setTop (mkF m 116 #[iv ps, iv pe, iv pa, iv pb, iv pd, iv pq, iv 2, rv b62, rv b63, rv b68, iv 2, iv pq, rv b111, .unset] [])) (fun t k => XS.icmpNo X116.here hx rfl (hb hby at_113) rfl (XT.ii_lt_f (by decide)) k) ?_
        refine Go.pull (V := T116.setTop (mkF m 117 #[iv ps, iv pe, iv pa, iv pb, iv pd, iv pq, iv 2, rv b62, rv b63, rv b68, iv 2, iv pq, rv b111, .unset] [(.int 0)])) (fun t k => XS.iconst X116.here hx rfl (hb hby at_116) k) ?_
        refine Go.pull (V := T116.setTop (mkF m 119 #[iv ps, iv pe, iv pa, iv pb, iv pd, iv pq, iv 2, rv b62, rv b63, rv b68, iv 2, iv pq, rv b111, iv 0] [])) (fun t k => XS.istore X116.here hx rfl (hb hby at_117) rfl (l' := #[iv ps, iv pe, iv pa, iv pb, iv pd, iv pq, iv 2, rv b62, rv b63, rv b68, iv 2, iv pq, rv b111, iv 0]) rfl k) ?_
        refine Go.pull (V := T116.setTop (mkF m 143 #[iv ps, iv pe, iv pa, iv pb, iv pd, iv pq, iv 2, rv b62, rv b63, rv b68, iv 2, iv pq, rv b111, iv 0] [])) (fun t k => XS.goto X116.here hx rfl (pc0 := 119) (pc' := 143) rfl (hb hby at_119) (by decide) (by decide) k) ?_
        refine Go.pull (V := T116.setTop (mkF m 145 #[iv ps, iv pe, iv pa, iv pb, iv pd, iv pq, iv 2, rv b62, rv b63, rv b68, iv 2, iv pq, rv b111, iv 0] [(.ref b111)])) (fun t k => XS.aload X116.here hx rfl (hb hby at_143) rfl rfl k) ?_
        refine Go.pull (V := T116.setTop (mkF m 147 #[iv ps, iv pe, iv pa, iv pb, iv pd, iv pq, iv 2, rv b62, rv b63, rv b68, iv 2, iv pq, rv b111, iv 0] [(.int 2), (.ref b111)])) (fun t k => XS.iload X116.here hx rfl (hb hby at_145) rfl  k) ?_
        refine Go.pull (V := T116.setTop (mkF m 149 #[iv ps, iv pe, iv pa, iv pb, iv pd, iv pq, iv 2, rv b62, rv b63, rv b68, iv 2, iv pq, rv b111, iv 0] [(.int pq), (.int 2), (.ref b111)])) (fun t k => XS.iload X116.here hx rfl (hb hby at_147) rfl  k) ?_
        obtain ⟨cq117, kq117, q117a, q117b, q117c⟩ := isOf hZ rfl (A111.keep Kc116)
        obtain ⟨_, _, ⟨T117, L117, k117, n117⟩, -, X117, ⟨Lc117, hQ117, l117, y117, z117⟩, st117⟩ := X116.virtualBack hx (y := (⟨"com/example/threshold/threshold/PostingList", "holdsAt", "(II)Z"⟩ : MethodName)) (z := (⟨"com/example/threshold/threshold/PostingList", "holdsAt", "(II)Z"⟩ : MethodName)) hown (mvT hZ (hw _ (List.mem_of_getElem? (i := 18) rfl))) (mvT hZ (hw _ (List.mem_of_getElem? (i := 19) rfl))) (notFace_of_selects (args := #[]) (mvT hZ (hw _ (List.mem_of_getElem? (i := 21) rfl)))) (mvT hZ (hw _ (List.mem_of_getElem? (i := 21) rfl))) (mvT hZ (hw _ (List.mem_of_getElem? (i := 20) rfl))) (by decide) (backOf (W := 0) (rmA l Z a0 hw [] b111 (2 : Int32) pq b62 k62 (2 : Int32) ([(.int pa), (.int pb)] : List Value) (0 : Int32) T116.heap n0 Fc116_0 (((V67.ext E68).ext E111).keep Kc116 (ninS (ne_b62_b111) nin0)) rfl (by decide)) hZ (hw _ (List.mem_of_getElem? (i := 22) rfl)) (hw _ (List.mem_of_getElem? (i := 3) rfl)) (by decide) (by decide)) q117a q117c (g := (mkF m 149 #[iv ps, iv pe, iv pa, iv pb, iv pd, iv pq, iv 2, rv b62, rv b63, rv b68, iv 2, iv pq, rv b111, iv 0] [(.int pq), (.int 2), (.ref b111)])) rfl (by rw [hml]; rfl) (Steps.refl _) (argsL := [(.int 2), (.int pq)]) (rest := []) (lenOf pd_1 rfl) rfl (by show 2 * 0 + _ ≤ _; exact Nat.le_of_eq rfl) (hb hby at_149) (fun _ _ => ⟨rfl, rfl, (by decide : 4 + 0 ≤ _), (by decide : 9 + 0 ≤ _)⟩)
        dsimp only [Pt.U, Pt.locs, Pt.cells, Pt.slots] at X117 l117 y117 z117 st117 hQ117
        subst l117 y117 z117
        obtain ⟨hv117, N117q, e117⟩ := hQ117
        rw [(show (own_hold (2 : Int32) (2 : Int32) pq (0 : Int32)) = (0 : Int32) from by rw [own_hold, if_neg (by decide)])] at hv117; subst hv117
        have N117 := Fr.app N116 N117q
        refine Go.pull (V := T117.setTop (mkF m 152 #[iv ps, iv pe, iv pa, iv pb, iv pd, iv pq, iv 2, rv b62, rv b63, rv b68, iv 2, iv pq, rv b111, iv 0] [(.int 0)])) (fun _ k => st117.trans k) ?_
        refine Go.pull (V := T117.setTop (mkF m 154 #[iv ps, iv pe, iv pa, iv pb, iv pd, iv pq, iv 2, rv b62, rv b63, rv b68, iv 2, iv pq, rv b111, iv 0] [(.int 0), (.int 0)])) (fun t k => XS.iload X117.here hx rfl (hb hby at_152) rfl  k) ?_
        refine Go.pull (V := T117.setTop (mkF m 157 #[iv ps, iv pe, iv pa, iv pb, iv pd, iv pq, iv 2, rv b62, rv b63, rv b68, iv 2, iv pq, rv b111, iv 0] [])) (fun t k => XS.icmpNo X117.here hx rfl (hb hby at_154) rfl (XT.ii_ne_f (by decide)) k) ?_
        refine Go.pull (V := T117.setTop (mkF m 158 #[iv ps, iv pe, iv pa, iv pb, iv pd, iv pq, iv 2, rv b62, rv b63, rv b68, iv 2, iv pq, rv b111, iv 0] [(.int 1)])) (fun t k => XS.iconst X117.here hx rfl (hb hby at_157) k) ?_
        refine Go.pull (V := T117.setTop (mkF m 162 #[iv ps, iv pe, iv pa, iv pb, iv pd, iv pq, iv 2, rv b62, rv b63, rv b68, iv 2, iv pq, rv b111, iv 0] [(.int 1)])) (fun t k => XS.goto X117.here hx rfl (pc0 := 158) (pc' := 162) rfl (hb hby at_158) (by decide) (by decide) k) ?_
        exact Go.retN X117 hx Bd.notSynchronized (t := .boolean) Bd.returns (by simp) (hb hby at_162) ⟨rfl, N117⟩ (by decide) (by decide)
      · skip
        refine Go.pull (V := T68.setTop (mkF m 75 #[iv ps, iv pe, iv pa, iv pb, iv pd, iv pq, iv 2, rv b62, rv b63, rv b68, iv 2, iv pq, .unset, .unset] [])) (fun t k => XS.ifNo X68.here hx rfl (hb hby at_72) rfl (XT.i0_eq_f hc72_110) k) ?_
        refine Go.pull (V := T68.setTop (mkF m 77 #[iv ps, iv pe, iv pa, iv pb, iv pd, iv pq, iv 2, rv b62, rv b63, rv b68, iv 2, iv pq, .unset, .unset] [(.int 2)])) (fun t k => XS.iload X68.here hx rfl (hb hby at_75) rfl  k) ?_
        refine Go.pull (V := T68.setTop (mkF m 79 #[iv ps, iv pe, iv pa, iv pb, iv pd, iv pq, iv 2, rv b62, rv b63, rv b68, iv 2, iv pq, .unset, .unset] [(.int 2), (.int 2)])) (fun t k => XS.iload X68.here hx rfl (hb hby at_77) rfl  k) ?_
        refine Go.pull (V := T68.setTop (mkF m 93 #[iv ps, iv pe, iv pa, iv pb, iv pd, iv pq, iv 2, rv b62, rv b63, rv b68, iv 2, iv pq, .unset, .unset] [])) (fun t k => XS.icmpYes X68.here hx rfl (pc0 := 79) (pc' := 93) rfl (hb hby at_79) rfl (XT.ii_ge_t (by decide)) (by decide) (by decide) k) ?_
        obtain ⟨T118, h118, X118, e118, E118, A118, D118, -, st118⟩ := newO X68 hx hZ hown (hw _ (List.mem_of_getElem? (i := 1) rfl)) (hw _ (List.mem_of_getElem? (i := 2) rfl)) (hw _ (List.mem_of_getElem? (i := 3) rfl)) e68 (g := (mkF m 93 #[iv ps, iv pe, iv pa, iv pb, iv pd, iv pq, iv 2, rv b62, rv b63, rv b68, iv 2, iv pq, .unset, .unset] [])) rfl (hb hby at_93) (by decide) (by decide)
        obtain ⟨b118, g118⟩ : ∃ z, z = h68.size := ⟨_, rfl⟩
        rw [← g118] at A118 D118 st118
        have ne_b62_b118 : b62 ≠ b118 := Nat.ne_of_lt (Nat.lt_of_lt_of_le (V67.ext E68).lt (Nat.le_of_eq g118.symm))
        have ne_b63_b118 : b63 ≠ b118 := Nat.ne_of_lt (Nat.lt_of_lt_of_le (((V63.other W65 (Ne.symm (ne_b62_b63))).other W67 (Ne.symm (ne_b62_b63))).ext E68).lt (Nat.le_of_eq g118.symm))
        have ne_b68_b118 : b68 ≠ b118 := Nat.ne_of_lt (Nat.lt_of_lt_of_le V68.lt (Nat.le_of_eq g118.symm))
        have sz_b118 : h0.size ≤ b118 := Nat.le_trans (K68).1 (Nat.le_of_eq g118.symm)
        have g_b118 : n0 ≤ b118 := Nat.le_trans Z0 sz_b118
        have K118 : Keep h0 h118 [] := K68.ext E118
        have F119 : Fld Z h118 b118 "com/example/threshold/threshold/PostingList" "documents" "[I" .null := D118 (Or.inr (hw _ (List.mem_of_getElem? (i := 11) rfl))) (ty := (.array .int)) (by decide)
        have F120 : Fld Z h118 b118 "com/example/threshold/threshold/PostingList" "counts" "[I" .null := D118 (Or.inr (hw _ (List.mem_of_getElem? (i := 13) rfl))) (ty := (.array .int)) (by decide)
        have F121 : Fld Z h118 b118 "com/example/threshold/threshold/PostingList" "collectionFrequency" "J" (.long 0) := D118 (Or.inr (hw _ (List.mem_of_getElem? (i := 15) rfl))) (ty := .long) (by decide)
        have F122 : Fld Z h118 b118 "com/example/threshold/threshold/PostingList" "lengths" "[I" .null := D118 (Or.inr (hw _ (List.mem_of_getElem? (i := 17) rfl))) (ty := (.array .int)) (by decide)
        refine Go.pull (V := T118.setTop (mkF m 96 #[iv ps, iv pe, iv pa, iv pb, iv pd, iv pq, iv 2, rv b62, rv b63, rv b68, iv 2, iv pq, .unset, .unset] [(.ref b118)])) st118 ?_
        refine Go.pull (V := T118.setTop (mkF m 97 #[iv ps, iv pe, iv pa, iv pb, iv pd, iv pq, iv 2, rv b62, rv b63, rv b68, iv 2, iv pq, .unset, .unset] [(.ref b118), (.ref b118)])) (fun t k => XS.dup X118.here hx rfl (hb hby at_96) rfl rfl k) ?_
        refine Go.pull (V := T118.setTop (mkF m 99 #[iv ps, iv pe, iv pa, iv pb, iv pd, iv pq, iv 2, rv b62, rv b63, rv b68, iv 2, iv pq, .unset, .unset] [(.ref b62), (.ref b118), (.ref b118)])) (fun t k => XS.aload X118.here hx rfl (hb hby at_97) rfl rfl k) ?_
        refine Go.pull (V := T118.setTop (mkF m 101 #[iv ps, iv pe, iv pa, iv pb, iv pd, iv pq, iv 2, rv b62, rv b63, rv b68, iv 2, iv pq, .unset, .unset] [(.ref b63), (.ref b62), (.ref b118), (.ref b118)])) (fun t k => XS.aload X118.here hx rfl (hb hby at_99) rfl rfl k) ?_
        refine Go.pull (V := T118.setTop (mkF m 102 #[iv ps, iv pe, iv pa, iv pb, iv pd, iv pq, iv 2, rv b62, rv b63, rv b68, iv 2, iv pq, .unset, .unset] [(.long 0), (.ref b63), (.ref b62), (.ref b118), (.ref b118)])) (fun t k => XS.lconst X118.here hx rfl (hb hby at_101) k) ?_
        refine Go.pull (V := T118.setTop (mkF m 104 #[iv ps, iv pe, iv pa, iv pb, iv pd, iv pq, iv 2, rv b62, rv b63, rv b68, iv 2, iv pq, .unset, .unset] [(.ref b68), (.long 0), (.ref b63), (.ref b62), (.ref b118), (.ref b118)])) (fun t k => XS.aload X118.here hx rfl (hb hby at_102) rfl rfl k) ?_
        obtain ⟨_, _, ⟨T123, L123, k123, n123⟩, -, X123, ⟨Lc123, hQ123, l123, y123, z123⟩, st123⟩ := X118.specialBack hx (y := (⟨"com/example/threshold/threshold/PostingList", "<init>", "([I[IJ[I)V"⟩ : MethodName)) rfl hown (mvT hZ (hw _ (List.mem_of_getElem? (i := 4) rfl))) (mvT hZ (hw _ (List.mem_of_getElem? (i := 5) rfl))) (mvT hZ (hw _ (List.mem_of_getElem? (i := 6) rfl))) (by decide) (backOf (W := 1) (rmI l Z a0 hw [] b118 b62 b63 (0 : Int64) b68 .null .null (.long 0) .null h118 n0 (g_b118) A118 F119 F120 F121 F122) hZ (hw _ (List.mem_of_getElem? (i := 6) rfl)) (hw _ (List.mem_of_getElem? (i := 3) rfl)) (by decide) (by decide)) (g := (mkF m 104 #[iv ps, iv pe, iv pa, iv pb, iv pd, iv pq, iv 2, rv b62, rv b63, rv b68, iv 2, iv pq, .unset, .unset] [(.ref b68), (.long 0), (.ref b63), (.ref b62), (.ref b118), (.ref b118)])) rfl (by rw [hml]; rfl) (Steps.refl _) (a := b118) (argsL := [(.ref b62), (.ref b63), (.long 0), (.ref b68)]) (rest := [(.ref b118)]) (lenOf pd_0 rfl) rfl (by show 2 * 0 + _ ≤ _; exact Nat.le_of_eq rfl) (hb hby at_104) (fun _ _ => ⟨rfl, e118, (by decide : 4 + 0 ≤ _), (by decide : 9 + 0 ≤ _)⟩)
        dsimp only [Pt.U, Pt.locs, Pt.cells, Pt.slots] at X123 l123 y123 z123 st123 hQ123
        subst l123 y123 z123
        obtain ⟨rfl, N123q, Kc123, Fc123_0⟩ := hQ123
        have K123 : Keep h0 T123.heap [] := K118.trans Kc123 ((allS (Or.inr sz_b118) all0))
        have N123 := Fr.app N67 N123q
        refine Go.pull (V := T123.setTop (mkF m 107 #[iv ps, iv pe, iv pa, iv pb, iv pd, iv pq, iv 2, rv b62, rv b63, rv b68, iv 2, iv pq, .unset, .unset] [(.ref b118)])) (fun _ k => st123.trans k) ?_
        refine Go.pull (V := T123.setTop (mkF m 109 #[iv ps, iv pe, iv pa, iv pb, iv pd, iv pq, iv 2, rv b62, rv b63, rv b68, iv 2, iv pq, rv b118, .unset] [])) (fun t k => XS.astore X123.here hx rfl (hb hby at_107) rfl rfl (l' := #[iv ps, iv pe, iv pa, iv pb, iv pd, iv pq, iv 2, rv b62, rv b63, rv b68, iv 2, iv pq, rv b118, .unset]) rfl k) ?_
        refine Go.pull (V := T123.setTop (mkF m 111 #[iv ps, iv pe, iv pa, iv pb, iv pd, iv pq, iv 2, rv b62, rv b63, rv b68, iv 2, iv pq, rv b118, .unset] [(.int 2)])) (fun t k => XS.iload X123.here hx rfl (hb hby at_109) rfl  k) ?_
        refine Go.pull (V := T123.setTop (mkF m 113 #[iv ps, iv pe, iv pa, iv pb, iv pd, iv pq, iv 2, rv b62, rv b63, rv b68, iv 2, iv pq, rv b118, .unset] [(.int 2), (.int 2)])) (fun t k => XS.iload X123.here hx rfl (hb hby at_111) rfl  k) ?_
        refine Go.pull (V := T123.setTop (mkF m 116 #[iv ps, iv pe, iv pa, iv pb, iv pd, iv pq, iv 2, rv b62, rv b63, rv b68, iv 2, iv pq, rv b118, .unset] [])) (fun t k => XS.icmpNo X123.here hx rfl (hb hby at_113) rfl (XT.ii_lt_f (by decide)) k) ?_
        refine Go.pull (V := T123.setTop (mkF m 117 #[iv ps, iv pe, iv pa, iv pb, iv pd, iv pq, iv 2, rv b62, rv b63, rv b68, iv 2, iv pq, rv b118, .unset] [(.int 0)])) (fun t k => XS.iconst X123.here hx rfl (hb hby at_116) k) ?_
        refine Go.pull (V := T123.setTop (mkF m 119 #[iv ps, iv pe, iv pa, iv pb, iv pd, iv pq, iv 2, rv b62, rv b63, rv b68, iv 2, iv pq, rv b118, iv 0] [])) (fun t k => XS.istore X123.here hx rfl (hb hby at_117) rfl (l' := #[iv ps, iv pe, iv pa, iv pb, iv pd, iv pq, iv 2, rv b62, rv b63, rv b68, iv 2, iv pq, rv b118, iv 0]) rfl k) ?_
        refine Go.pull (V := T123.setTop (mkF m 143 #[iv ps, iv pe, iv pa, iv pb, iv pd, iv pq, iv 2, rv b62, rv b63, rv b68, iv 2, iv pq, rv b118, iv 0] [])) (fun t k => XS.goto X123.here hx rfl (pc0 := 119) (pc' := 143) rfl (hb hby at_119) (by decide) (by decide) k) ?_
        refine Go.pull (V := T123.setTop (mkF m 145 #[iv ps, iv pe, iv pa, iv pb, iv pd, iv pq, iv 2, rv b62, rv b63, rv b68, iv 2, iv pq, rv b118, iv 0] [(.ref b118)])) (fun t k => XS.aload X123.here hx rfl (hb hby at_143) rfl rfl k) ?_
        refine Go.pull (V := T123.setTop (mkF m 147 #[iv ps, iv pe, iv pa, iv pb, iv pd, iv pq, iv 2, rv b62, rv b63, rv b68, iv 2, iv pq, rv b118, iv 0] [(.int 2), (.ref b118)])) (fun t k => XS.iload X123.here hx rfl (hb hby at_145) rfl  k) ?_
        refine Go.pull (V := T123.setTop (mkF m 149 #[iv ps, iv pe, iv pa, iv pb, iv pd, iv pq, iv 2, rv b62, rv b63, rv b68, iv 2, iv pq, rv b118, iv 0] [(.int pq), (.int 2), (.ref b118)])) (fun t k => XS.iload X123.here hx rfl (hb hby at_147) rfl  k) ?_
        obtain ⟨cq124, kq124, q124a, q124b, q124c⟩ := isOf hZ rfl (A118.keep Kc123)
        obtain ⟨_, _, ⟨T124, L124, k124, n124⟩, -, X124, ⟨Lc124, hQ124, l124, y124, z124⟩, st124⟩ := X123.virtualBack hx (y := (⟨"com/example/threshold/threshold/PostingList", "holdsAt", "(II)Z"⟩ : MethodName)) (z := (⟨"com/example/threshold/threshold/PostingList", "holdsAt", "(II)Z"⟩ : MethodName)) hown (mvT hZ (hw _ (List.mem_of_getElem? (i := 18) rfl))) (mvT hZ (hw _ (List.mem_of_getElem? (i := 19) rfl))) (notFace_of_selects (args := #[]) (mvT hZ (hw _ (List.mem_of_getElem? (i := 21) rfl)))) (mvT hZ (hw _ (List.mem_of_getElem? (i := 21) rfl))) (mvT hZ (hw _ (List.mem_of_getElem? (i := 20) rfl))) (by decide) (backOf (W := 0) (rmA l Z a0 hw [] b118 (2 : Int32) pq b62 k62 (2 : Int32) ([(.int pa), (.int pb)] : List Value) (0 : Int32) T123.heap n0 Fc123_0 (((V67.ext E68).ext E118).keep Kc123 (ninS (ne_b62_b118) nin0)) rfl (by decide)) hZ (hw _ (List.mem_of_getElem? (i := 22) rfl)) (hw _ (List.mem_of_getElem? (i := 3) rfl)) (by decide) (by decide)) q124a q124c (g := (mkF m 149 #[iv ps, iv pe, iv pa, iv pb, iv pd, iv pq, iv 2, rv b62, rv b63, rv b68, iv 2, iv pq, rv b118, iv 0] [(.int pq), (.int 2), (.ref b118)])) rfl (by rw [hml]; rfl) (Steps.refl _) (argsL := [(.int 2), (.int pq)]) (rest := []) (lenOf pd_1 rfl) rfl (by show 2 * 0 + _ ≤ _; exact Nat.le_of_eq rfl) (hb hby at_149) (fun _ _ => ⟨rfl, rfl, (by decide : 4 + 0 ≤ _), (by decide : 9 + 0 ≤ _)⟩)
        dsimp only [Pt.U, Pt.locs, Pt.cells, Pt.slots] at X124 l124 y124 z124 st124 hQ124
        subst l124 y124 z124
        obtain ⟨hv124, N124q, e124⟩ := hQ124
        rw [(show (own_hold (2 : Int32) (2 : Int32) pq (0 : Int32)) = (0 : Int32) from by rw [own_hold, if_neg (by decide)])] at hv124; subst hv124
        have N124 := Fr.app N123 N124q
        refine Go.pull (V := T124.setTop (mkF m 152 #[iv ps, iv pe, iv pa, iv pb, iv pd, iv pq, iv 2, rv b62, rv b63, rv b68, iv 2, iv pq, rv b118, iv 0] [(.int 0)])) (fun _ k => st124.trans k) ?_
        refine Go.pull (V := T124.setTop (mkF m 154 #[iv ps, iv pe, iv pa, iv pb, iv pd, iv pq, iv 2, rv b62, rv b63, rv b68, iv 2, iv pq, rv b118, iv 0] [(.int 0), (.int 0)])) (fun t k => XS.iload X124.here hx rfl (hb hby at_152) rfl  k) ?_
        refine Go.pull (V := T124.setTop (mkF m 157 #[iv ps, iv pe, iv pa, iv pb, iv pd, iv pq, iv 2, rv b62, rv b63, rv b68, iv 2, iv pq, rv b118, iv 0] [])) (fun t k => XS.icmpNo X124.here hx rfl (hb hby at_154) rfl (XT.ii_ne_f (by decide)) k) ?_
        refine Go.pull (V := T124.setTop (mkF m 158 #[iv ps, iv pe, iv pa, iv pb, iv pd, iv pq, iv 2, rv b62, rv b63, rv b68, iv 2, iv pq, rv b118, iv 0] [(.int 1)])) (fun t k => XS.iconst X124.here hx rfl (hb hby at_157) k) ?_
        refine Go.pull (V := T124.setTop (mkF m 162 #[iv ps, iv pe, iv pa, iv pb, iv pd, iv pq, iv 2, rv b62, rv b63, rv b68, iv 2, iv pq, rv b118, iv 0] [(.int 1)])) (fun t k => XS.goto X124.here hx rfl (pc0 := 158) (pc' := 162) rfl (hb hby at_158) (by decide) (by decide) k) ?_
        exact Go.retN X124 hx Bd.notSynchronized (t := .boolean) Bd.returns (by simp) (hb hby at_162) ⟨rfl, N124⟩ (by decide) (by decide)
  · subst hv1
    refine Go.pull (V := s₁.setTop (mkF m 7 #[iv ps, iv pe, iv pa, iv pb, iv pd, iv pq, iv 3, .unset, .unset, .unset, .unset, .unset, .unset, .unset] [(.int 3)])) (fun t k => XS.iload X0.here hx rfl (hb hby at_5) rfl  k) ?_
    obtain ⟨T125, h125, k125, X125, e125, E125, A125, st125⟩ := newP X0 hx hZ (hw _ (List.mem_of_getElem? (i := 0) rfl)) e0 (g := (mkF m 7 #[iv ps, iv pe, iv pa, iv pb, iv pd, iv pq, iv 3, .unset, .unset, .unset, .unset, .unset, .unset, .unset] [(.int 3)])) rfl (hb hby at_7) rfl (by decide) (cap := 3) (by decide) (by decide) (by decide) (by decide)
    obtain ⟨b125, g125⟩ : ∃ z, z = h0.size := ⟨_, rfl⟩
    rw [← g125] at A125 st125
    have sz_b125 : h0.size ≤ b125 := Nat.le_trans ((Keep.refl h0 [])).1 (Nat.le_of_eq g125.symm)
    have g_b125 : n0 ≤ b125 := Nat.le_trans Z0 sz_b125
    have K125 : Keep h0 h125 [] := (Keep.refl h0 []).ext E125
    have V125 : Arv Z h125 b125 k125 .int (3 : Int32) [(.int 0), (.int 0), (.int 0)] (.int 0) := (Arv.new A125 (by decide)).pad (pad_rep [] (.int 0) 3)
    refine Go.pull (V := T125.setTop (mkF m 9 #[iv ps, iv pe, iv pa, iv pb, iv pd, iv pq, iv 3, .unset, .unset, .unset, .unset, .unset, .unset, .unset] [(.ref b125)])) st125 ?_
    refine Go.pull (V := T125.setTop (mkF m 11 #[iv ps, iv pe, iv pa, iv pb, iv pd, iv pq, iv 3, rv b125, .unset, .unset, .unset, .unset, .unset, .unset] [])) (fun t k => XS.astore X125.here hx rfl (hb hby at_9) rfl rfl (l' := #[iv ps, iv pe, iv pa, iv pb, iv pd, iv pq, iv 3, rv b125, .unset, .unset, .unset, .unset, .unset, .unset]) rfl k) ?_
    refine Go.pull (V := T125.setTop (mkF m 13 #[iv ps, iv pe, iv pa, iv pb, iv pd, iv pq, iv 3, rv b125, .unset, .unset, .unset, .unset, .unset, .unset] [(.int 3)])) (fun t k => XS.iload X125.here hx rfl (hb hby at_11) rfl  k) ?_
    obtain ⟨T126, h126, k126, X126, e126, E126, A126, st126⟩ := newP X125 hx hZ (hw _ (List.mem_of_getElem? (i := 0) rfl)) e125 (g := (mkF m 13 #[iv ps, iv pe, iv pa, iv pb, iv pd, iv pq, iv 3, rv b125, .unset, .unset, .unset, .unset, .unset, .unset] [(.int 3)])) rfl (hb hby at_13) rfl (by decide) (cap := 3) (by decide) (by decide) (by decide) (by decide)
    obtain ⟨b126, g126⟩ : ∃ z, z = h125.size := ⟨_, rfl⟩
    rw [← g126] at A126 st126
    have ne_b125_b126 : b125 ≠ b126 := Nat.ne_of_lt (Nat.lt_of_lt_of_le V125.lt (Nat.le_of_eq g126.symm))
    have sz_b126 : h0.size ≤ b126 := Nat.le_trans (K125).1 (Nat.le_of_eq g126.symm)
    have g_b126 : n0 ≤ b126 := Nat.le_trans Z0 sz_b126
    have K126 : Keep h0 h126 [] := K125.ext E126
    have V126 : Arv Z h126 b126 k126 .int (3 : Int32) [(.int 0), (.int 0), (.int 0)] (.int 0) := (Arv.new A126 (by decide)).pad (pad_rep [] (.int 0) 3)
    refine Go.pull (V := T126.setTop (mkF m 15 #[iv ps, iv pe, iv pa, iv pb, iv pd, iv pq, iv 3, rv b125, .unset, .unset, .unset, .unset, .unset, .unset] [(.ref b126)])) st126 ?_
    refine Go.pull (V := T126.setTop (mkF m 17 #[iv ps, iv pe, iv pa, iv pb, iv pd, iv pq, iv 3, rv b125, rv b126, .unset, .unset, .unset, .unset, .unset] [])) (fun t k => XS.astore X126.here hx rfl (hb hby at_15) rfl rfl (l' := #[iv ps, iv pe, iv pa, iv pb, iv pd, iv pq, iv 3, rv b125, rv b126, .unset, .unset, .unset, .unset, .unset]) rfl k) ?_
    refine Go.pull (V := T126.setTop (mkF m 19 #[iv ps, iv pe, iv pa, iv pb, iv pd, iv pq, iv 3, rv b125, rv b126, .unset, .unset, .unset, .unset, .unset] [(.int 3)])) (fun t k => XS.iload X126.here hx rfl (hb hby at_17) rfl  k) ?_
    refine Go.pull (V := T126.setTop (mkF m 22 #[iv ps, iv pe, iv pa, iv pb, iv pd, iv pq, iv 3, rv b125, rv b126, .unset, .unset, .unset, .unset, .unset] [])) (fun t k => XS.ifNo X126.here hx rfl (hb hby at_19) rfl (XT.i0_le_f (by decide)) k) ?_
    refine Go.pull (V := T126.setTop (mkF m 24 #[iv ps, iv pe, iv pa, iv pb, iv pd, iv pq, iv 3, rv b125, rv b126, .unset, .unset, .unset, .unset, .unset] [(.ref b125)])) (fun t k => XS.aload X126.here hx rfl (hb hby at_22) rfl rfl k) ?_
    refine Go.pull (V := T126.setTop (mkF m 25 #[iv ps, iv pe, iv pa, iv pb, iv pd, iv pq, iv 3, rv b125, rv b126, .unset, .unset, .unset, .unset, .unset] [(.int 0), (.ref b125)])) (fun t k => XS.iconst X126.here hx rfl (hb hby at_24) k) ?_
    refine Go.pull (V := T126.setTop (mkF m 26 #[iv ps, iv pe, iv pa, iv pb, iv pd, iv pq, iv 3, rv b125, rv b126, .unset, .unset, .unset, .unset, .unset] [(.int pa), (.int 0), (.ref b125)])) (fun t k => XS.iloadN X126.here hx rfl (hb hby at_25) rfl  k) ?_
    obtain ⟨cl127, Ar127, q127, S127, M127, Hs127, G127⟩ := id (V125.ext E126)
    have hin127 : ¬ ((0 : Int32) < 0 ∨ cl127.slots.size ≤ ((0 : Int32)).toNatClampNeg) := inb_of S127 ⟨by decide, by decide⟩
    obtain ⟨T128, h128, X128, e128, W128, st128⟩ := stI X126 hx hZ e126 Ar127 (j := (0 : Int32)) hin127 (g := (mkF m 26 #[iv ps, iv pe, iv pa, iv pb, iv pd, iv pq, iv 3, rv b125, rv b126, .unset, .unset, .unset, .unset, .unset] [(.int pa), (.int 0), (.ref b125)])) rfl rfl (hb hby at_26)
    have V128 : Arv Z h128 b125 k125 .int (3 : Int32) [(.int pa), (.int 0), (.int 0)] (.int 0) := Arv.set Ar127 q127 S127 M127 Hs127 G127 rfl W128 0 rfl (Nat.le_of_ble_eq_true rfl)
    have K128 : Keep h0 h128 [] := K126.wr W128 (Or.inr sz_b125)
    have N128 := Fr.snoc X128 N0 g_b125
    refine Go.pull (V := T128.setTop (mkF m 27 #[iv ps, iv pe, iv pa, iv pb, iv pd, iv pq, iv 3, rv b125, rv b126, .unset, .unset, .unset, .unset, .unset] [])) st128 ?_
    refine Go.pull (V := T128.setTop (mkF m 29 #[iv ps, iv pe, iv pa, iv pb, iv pd, iv pq, iv 3, rv b125, rv b126, .unset, .unset, .unset, .unset, .unset] [(.int 3)])) (fun t k => XS.iload X128.here hx rfl (hb hby at_27) rfl  k) ?_
    refine Go.pull (V := T128.setTop (mkF m 30 #[iv ps, iv pe, iv pa, iv pb, iv pd, iv pq, iv 3, rv b125, rv b126, .unset, .unset, .unset, .unset, .unset] [(.int 1), (.int 3)])) (fun t k => XS.iconst X128.here hx rfl (hb hby at_29) k) ?_
    refine Go.pull (V := T128.setTop (mkF m 33 #[iv ps, iv pe, iv pa, iv pb, iv pd, iv pq, iv 3, rv b125, rv b126, .unset, .unset, .unset, .unset, .unset] [])) (fun t k => XS.icmpNo X128.here hx rfl (hb hby at_30) rfl (XT.ii_le_f (by decide)) k) ?_
    refine Go.pull (V := T128.setTop (mkF m 35 #[iv ps, iv pe, iv pa, iv pb, iv pd, iv pq, iv 3, rv b125, rv b126, .unset, .unset, .unset, .unset, .unset] [(.ref b125)])) (fun t k => XS.aload X128.here hx rfl (hb hby at_33) rfl rfl k) ?_
    refine Go.pull (V := T128.setTop (mkF m 36 #[iv ps, iv pe, iv pa, iv pb, iv pd, iv pq, iv 3, rv b125, rv b126, .unset, .unset, .unset, .unset, .unset] [(.int 1), (.ref b125)])) (fun t k => XS.iconst X128.here hx rfl (hb hby at_35) k) ?_
    refine Go.pull (V := T128.setTop (mkF m 37 #[iv ps, iv pe, iv pa, iv pb, iv pd, iv pq, iv 3, rv b125, rv b126, .unset, .unset, .unset, .unset, .unset] [(.int pb), (.int 1), (.ref b125)])) (fun t k => XS.iloadN X128.here hx rfl (hb hby at_36) rfl  k) ?_
    obtain ⟨cl129, Ar129, q129, S129, M129, Hs129, G129⟩ := id V128
    have hin129 : ¬ ((1 : Int32) < 0 ∨ cl129.slots.size ≤ ((1 : Int32)).toNatClampNeg) := inb_of S129 ⟨by decide, by decide⟩
    obtain ⟨T130, h130, X130, e130, W130, st130⟩ := stI X128 hx hZ e128 Ar129 (j := (1 : Int32)) hin129 (g := (mkF m 37 #[iv ps, iv pe, iv pa, iv pb, iv pd, iv pq, iv 3, rv b125, rv b126, .unset, .unset, .unset, .unset, .unset] [(.int pb), (.int 1), (.ref b125)])) rfl rfl (hb hby at_37)
    have V130 : Arv Z h130 b125 k125 .int (3 : Int32) [(.int pa), (.int pb), (.int 0)] (.int 0) := Arv.set Ar129 q129 S129 M129 Hs129 G129 rfl W130 1 rfl (Nat.le_of_ble_eq_true rfl)
    have K130 : Keep h0 h130 [] := K128.wr W130 (Or.inr sz_b125)
    have N130 := Fr.snoc X130 N128 g_b125
    refine Go.pull (V := T130.setTop (mkF m 38 #[iv ps, iv pe, iv pa, iv pb, iv pd, iv pq, iv 3, rv b125, rv b126, .unset, .unset, .unset, .unset, .unset] [])) st130 ?_
    refine Go.pull (V := T130.setTop (mkF m 40 #[iv ps, iv pe, iv pa, iv pb, iv pd, iv pq, iv 3, rv b125, rv b126, .unset, .unset, .unset, .unset, .unset] [(.int 3)])) (fun t k => XS.iload X130.here hx rfl (hb hby at_38) rfl  k) ?_
    refine Go.pull (V := T130.setTop (mkF m 41 #[iv ps, iv pe, iv pa, iv pb, iv pd, iv pq, iv 3, rv b125, rv b126, .unset, .unset, .unset, .unset, .unset] [(.int 2), (.int 3)])) (fun t k => XS.iconst X130.here hx rfl (hb hby at_40) k) ?_
    refine Go.pull (V := T130.setTop (mkF m 44 #[iv ps, iv pe, iv pa, iv pb, iv pd, iv pq, iv 3, rv b125, rv b126, .unset, .unset, .unset, .unset, .unset] [])) (fun t k => XS.icmpNo X130.here hx rfl (hb hby at_41) rfl (XT.ii_le_f (by decide)) k) ?_
    refine Go.pull (V := T130.setTop (mkF m 46 #[iv ps, iv pe, iv pa, iv pb, iv pd, iv pq, iv 3, rv b125, rv b126, .unset, .unset, .unset, .unset, .unset] [(.ref b125)])) (fun t k => XS.aload X130.here hx rfl (hb hby at_44) rfl rfl k) ?_
    refine Go.pull (V := T130.setTop (mkF m 47 #[iv ps, iv pe, iv pa, iv pb, iv pd, iv pq, iv 3, rv b125, rv b126, .unset, .unset, .unset, .unset, .unset] [(.int 2), (.ref b125)])) (fun t k => XS.iconst X130.here hx rfl (hb hby at_46) k) ?_
    refine Go.pull (V := T130.setTop (mkF m 49 #[iv ps, iv pe, iv pa, iv pb, iv pd, iv pq, iv 3, rv b125, rv b126, .unset, .unset, .unset, .unset, .unset] [(.int pd), (.int 2), (.ref b125)])) (fun t k => XS.iload X130.here hx rfl (hb hby at_47) rfl  k) ?_
    obtain ⟨cl131, Ar131, q131, S131, M131, Hs131, G131⟩ := id V130
    have hin131 : ¬ ((2 : Int32) < 0 ∨ cl131.slots.size ≤ ((2 : Int32)).toNatClampNeg) := inb_of S131 ⟨by decide, by decide⟩
    obtain ⟨T132, h132, X132, e132, W132, st132⟩ := stI X130 hx hZ e130 Ar131 (j := (2 : Int32)) hin131 (g := (mkF m 49 #[iv ps, iv pe, iv pa, iv pb, iv pd, iv pq, iv 3, rv b125, rv b126, .unset, .unset, .unset, .unset, .unset] [(.int pd), (.int 2), (.ref b125)])) rfl rfl (hb hby at_49)
    have V132 : Arv Z h132 b125 k125 .int (3 : Int32) [(.int pa), (.int pb), (.int pd)] (.int 0) := Arv.set Ar131 q131 S131 M131 Hs131 G131 rfl W132 2 rfl (Nat.le_of_ble_eq_true rfl)
    have K132 : Keep h0 h132 [] := K130.wr W132 (Or.inr sz_b125)
    have N132 := Fr.snoc X132 N130 g_b125
    refine Go.pull (V := T132.setTop (mkF m 50 #[iv ps, iv pe, iv pa, iv pb, iv pd, iv pq, iv 3, rv b125, rv b126, .unset, .unset, .unset, .unset, .unset] [])) st132 ?_
    refine Go.pull (V := T132.setTop (mkF m 51 #[iv ps, iv pe, iv pa, iv pb, iv pd, iv pq, iv 3, rv b125, rv b126, .unset, .unset, .unset, .unset, .unset] [(.int 0)])) (fun t k => XS.iconst X132.here hx rfl (hb hby at_50) k) ?_
    obtain ⟨T133, h133, k133, X133, e133, E133, A133, st133⟩ := newP X132 hx hZ (hw _ (List.mem_of_getElem? (i := 0) rfl)) e132 (g := (mkF m 51 #[iv ps, iv pe, iv pa, iv pb, iv pd, iv pq, iv 3, rv b125, rv b126, .unset, .unset, .unset, .unset, .unset] [(.int 0)])) rfl (hb hby at_51) rfl (by decide) (cap := 0) (by decide) (by decide) (by decide) (by decide)
    obtain ⟨b133, g133⟩ : ∃ z, z = h132.size := ⟨_, rfl⟩
    rw [← g133] at A133 st133
    have ne_b125_b133 : b125 ≠ b133 := Nat.ne_of_lt (Nat.lt_of_lt_of_le V132.lt (Nat.le_of_eq g133.symm))
    have ne_b126_b133 : b126 ≠ b133 := Nat.ne_of_lt (Nat.lt_of_lt_of_le (((V126.other W128 (Ne.symm (ne_b125_b126))).other W130 (Ne.symm (ne_b125_b126))).other W132 (Ne.symm (ne_b125_b126))).lt (Nat.le_of_eq g133.symm))
    have sz_b133 : h0.size ≤ b133 := Nat.le_trans (K132).1 (Nat.le_of_eq g133.symm)
    have g_b133 : n0 ≤ b133 := Nat.le_trans Z0 sz_b133
    have K133 : Keep h0 h133 [] := K132.ext E133
    have V133 : Arv Z h133 b133 k133 .int (0 : Int32) [] (.int 0) := (Arv.new A133 (by decide)).pad (pad_rep [] (.int 0) 0)
    refine Go.pull (V := T133.setTop (mkF m 53 #[iv ps, iv pe, iv pa, iv pb, iv pd, iv pq, iv 3, rv b125, rv b126, .unset, .unset, .unset, .unset, .unset] [(.ref b133)])) st133 ?_
    refine Go.pull (V := T133.setTop (mkF m 55 #[iv ps, iv pe, iv pa, iv pb, iv pd, iv pq, iv 3, rv b125, rv b126, rv b133, .unset, .unset, .unset, .unset] [])) (fun t k => XS.astore X133.here hx rfl (hb hby at_53) rfl rfl (l' := #[iv ps, iv pe, iv pa, iv pb, iv pd, iv pq, iv 3, rv b125, rv b126, rv b133, .unset, .unset, .unset, .unset]) rfl k) ?_
    refine Go.pull (V := T133.setTop (mkF m 56 #[iv ps, iv pe, iv pa, iv pb, iv pd, iv pq, iv 3, rv b125, rv b126, rv b133, .unset, .unset, .unset, .unset] [(.int pe)])) (fun t k => XS.iloadN X133.here hx rfl (hb hby at_55) rfl  k) ?_
    refine Go.pull (V := T133.setTop (mkF m 57 #[iv ps, iv pe, iv pa, iv pb, iv pd, iv pq, iv 3, rv b125, rv b126, rv b133, .unset, .unset, .unset, .unset] [(.int 3), (.int pe)])) (fun t k => XS.iconst X133.here hx rfl (hb hby at_56) k) ?_
    refine Go.pull (V := T133.setTop (mkF m 58 #[iv ps, iv pe, iv pa, iv pb, iv pd, iv pq, iv 3, rv b125, rv b126, rv b133, .unset, .unset, .unset, .unset] [(.int (pe &&& (3 : Int32)))])) (fun t k => XS.iand X133.here hx rfl (hb hby at_57) rfl k) ?_
    refine Go.pull (V := T133.setTop (mkF m 60 #[iv ps, iv pe, iv pa, iv pb, iv pd, iv pq, iv 3, rv b125, rv b126, rv b133, .unset, .unset, .unset, .unset] [(.int 3), (.int (pe &&& (3 : Int32)))])) (fun t k => XS.iload X133.here hx rfl (hb hby at_58) rfl  k) ?_
    refine Go.pull (V := T133.setTop (mkF m 61 #[iv ps, iv pe, iv pa, iv pb, iv pd, iv pq, iv 3, rv b125, rv b126, rv b133, .unset, .unset, .unset, .unset] [(.int 1), (.int 3), (.int (pe &&& (3 : Int32)))])) (fun t k => XS.iconst X133.here hx rfl (hb hby at_60) k) ?_
    refine Go.pull (V := T133.setTop (mkF m 62 #[iv ps, iv pe, iv pa, iv pb, iv pd, iv pq, iv 3, rv b125, rv b126, rv b133, .unset, .unset, .unset, .unset] [(.int 4), (.int (pe &&& (3 : Int32)))])) (fun t k => XS.iadd X133.here hx rfl (hb hby at_61) rfl k) ?_
    refine Go.pull (V := T133.setTop (mkF m 63 #[iv ps, iv pe, iv pa, iv pb, iv pd, iv pq, iv 3, rv b125, rv b126, rv b133, .unset, .unset, .unset, .unset] [(.int ((pe &&& (3 : Int32)) % (4 : Int32)))])) (fun t k => iremM X133 hx rfl (hb hby at_62) rfl (by decide) k) ?_
    refine Go.pull (V := T133.setTop (mkF m 65 #[iv ps, iv pe, iv pa, iv pb, iv pd, iv pq, iv 3, rv b125, rv b126, rv b133, iv ((pe &&& (3 : Int32)) % (4 : Int32)), .unset, .unset, .unset] [])) (fun t k => XS.istore X133.here hx rfl (hb hby at_63) rfl (l' := #[iv ps, iv pe, iv pa, iv pb, iv pd, iv pq, iv 3, rv b125, rv b126, rv b133, iv ((pe &&& (3 : Int32)) % (4 : Int32)), .unset, .unset, .unset]) rfl k) ?_
    generalize gv134 : ((pe &&& (3 : Int32)) % (4 : Int32)) = v134
    obtain hv134 | hv134 | hv134 | hv134 := own_rem4 _ gv134
    · subst hv134
      refine Go.pull (V := T133.setTop (mkF m 67 #[iv ps, iv pe, iv pa, iv pb, iv pd, iv pq, iv 3, rv b125, rv b126, rv b133, iv 0, .unset, .unset, .unset] [(.int pq)])) (fun t k => XS.iload X133.here hx rfl (hb hby at_65) rfl  k) ?_
      refine Go.pull (V := T133.setTop (mkF m 69 #[iv ps, iv pe, iv pa, iv pb, iv pd, iv pq, iv 3, rv b125, rv b126, rv b133, iv 0, iv pq, .unset, .unset] [])) (fun t k => XS.istore X133.here hx rfl (hb hby at_67) rfl (l' := #[iv ps, iv pe, iv pa, iv pb, iv pd, iv pq, iv 3, rv b125, rv b126, rv b133, iv 0, iv pq, .unset, .unset]) rfl k) ?_
      refine Go.pull (V := T133.setTop (mkF m 70 #[iv ps, iv pe, iv pa, iv pb, iv pd, iv pq, iv 3, rv b125, rv b126, rv b133, iv 0, iv pq, .unset, .unset] [(.int pe)])) (fun t k => XS.iloadN X133.here hx rfl (hb hby at_69) rfl  k) ?_
      refine Go.pull (V := T133.setTop (mkF m 71 #[iv ps, iv pe, iv pa, iv pb, iv pd, iv pq, iv 3, rv b125, rv b126, rv b133, iv 0, iv pq, .unset, .unset] [(.int 4), (.int pe)])) (fun t k => XS.iconst X133.here hx rfl (hb hby at_70) k) ?_
      refine Go.pull (V := T133.setTop (mkF m 72 #[iv ps, iv pe, iv pa, iv pb, iv pd, iv pq, iv 3, rv b125, rv b126, rv b133, iv 0, iv pq, .unset, .unset] [(.int (pe &&& (4 : Int32)))])) (fun t k => XS.iand X133.here hx rfl (hb hby at_71) rfl k) ?_
      by_cases hc72_135 : (pe &&& (4 : Int32)) = 0
      · skip
        refine Go.pull (V := T133.setTop (mkF m 93 #[iv ps, iv pe, iv pa, iv pb, iv pd, iv pq, iv 3, rv b125, rv b126, rv b133, iv 0, iv pq, .unset, .unset] [])) (fun t k => XS.ifYes X133.here hx rfl (pc0 := 72) (pc' := 93) rfl (hb hby at_72) rfl (XT.i0_eq_t hc72_135) (by decide) (by decide) k) ?_
        obtain ⟨T136, h136, X136, e136, E136, A136, D136, -, st136⟩ := newO X133 hx hZ hown (hw _ (List.mem_of_getElem? (i := 1) rfl)) (hw _ (List.mem_of_getElem? (i := 2) rfl)) (hw _ (List.mem_of_getElem? (i := 3) rfl)) e133 (g := (mkF m 93 #[iv ps, iv pe, iv pa, iv pb, iv pd, iv pq, iv 3, rv b125, rv b126, rv b133, iv 0, iv pq, .unset, .unset] [])) rfl (hb hby at_93) (by decide) (by decide)
        obtain ⟨b136, g136⟩ : ∃ z, z = h133.size := ⟨_, rfl⟩
        rw [← g136] at A136 D136 st136
        have ne_b125_b136 : b125 ≠ b136 := Nat.ne_of_lt (Nat.lt_of_lt_of_le (V132.ext E133).lt (Nat.le_of_eq g136.symm))
        have ne_b126_b136 : b126 ≠ b136 := Nat.ne_of_lt (Nat.lt_of_lt_of_le ((((V126.other W128 (Ne.symm (ne_b125_b126))).other W130 (Ne.symm (ne_b125_b126))).other W132 (Ne.symm (ne_b125_b126))).ext E133).lt (Nat.le_of_eq g136.symm))
        have ne_b133_b136 : b133 ≠ b136 := Nat.ne_of_lt (Nat.lt_of_lt_of_le V133.lt (Nat.le_of_eq g136.symm))
        have sz_b136 : h0.size ≤ b136 := Nat.le_trans (K133).1 (Nat.le_of_eq g136.symm)
        have g_b136 : n0 ≤ b136 := Nat.le_trans Z0 sz_b136
        have K136 : Keep h0 h136 [] := K133.ext E136
        have F137 : Fld Z h136 b136 "com/example/threshold/threshold/PostingList" "documents" "[I" .null := D136 (Or.inr (hw _ (List.mem_of_getElem? (i := 11) rfl))) (ty := (.array .int)) (by decide)
        have F138 : Fld Z h136 b136 "com/example/threshold/threshold/PostingList" "counts" "[I" .null := D136 (Or.inr (hw _ (List.mem_of_getElem? (i := 13) rfl))) (ty := (.array .int)) (by decide)
        have F139 : Fld Z h136 b136 "com/example/threshold/threshold/PostingList" "collectionFrequency" "J" (.long 0) := D136 (Or.inr (hw _ (List.mem_of_getElem? (i := 15) rfl))) (ty := .long) (by decide)
        have F140 : Fld Z h136 b136 "com/example/threshold/threshold/PostingList" "lengths" "[I" .null := D136 (Or.inr (hw _ (List.mem_of_getElem? (i := 17) rfl))) (ty := (.array .int)) (by decide)
        refine Go.pull (V := T136.setTop (mkF m 96 #[iv ps, iv pe, iv pa, iv pb, iv pd, iv pq, iv 3, rv b125, rv b126, rv b133, iv 0, iv pq, .unset, .unset] [(.ref b136)])) st136 ?_
        refine Go.pull (V := T136.setTop (mkF m 97 #[iv ps, iv pe, iv pa, iv pb, iv pd, iv pq, iv 3, rv b125, rv b126, rv b133, iv 0, iv pq, .unset, .unset] [(.ref b136), (.ref b136)])) (fun t k => XS.dup X136.here hx rfl (hb hby at_96) rfl rfl k) ?_
        refine Go.pull (V := T136.setTop (mkF m 99 #[iv ps, iv pe, iv pa, iv pb, iv pd, iv pq, iv 3, rv b125, rv b126, rv b133, iv 0, iv pq, .unset, .unset] [(.ref b125), (.ref b136), (.ref b136)])) (fun t k => XS.aload X136.here hx rfl (hb hby at_97) rfl rfl k) ?_
        refine Go.pull (V := T136.setTop (mkF m 101 #[iv ps, iv pe, iv pa, iv pb, iv pd, iv pq, iv 3, rv b125, rv b126, rv b133, iv 0, iv pq, .unset, .unset] [(.ref b126), (.ref b125), (.ref b136), (.ref b136)])) (fun t k => XS.aload X136.here hx rfl (hb hby at_99) rfl rfl k) ?_
        refine Go.pull (V := T136.setTop (mkF m 102 #[iv ps, iv pe, iv pa, iv pb, iv pd, iv pq, iv 3, rv b125, rv b126, rv b133, iv 0, iv pq, .unset, .unset] [(.long 0), (.ref b126), (.ref b125), (.ref b136), (.ref b136)])) (fun t k => XS.lconst X136.here hx rfl (hb hby at_101) k) ?_
        refine Go.pull (V := T136.setTop (mkF m 104 #[iv ps, iv pe, iv pa, iv pb, iv pd, iv pq, iv 3, rv b125, rv b126, rv b133, iv 0, iv pq, .unset, .unset] [(.ref b133), (.long 0), (.ref b126), (.ref b125), (.ref b136), (.ref b136)])) (fun t k => XS.aload X136.here hx rfl (hb hby at_102) rfl rfl k) ?_
        obtain ⟨_, _, ⟨T141, L141, k141, n141⟩, -, X141, ⟨Lc141, hQ141, l141, y141, z141⟩, st141⟩ := X136.specialBack hx (y := (⟨"com/example/threshold/threshold/PostingList", "<init>", "([I[IJ[I)V"⟩ : MethodName)) rfl hown (mvT hZ (hw _ (List.mem_of_getElem? (i := 4) rfl))) (mvT hZ (hw _ (List.mem_of_getElem? (i := 5) rfl))) (mvT hZ (hw _ (List.mem_of_getElem? (i := 6) rfl))) (by decide) (backOf (W := 1) (rmI l Z a0 hw [] b136 b125 b126 (0 : Int64) b133 .null .null (.long 0) .null h136 n0 (g_b136) A136 F137 F138 F139 F140) hZ (hw _ (List.mem_of_getElem? (i := 6) rfl)) (hw _ (List.mem_of_getElem? (i := 3) rfl)) (by decide) (by decide)) (g := (mkF m 104 #[iv ps, iv pe, iv pa, iv pb, iv pd, iv pq, iv 3, rv b125, rv b126, rv b133, iv 0, iv pq, .unset, .unset] [(.ref b133), (.long 0), (.ref b126), (.ref b125), (.ref b136), (.ref b136)])) rfl (by rw [hml]; rfl) (Steps.refl _) (a := b136) (argsL := [(.ref b125), (.ref b126), (.long 0), (.ref b133)]) (rest := [(.ref b136)]) (lenOf pd_0 rfl) rfl (by show 2 * 0 + _ ≤ _; exact Nat.le_of_eq rfl) (hb hby at_104) (fun _ _ => ⟨rfl, e136, (by decide : 4 + 0 ≤ _), (by decide : 11 + 0 ≤ _)⟩)
        dsimp only [Pt.U, Pt.locs, Pt.cells, Pt.slots] at X141 l141 y141 z141 st141 hQ141
        subst l141 y141 z141
        obtain ⟨rfl, N141q, Kc141, Fc141_0⟩ := hQ141
        have K141 : Keep h0 T141.heap [] := K136.trans Kc141 ((allS (Or.inr sz_b136) all0))
        have N141 := Fr.app N132 N141q
        refine Go.pull (V := T141.setTop (mkF m 107 #[iv ps, iv pe, iv pa, iv pb, iv pd, iv pq, iv 3, rv b125, rv b126, rv b133, iv 0, iv pq, .unset, .unset] [(.ref b136)])) (fun _ k => st141.trans k) ?_
        refine Go.pull (V := T141.setTop (mkF m 109 #[iv ps, iv pe, iv pa, iv pb, iv pd, iv pq, iv 3, rv b125, rv b126, rv b133, iv 0, iv pq, rv b136, .unset] [])) (fun t k => XS.astore X141.here hx rfl (hb hby at_107) rfl rfl (l' := #[iv ps, iv pe, iv pa, iv pb, iv pd, iv pq, iv 3, rv b125, rv b126, rv b133, iv 0, iv pq, rv b136, .unset]) rfl k) ?_
        refine Go.pull (V := T141.setTop (mkF m 111 #[iv ps, iv pe, iv pa, iv pb, iv pd, iv pq, iv 3, rv b125, rv b126, rv b133, iv 0, iv pq, rv b136, .unset] [(.int 0)])) (fun t k => XS.iload X141.here hx rfl (hb hby at_109) rfl  k) ?_
        refine Go.pull (V := T141.setTop (mkF m 113 #[iv ps, iv pe, iv pa, iv pb, iv pd, iv pq, iv 3, rv b125, rv b126, rv b133, iv 0, iv pq, rv b136, .unset] [(.int 3), (.int 0)])) (fun t k => XS.iload X141.here hx rfl (hb hby at_111) rfl  k) ?_
        refine Go.pull (V := T141.setTop (mkF m 122 #[iv ps, iv pe, iv pa, iv pb, iv pd, iv pq, iv 3, rv b125, rv b126, rv b133, iv 0, iv pq, rv b136, .unset] [])) (fun t k => XS.icmpYes X141.here hx rfl (pc0 := 113) (pc' := 122) rfl (hb hby at_113) rfl (XT.ii_lt_t (by decide)) (by decide) (by decide) k) ?_
        refine Go.pull (V := T141.setTop (mkF m 124 #[iv ps, iv pe, iv pa, iv pb, iv pd, iv pq, iv 3, rv b125, rv b126, rv b133, iv 0, iv pq, rv b136, .unset] [(.int 0)])) (fun t k => XS.iload X141.here hx rfl (hb hby at_122) rfl  k) ?_
        refine Go.pull (V := T141.setTop (mkF m 125 #[iv ps, iv pe, iv pa, iv pb, iv pd, iv pq, iv 3, rv b125, rv b126, rv b133, iv 0, iv pq, rv b136, .unset] [(.int pa), (.int 0)])) (fun t k => XS.iloadN X141.here hx rfl (hb hby at_124) rfl  k) ?_
        refine Go.pull (V := T141.setTop (mkF m 126 #[iv ps, iv pe, iv pa, iv pb, iv pd, iv pq, iv 3, rv b125, rv b126, rv b133, iv 0, iv pq, rv b136, .unset] [(.int pb), (.int pa), (.int 0)])) (fun t k => XS.iloadN X141.here hx rfl (hb hby at_125) rfl  k) ?_
        refine Go.pull (V := T141.setTop (mkF m 128 #[iv ps, iv pe, iv pa, iv pb, iv pd, iv pq, iv 3, rv b125, rv b126, rv b133, iv 0, iv pq, rv b136, .unset] [(.int pd), (.int pb), (.int pa), (.int 0)])) (fun t k => XS.iload X141.here hx rfl (hb hby at_126) rfl  k) ?_
        obtain ⟨_, _, ⟨T142, L142, k142, n142⟩, -, X142, ⟨Lc142, hQ142, l142, y142, z142⟩, st142⟩ := Jvm.LawKit.callS X141 hx (y := (⟨"com/example/threshold/threshold/PostingListHoldsAtPinLaw", "at", "(IIII)I"⟩ : MethodName)) hown (mvT hZ (hw _ (List.mem_of_getElem? (i := 23) rfl))) (mvT hZ (hw _ (List.mem_of_getElem? (i := 24) rfl))) (mvT hZ (hw _ (List.mem_of_getElem? (i := 25) rfl))) (mvT hZ (hw _ (List.mem_of_getElem? (i := 26) rfl))) (by decide) (backOf (W := 0) (rmT l Z a0 hw [] (0 : Int32) pa pb pd T141.heap n0 ) hZ (hw _ (List.mem_of_getElem? (i := 26) rfl)) (hw _ (List.mem_of_getElem? (i := 25) rfl)) (by decide) (by decide)) (g := (mkF m 128 #[iv ps, iv pe, iv pa, iv pb, iv pd, iv pq, iv 3, rv b125, rv b126, rv b133, iv 0, iv pq, rv b136, .unset] [(.int pd), (.int pb), (.int pa), (.int 0)])) rfl (by rw [hml]; rfl) (argsL := [(.int 0), (.int pa), (.int pb), (.int pd)]) (rest := []) (lenOf pd_2 rfl) rfl (by show 2 * 0 + _ ≤ _; exact Nat.le_of_eq rfl) (hb hby at_128) (fun _ _ => ⟨rfl, rfl, (by decide : 4 + 0 ≤ _), (by decide : 11 + 0 ≤ _)⟩)
        dsimp only [Pt.U, Pt.locs, Pt.cells, Pt.slots] at X142 l142 y142 z142 st142 hQ142
        subst l142 y142 z142
        obtain ⟨hv142, N142q, e142⟩ := hQ142
        rw [(show (own_at (0 : Int32) pa pb pd) = pa from by rw [own_at, if_pos rfl])] at hv142; subst hv142
        have N142 := Fr.app N141 N142q
        refine Go.pull (V := T142.setTop (mkF m 131 #[iv ps, iv pe, iv pa, iv pb, iv pd, iv pq, iv 3, rv b125, rv b126, rv b133, iv 0, iv pq, rv b136, .unset] [(.int pa)])) st142 ?_
        refine Go.pull (V := T142.setTop (mkF m 133 #[iv ps, iv pe, iv pa, iv pb, iv pd, iv pq, iv 3, rv b125, rv b126, rv b133, iv 0, iv pq, rv b136, .unset] [(.int pq), (.int pa)])) (fun t k => XS.iload X142.here hx rfl (hb hby at_131) rfl  k) ?_
        by_cases hc133_143 : pa = pq
        · skip
          refine Go.pull (V := T142.setTop (mkF m 136 #[iv ps, iv pe, iv pa, iv pb, iv pd, iv pq, iv 3, rv b125, rv b126, rv b133, iv 0, iv pq, rv b136, .unset] [])) (fun t k => XS.icmpNo X142.here hx rfl (hb hby at_133) rfl (XT.ii_ne_f hc133_143) k) ?_
          refine Go.pull (V := T142.setTop (mkF m 137 #[iv ps, iv pe, iv pa, iv pb, iv pd, iv pq, iv 3, rv b125, rv b126, rv b133, iv 0, iv pq, rv b136, .unset] [(.int 1)])) (fun t k => XS.iconst X142.here hx rfl (hb hby at_136) k) ?_
          refine Go.pull (V := T142.setTop (mkF m 141 #[iv ps, iv pe, iv pa, iv pb, iv pd, iv pq, iv 3, rv b125, rv b126, rv b133, iv 0, iv pq, rv b136, .unset] [(.int 1)])) (fun t k => XS.goto X142.here hx rfl (pc0 := 137) (pc' := 141) rfl (hb hby at_137) (by decide) (by decide) k) ?_
          refine Go.pull (V := T142.setTop (mkF m 143 #[iv ps, iv pe, iv pa, iv pb, iv pd, iv pq, iv 3, rv b125, rv b126, rv b133, iv 0, iv pq, rv b136, iv 1] [])) (fun t k => XS.istore X142.here hx rfl (hb hby at_141) rfl (l' := #[iv ps, iv pe, iv pa, iv pb, iv pd, iv pq, iv 3, rv b125, rv b126, rv b133, iv 0, iv pq, rv b136, iv 1]) rfl k) ?_
          refine Go.pull (V := T142.setTop (mkF m 145 #[iv ps, iv pe, iv pa, iv pb, iv pd, iv pq, iv 3, rv b125, rv b126, rv b133, iv 0, iv pq, rv b136, iv 1] [(.ref b136)])) (fun t k => XS.aload X142.here hx rfl (hb hby at_143) rfl rfl k) ?_
          refine Go.pull (V := T142.setTop (mkF m 147 #[iv ps, iv pe, iv pa, iv pb, iv pd, iv pq, iv 3, rv b125, rv b126, rv b133, iv 0, iv pq, rv b136, iv 1] [(.int 0), (.ref b136)])) (fun t k => XS.iload X142.here hx rfl (hb hby at_145) rfl  k) ?_
          refine Go.pull (V := T142.setTop (mkF m 149 #[iv ps, iv pe, iv pa, iv pb, iv pd, iv pq, iv 3, rv b125, rv b126, rv b133, iv 0, iv pq, rv b136, iv 1] [(.int pq), (.int 0), (.ref b136)])) (fun t k => XS.iload X142.here hx rfl (hb hby at_147) rfl  k) ?_
          obtain ⟨cq144, kq144, q144a, q144b, q144c⟩ := isOf hZ e142 (A136.keep Kc141)
          obtain ⟨_, _, ⟨T144, L144, k144, n144⟩, -, X144, ⟨Lc144, hQ144, l144, y144, z144⟩, st144⟩ := X142.virtualBack hx (y := (⟨"com/example/threshold/threshold/PostingList", "holdsAt", "(II)Z"⟩ : MethodName)) (z := (⟨"com/example/threshold/threshold/PostingList", "holdsAt", "(II)Z"⟩ : MethodName)) hown (mvT hZ (hw _ (List.mem_of_getElem? (i := 18) rfl))) (mvT hZ (hw _ (List.mem_of_getElem? (i := 19) rfl))) (notFace_of_selects (args := #[]) (mvT hZ (hw _ (List.mem_of_getElem? (i := 21) rfl)))) (mvT hZ (hw _ (List.mem_of_getElem? (i := 21) rfl))) (mvT hZ (hw _ (List.mem_of_getElem? (i := 20) rfl))) (by decide) (backOf (W := 0) (rmA l Z a0 hw [] b136 (0 : Int32) pq b125 k125 (3 : Int32) ([(.int pa), (.int pb), (.int pd)] : List Value) pa T141.heap n0 Fc141_0 (((V132.ext E133).ext E136).keep Kc141 (ninS (ne_b125_b136) nin0)) rfl (by decide)) hZ (hw _ (List.mem_of_getElem? (i := 22) rfl)) (hw _ (List.mem_of_getElem? (i := 3) rfl)) (by decide) (by decide)) q144a q144c (g := (mkF m 149 #[iv ps, iv pe, iv pa, iv pb, iv pd, iv pq, iv 3, rv b125, rv b126, rv b133, iv 0, iv pq, rv b136, iv 1] [(.int pq), (.int 0), (.ref b136)])) rfl (by rw [hml]; rfl) (Steps.refl _) (argsL := [(.int 0), (.int pq)]) (rest := []) (lenOf pd_1 rfl) rfl (by show 2 * 0 + _ ≤ _; exact Nat.le_of_eq rfl) (hb hby at_149) (fun _ _ => ⟨rfl, e142, (by decide : 4 + 0 ≤ _), (by decide : 11 + 0 ≤ _)⟩)
          dsimp only [Pt.U, Pt.locs, Pt.cells, Pt.slots] at X144 l144 y144 z144 st144 hQ144
          subst l144 y144 z144
          obtain ⟨hv144, N144q, e144⟩ := hQ144
          rw [(show (own_hold (0 : Int32) (3 : Int32) pq pa) = (1 : Int32) from by rw [own_hold, if_pos (by decide), if_pos hc133_143])] at hv144; subst hv144
          have N144 := Fr.app N142 N144q
          refine Go.pull (V := T144.setTop (mkF m 152 #[iv ps, iv pe, iv pa, iv pb, iv pd, iv pq, iv 3, rv b125, rv b126, rv b133, iv 0, iv pq, rv b136, iv 1] [(.int 1)])) (fun _ k => st144.trans k) ?_
          refine Go.pull (V := T144.setTop (mkF m 154 #[iv ps, iv pe, iv pa, iv pb, iv pd, iv pq, iv 3, rv b125, rv b126, rv b133, iv 0, iv pq, rv b136, iv 1] [(.int 1), (.int 1)])) (fun t k => XS.iload X144.here hx rfl (hb hby at_152) rfl  k) ?_
          refine Go.pull (V := T144.setTop (mkF m 157 #[iv ps, iv pe, iv pa, iv pb, iv pd, iv pq, iv 3, rv b125, rv b126, rv b133, iv 0, iv pq, rv b136, iv 1] [])) (fun t k => XS.icmpNo X144.here hx rfl (hb hby at_154) rfl (XT.ii_ne_f (by decide)) k) ?_
          refine Go.pull (V := T144.setTop (mkF m 158 #[iv ps, iv pe, iv pa, iv pb, iv pd, iv pq, iv 3, rv b125, rv b126, rv b133, iv 0, iv pq, rv b136, iv 1] [(.int 1)])) (fun t k => XS.iconst X144.here hx rfl (hb hby at_157) k) ?_
          refine Go.pull (V := T144.setTop (mkF m 162 #[iv ps, iv pe, iv pa, iv pb, iv pd, iv pq, iv 3, rv b125, rv b126, rv b133, iv 0, iv pq, rv b136, iv 1] [(.int 1)])) (fun t k => XS.goto X144.here hx rfl (pc0 := 158) (pc' := 162) rfl (hb hby at_158) (by decide) (by decide) k) ?_
          exact Go.retN X144 hx Bd.notSynchronized (t := .boolean) Bd.returns (by simp) (hb hby at_162) ⟨rfl, N144⟩ (by decide) (by decide)
        · skip
          refine Go.pull (V := T142.setTop (mkF m 140 #[iv ps, iv pe, iv pa, iv pb, iv pd, iv pq, iv 3, rv b125, rv b126, rv b133, iv 0, iv pq, rv b136, .unset] [])) (fun t k => XS.icmpYes X142.here hx rfl (pc0 := 133) (pc' := 140) rfl (hb hby at_133) rfl (XT.ii_ne_t hc133_143) (by decide) (by decide) k) ?_
          refine Go.pull (V := T142.setTop (mkF m 141 #[iv ps, iv pe, iv pa, iv pb, iv pd, iv pq, iv 3, rv b125, rv b126, rv b133, iv 0, iv pq, rv b136, .unset] [(.int 0)])) (fun t k => XS.iconst X142.here hx rfl (hb hby at_140) k) ?_
          refine Go.pull (V := T142.setTop (mkF m 143 #[iv ps, iv pe, iv pa, iv pb, iv pd, iv pq, iv 3, rv b125, rv b126, rv b133, iv 0, iv pq, rv b136, iv 0] [])) (fun t k => XS.istore X142.here hx rfl (hb hby at_141) rfl (l' := #[iv ps, iv pe, iv pa, iv pb, iv pd, iv pq, iv 3, rv b125, rv b126, rv b133, iv 0, iv pq, rv b136, iv 0]) rfl k) ?_
          refine Go.pull (V := T142.setTop (mkF m 145 #[iv ps, iv pe, iv pa, iv pb, iv pd, iv pq, iv 3, rv b125, rv b126, rv b133, iv 0, iv pq, rv b136, iv 0] [(.ref b136)])) (fun t k => XS.aload X142.here hx rfl (hb hby at_143) rfl rfl k) ?_
          refine Go.pull (V := T142.setTop (mkF m 147 #[iv ps, iv pe, iv pa, iv pb, iv pd, iv pq, iv 3, rv b125, rv b126, rv b133, iv 0, iv pq, rv b136, iv 0] [(.int 0), (.ref b136)])) (fun t k => XS.iload X142.here hx rfl (hb hby at_145) rfl  k) ?_
          refine Go.pull (V := T142.setTop (mkF m 149 #[iv ps, iv pe, iv pa, iv pb, iv pd, iv pq, iv 3, rv b125, rv b126, rv b133, iv 0, iv pq, rv b136, iv 0] [(.int pq), (.int 0), (.ref b136)])) (fun t k => XS.iload X142.here hx rfl (hb hby at_147) rfl  k) ?_
          obtain ⟨cq145, kq145, q145a, q145b, q145c⟩ := isOf hZ e142 (A136.keep Kc141)
          obtain ⟨_, _, ⟨T145, L145, k145, n145⟩, -, X145, ⟨Lc145, hQ145, l145, y145, z145⟩, st145⟩ := X142.virtualBack hx (y := (⟨"com/example/threshold/threshold/PostingList", "holdsAt", "(II)Z"⟩ : MethodName)) (z := (⟨"com/example/threshold/threshold/PostingList", "holdsAt", "(II)Z"⟩ : MethodName)) hown (mvT hZ (hw _ (List.mem_of_getElem? (i := 18) rfl))) (mvT hZ (hw _ (List.mem_of_getElem? (i := 19) rfl))) (notFace_of_selects (args := #[]) (mvT hZ (hw _ (List.mem_of_getElem? (i := 21) rfl)))) (mvT hZ (hw _ (List.mem_of_getElem? (i := 21) rfl))) (mvT hZ (hw _ (List.mem_of_getElem? (i := 20) rfl))) (by decide) (backOf (W := 0) (rmA l Z a0 hw [] b136 (0 : Int32) pq b125 k125 (3 : Int32) ([(.int pa), (.int pb), (.int pd)] : List Value) pa T141.heap n0 Fc141_0 (((V132.ext E133).ext E136).keep Kc141 (ninS (ne_b125_b136) nin0)) rfl (by decide)) hZ (hw _ (List.mem_of_getElem? (i := 22) rfl)) (hw _ (List.mem_of_getElem? (i := 3) rfl)) (by decide) (by decide)) q145a q145c (g := (mkF m 149 #[iv ps, iv pe, iv pa, iv pb, iv pd, iv pq, iv 3, rv b125, rv b126, rv b133, iv 0, iv pq, rv b136, iv 0] [(.int pq), (.int 0), (.ref b136)])) rfl (by rw [hml]; rfl) (Steps.refl _) (argsL := [(.int 0), (.int pq)]) (rest := []) (lenOf pd_1 rfl) rfl (by show 2 * 0 + _ ≤ _; exact Nat.le_of_eq rfl) (hb hby at_149) (fun _ _ => ⟨rfl, e142, (by decide : 4 + 0 ≤ _), (by decide : 11 + 0 ≤ _)⟩)
          dsimp only [Pt.U, Pt.locs, Pt.cells, Pt.slots] at X145 l145 y145 z145 st145 hQ145
          subst l145 y145 z145
          obtain ⟨hv145, N145q, e145⟩ := hQ145
          rw [(show (own_hold (0 : Int32) (3 : Int32) pq pa) = (0 : Int32) from by rw [own_hold, if_pos (by decide), if_neg hc133_143])] at hv145; subst hv145
          have N145 := Fr.app N142 N145q
          refine Go.pull (V := T145.setTop (mkF m 152 #[iv ps, iv pe, iv pa, iv pb, iv pd, iv pq, iv 3, rv b125, rv b126, rv b133, iv 0, iv pq, rv b136, iv 0] [(.int 0)])) (fun _ k => st145.trans k) ?_
          refine Go.pull (V := T145.setTop (mkF m 154 #[iv ps, iv pe, iv pa, iv pb, iv pd, iv pq, iv 3, rv b125, rv b126, rv b133, iv 0, iv pq, rv b136, iv 0] [(.int 0), (.int 0)])) (fun t k => XS.iload X145.here hx rfl (hb hby at_152) rfl  k) ?_
          refine Go.pull (V := T145.setTop (mkF m 157 #[iv ps, iv pe, iv pa, iv pb, iv pd, iv pq, iv 3, rv b125, rv b126, rv b133, iv 0, iv pq, rv b136, iv 0] [])) (fun t k => XS.icmpNo X145.here hx rfl (hb hby at_154) rfl (XT.ii_ne_f (by decide)) k) ?_
          refine Go.pull (V := T145.setTop (mkF m 158 #[iv ps, iv pe, iv pa, iv pb, iv pd, iv pq, iv 3, rv b125, rv b126, rv b133, iv 0, iv pq, rv b136, iv 0] [(.int 1)])) (fun t k => XS.iconst X145.here hx rfl (hb hby at_157) k) ?_
          refine Go.pull (V := T145.setTop (mkF m 162 #[iv ps, iv pe, iv pa, iv pb, iv pd, iv pq, iv 3, rv b125, rv b126, rv b133, iv 0, iv pq, rv b136, iv 0] [(.int 1)])) (fun t k => XS.goto X145.here hx rfl (pc0 := 158) (pc' := 162) rfl (hb hby at_158) (by decide) (by decide) k) ?_
          exact Go.retN X145 hx Bd.notSynchronized (t := .boolean) Bd.returns (by simp) (hb hby at_162) ⟨rfl, N145⟩ (by decide) (by decide)
      · skip
        refine Go.pull (V := T133.setTop (mkF m 75 #[iv ps, iv pe, iv pa, iv pb, iv pd, iv pq, iv 3, rv b125, rv b126, rv b133, iv 0, iv pq, .unset, .unset] [])) (fun t k => XS.ifNo X133.here hx rfl (hb hby at_72) rfl (XT.i0_eq_f hc72_135) k) ?_
        refine Go.pull (V := T133.setTop (mkF m 77 #[iv ps, iv pe, iv pa, iv pb, iv pd, iv pq, iv 3, rv b125, rv b126, rv b133, iv 0, iv pq, .unset, .unset] [(.int 0)])) (fun t k => XS.iload X133.here hx rfl (hb hby at_75) rfl  k) ?_
        refine Go.pull (V := T133.setTop (mkF m 79 #[iv ps, iv pe, iv pa, iv pb, iv pd, iv pq, iv 3, rv b125, rv b126, rv b133, iv 0, iv pq, .unset, .unset] [(.int 3), (.int 0)])) (fun t k => XS.iload X133.here hx rfl (hb hby at_77) rfl  k) ?_
        refine Go.pull (V := T133.setTop (mkF m 82 #[iv ps, iv pe, iv pa, iv pb, iv pd, iv pq, iv 3, rv b125, rv b126, rv b133, iv 0, iv pq, .unset, .unset] [])) (fun t k => XS.icmpNo X133.here hx rfl (hb hby at_79) rfl (XT.ii_ge_f (by decide)) k) ?_
        refine Go.pull (V := T133.setTop (mkF m 84 #[iv ps, iv pe, iv pa, iv pb, iv pd, iv pq, iv 3, rv b125, rv b126, rv b133, iv 0, iv pq, .unset, .unset] [(.int 0)])) (fun t k => XS.iload X133.here hx rfl (hb hby at_82) rfl  k) ?_
        refine Go.pull (V := T133.setTop (mkF m 85 #[iv ps, iv pe, iv pa, iv pb, iv pd, iv pq, iv 3, rv b125, rv b126, rv b133, iv 0, iv pq, .unset, .unset] [(.int pa), (.int 0)])) (fun t k => XS.iloadN X133.here hx rfl (hb hby at_84) rfl  k) ?_
        refine Go.pull (V := T133.setTop (mkF m 86 #[iv ps, iv pe, iv pa, iv pb, iv pd, iv pq, iv 3, rv b125, rv b126, rv b133, iv 0, iv pq, .unset, .unset] [(.int pb), (.int pa), (.int 0)])) (fun t k => XS.iloadN X133.here hx rfl (hb hby at_85) rfl  k) ?_
        refine Go.pull (V := T133.setTop (mkF m 88 #[iv ps, iv pe, iv pa, iv pb, iv pd, iv pq, iv 3, rv b125, rv b126, rv b133, iv 0, iv pq, .unset, .unset] [(.int pd), (.int pb), (.int pa), (.int 0)])) (fun t k => XS.iload X133.here hx rfl (hb hby at_86) rfl  k) ?_
        obtain ⟨_, _, ⟨T146, L146, k146, n146⟩, -, X146, ⟨Lc146, hQ146, l146, y146, z146⟩, st146⟩ := Jvm.LawKit.callS X133 hx (y := (⟨"com/example/threshold/threshold/PostingListHoldsAtPinLaw", "at", "(IIII)I"⟩ : MethodName)) hown (mvT hZ (hw _ (List.mem_of_getElem? (i := 23) rfl))) (mvT hZ (hw _ (List.mem_of_getElem? (i := 24) rfl))) (mvT hZ (hw _ (List.mem_of_getElem? (i := 25) rfl))) (mvT hZ (hw _ (List.mem_of_getElem? (i := 26) rfl))) (by decide) (backOf (W := 0) (rmT l Z a0 hw [] (0 : Int32) pa pb pd h133 n0 ) hZ (hw _ (List.mem_of_getElem? (i := 26) rfl)) (hw _ (List.mem_of_getElem? (i := 25) rfl)) (by decide) (by decide)) (g := (mkF m 88 #[iv ps, iv pe, iv pa, iv pb, iv pd, iv pq, iv 3, rv b125, rv b126, rv b133, iv 0, iv pq, .unset, .unset] [(.int pd), (.int pb), (.int pa), (.int 0)])) rfl (by rw [hml]; rfl) (argsL := [(.int 0), (.int pa), (.int pb), (.int pd)]) (rest := []) (lenOf pd_2 rfl) rfl (by show 2 * 0 + _ ≤ _; exact Nat.le_of_eq rfl) (hb hby at_88) (fun _ _ => ⟨rfl, e133, (by decide : 3 + 0 ≤ _), (by decide : 6 + 0 ≤ _)⟩)
        dsimp only [Pt.U, Pt.locs, Pt.cells, Pt.slots] at X146 l146 y146 z146 st146 hQ146
        subst l146 y146 z146
        obtain ⟨hv146, N146q, e146⟩ := hQ146
        rw [(show (own_at (0 : Int32) pa pb pd) = pa from by rw [own_at, if_pos rfl])] at hv146; subst hv146
        have N146 := Fr.app N132 N146q
        refine Go.pull (V := T146.setTop (mkF m 91 #[iv ps, iv pe, iv pa, iv pb, iv pd, iv pq, iv 3, rv b125, rv b126, rv b133, iv 0, iv pq, .unset, .unset] [(.int pa)])) st146 ?_
        refine Go.pull (V := T146.setTop (mkF m 93 #[iv ps, iv pe, iv pa, iv pb, iv pd, iv pq, iv 3, rv b125, rv b126, rv b133, iv 0, iv pa, .unset, .unset] [])) (fun t k => XS.istore X146.here hx rfl (hb hby at_91) rfl (l' := #[iv ps, iv pe, iv pa, iv pb, iv pd, iv pq, iv 3, rv b125, rv b126, rv b133, iv 0, iv pa, .unset, .unset]) rfl k) ?_
        obtain ⟨T147, h147, X147, e147, E147, A147, D147, -, st147⟩ := newO X146 hx hZ hown (hw _ (List.mem_of_getElem? (i := 1) rfl)) (hw _ (List.mem_of_getElem? (i := 2) rfl)) (hw _ (List.mem_of_getElem? (i := 3) rfl)) e146 (g := (mkF m 93 #[iv ps, iv pe, iv pa, iv pb, iv pd, iv pq, iv 3, rv b125, rv b126, rv b133, iv 0, iv pa, .unset, .unset] [])) rfl (hb hby at_93) (by decide) (by decide)
        obtain ⟨b147, g147⟩ : ∃ z, z = h133.size := ⟨_, rfl⟩
        rw [← g147] at A147 D147 st147
        have ne_b125_b147 : b125 ≠ b147 := Nat.ne_of_lt (Nat.lt_of_lt_of_le (V132.ext E133).lt (Nat.le_of_eq g147.symm))
        have ne_b126_b147 : b126 ≠ b147 := Nat.ne_of_lt (Nat.lt_of_lt_of_le ((((V126.other W128 (Ne.symm (ne_b125_b126))).other W130 (Ne.symm (ne_b125_b126))).other W132 (Ne.symm (ne_b125_b126))).ext E133).lt (Nat.le_of_eq g147.symm))
        have ne_b133_b147 : b133 ≠ b147 := Nat.ne_of_lt (Nat.lt_of_lt_of_le V133.lt (Nat.le_of_eq g147.symm))
        have sz_b147 : h0.size ≤ b147 := Nat.le_trans (K133).1 (Nat.le_of_eq g147.symm)
        have g_b147 : n0 ≤ b147 := Nat.le_trans Z0 sz_b147
        have K147 : Keep h0 h147 [] := K133.ext E147
        have F148 : Fld Z h147 b147 "com/example/threshold/threshold/PostingList" "documents" "[I" .null := D147 (Or.inr (hw _ (List.mem_of_getElem? (i := 11) rfl))) (ty := (.array .int)) (by decide)
        have F149 : Fld Z h147 b147 "com/example/threshold/threshold/PostingList" "counts" "[I" .null := D147 (Or.inr (hw _ (List.mem_of_getElem? (i := 13) rfl))) (ty := (.array .int)) (by decide)
        have F150 : Fld Z h147 b147 "com/example/threshold/threshold/PostingList" "collectionFrequency" "J" (.long 0) := D147 (Or.inr (hw _ (List.mem_of_getElem? (i := 15) rfl))) (ty := .long) (by decide)
        have F151 : Fld Z h147 b147 "com/example/threshold/threshold/PostingList" "lengths" "[I" .null := D147 (Or.inr (hw _ (List.mem_of_getElem? (i := 17) rfl))) (ty := (.array .int)) (by decide)
        refine Go.pull (V := T147.setTop (mkF m 96 #[iv ps, iv pe, iv pa, iv pb, iv pd, iv pq, iv 3, rv b125, rv b126, rv b133, iv 0, iv pa, .unset, .unset] [(.ref b147)])) st147 ?_
        refine Go.pull (V := T147.setTop (mkF m 97 #[iv ps, iv pe, iv pa, iv pb, iv pd, iv pq, iv 3, rv b125, rv b126, rv b133, iv 0, iv pa, .unset, .unset] [(.ref b147), (.ref b147)])) (fun t k => XS.dup X147.here hx rfl (hb hby at_96) rfl rfl k) ?_
        refine Go.pull (V := T147.setTop (mkF m 99 #[iv ps, iv pe, iv pa, iv pb, iv pd, iv pq, iv 3, rv b125, rv b126, rv b133, iv 0, iv pa, .unset, .unset] [(.ref b125), (.ref b147), (.ref b147)])) (fun t k => XS.aload X147.here hx rfl (hb hby at_97) rfl rfl k) ?_
        refine Go.pull (V := T147.setTop (mkF m 101 #[iv ps, iv pe, iv pa, iv pb, iv pd, iv pq, iv 3, rv b125, rv b126, rv b133, iv 0, iv pa, .unset, .unset] [(.ref b126), (.ref b125), (.ref b147), (.ref b147)])) (fun t k => XS.aload X147.here hx rfl (hb hby at_99) rfl rfl k) ?_
        refine Go.pull (V := T147.setTop (mkF m 102 #[iv ps, iv pe, iv pa, iv pb, iv pd, iv pq, iv 3, rv b125, rv b126, rv b133, iv 0, iv pa, .unset, .unset] [(.long 0), (.ref b126), (.ref b125), (.ref b147), (.ref b147)])) (fun t k => XS.lconst X147.here hx rfl (hb hby at_101) k) ?_
        refine Go.pull (V := T147.setTop (mkF m 104 #[iv ps, iv pe, iv pa, iv pb, iv pd, iv pq, iv 3, rv b125, rv b126, rv b133, iv 0, iv pa, .unset, .unset] [(.ref b133), (.long 0), (.ref b126), (.ref b125), (.ref b147), (.ref b147)])) (fun t k => XS.aload X147.here hx rfl (hb hby at_102) rfl rfl k) ?_
        obtain ⟨_, _, ⟨T152, L152, k152, n152⟩, -, X152, ⟨Lc152, hQ152, l152, y152, z152⟩, st152⟩ := X147.specialBack hx (y := (⟨"com/example/threshold/threshold/PostingList", "<init>", "([I[IJ[I)V"⟩ : MethodName)) rfl hown (mvT hZ (hw _ (List.mem_of_getElem? (i := 4) rfl))) (mvT hZ (hw _ (List.mem_of_getElem? (i := 5) rfl))) (mvT hZ (hw _ (List.mem_of_getElem? (i := 6) rfl))) (by decide) (backOf (W := 1) (rmI l Z a0 hw [] b147 b125 b126 (0 : Int64) b133 .null .null (.long 0) .null h147 n0 (g_b147) A147 F148 F149 F150 F151) hZ (hw _ (List.mem_of_getElem? (i := 6) rfl)) (hw _ (List.mem_of_getElem? (i := 3) rfl)) (by decide) (by decide)) (g := (mkF m 104 #[iv ps, iv pe, iv pa, iv pb, iv pd, iv pq, iv 3, rv b125, rv b126, rv b133, iv 0, iv pa, .unset, .unset] [(.ref b133), (.long 0), (.ref b126), (.ref b125), (.ref b147), (.ref b147)])) rfl (by rw [hml]; rfl) (Steps.refl _) (a := b147) (argsL := [(.ref b125), (.ref b126), (.long 0), (.ref b133)]) (rest := [(.ref b147)]) (lenOf pd_0 rfl) rfl (by show 2 * 0 + _ ≤ _; exact Nat.le_of_eq rfl) (hb hby at_104) (fun _ _ => ⟨rfl, e147, (by decide : 4 + 0 ≤ _), (by decide : 11 + 0 ≤ _)⟩)
        dsimp only [Pt.U, Pt.locs, Pt.cells, Pt.slots] at X152 l152 y152 z152 st152 hQ152
        subst l152 y152 z152
        obtain ⟨rfl, N152q, Kc152, Fc152_0⟩ := hQ152
        have K152 : Keep h0 T152.heap [] := K147.trans Kc152 ((allS (Or.inr sz_b147) all0))
        have N152 := Fr.app N146 N152q
        refine Go.pull (V := T152.setTop (mkF m 107 #[iv ps, iv pe, iv pa, iv pb, iv pd, iv pq, iv 3, rv b125, rv b126, rv b133, iv 0, iv pa, .unset, .unset] [(.ref b147)])) (fun _ k => st152.trans k) ?_
        refine Go.pull (V := T152.setTop (mkF m 109 #[iv ps, iv pe, iv pa, iv pb, iv pd, iv pq, iv 3, rv b125, rv b126, rv b133, iv 0, iv pa, rv b147, .unset] [])) (fun t k => XS.astore X152.here hx rfl (hb hby at_107) rfl rfl (l' := #[iv ps, iv pe, iv pa, iv pb, iv pd, iv pq, iv 3, rv b125, rv b126, rv b133, iv 0, iv pa, rv b147, .unset]) rfl k) ?_
        refine Go.pull (V := T152.setTop (mkF m 111 #[iv ps, iv pe, iv pa, iv pb, iv pd, iv pq, iv 3, rv b125, rv b126, rv b133, iv 0, iv pa, rv b147, .unset] [(.int 0)])) (fun t k => XS.iload X152.here hx rfl (hb hby at_109) rfl  k) ?_
        refine Go.pull (V := T152.setTop (mkF m 113 #[iv ps, iv pe, iv pa, iv pb, iv pd, iv pq, iv 3, rv b125, rv b126, rv b133, iv 0, iv pa, rv b147, .unset] [(.int 3), (.int 0)])) (fun t k => XS.iload X152.here hx rfl (hb hby at_111) rfl  k) ?_
        refine Go.pull (V := T152.setTop (mkF m 122 #[iv ps, iv pe, iv pa, iv pb, iv pd, iv pq, iv 3, rv b125, rv b126, rv b133, iv 0, iv pa, rv b147, .unset] [])) (fun t k => XS.icmpYes X152.here hx rfl (pc0 := 113) (pc' := 122) rfl (hb hby at_113) rfl (XT.ii_lt_t (by decide)) (by decide) (by decide) k) ?_
        refine Go.pull (V := T152.setTop (mkF m 124 #[iv ps, iv pe, iv pa, iv pb, iv pd, iv pq, iv 3, rv b125, rv b126, rv b133, iv 0, iv pa, rv b147, .unset] [(.int 0)])) (fun t k => XS.iload X152.here hx rfl (hb hby at_122) rfl  k) ?_
        refine Go.pull (V := T152.setTop (mkF m 125 #[iv ps, iv pe, iv pa, iv pb, iv pd, iv pq, iv 3, rv b125, rv b126, rv b133, iv 0, iv pa, rv b147, .unset] [(.int pa), (.int 0)])) (fun t k => XS.iloadN X152.here hx rfl (hb hby at_124) rfl  k) ?_
        refine Go.pull (V := T152.setTop (mkF m 126 #[iv ps, iv pe, iv pa, iv pb, iv pd, iv pq, iv 3, rv b125, rv b126, rv b133, iv 0, iv pa, rv b147, .unset] [(.int pb), (.int pa), (.int 0)])) (fun t k => XS.iloadN X152.here hx rfl (hb hby at_125) rfl  k) ?_
        refine Go.pull (V := T152.setTop (mkF m 128 #[iv ps, iv pe, iv pa, iv pb, iv pd, iv pq, iv 3, rv b125, rv b126, rv b133, iv 0, iv pa, rv b147, .unset] [(.int pd), (.int pb), (.int pa), (.int 0)])) (fun t k => XS.iload X152.here hx rfl (hb hby at_126) rfl  k) ?_
        obtain ⟨_, _, ⟨T153, L153, k153, n153⟩, -, X153, ⟨Lc153, hQ153, l153, y153, z153⟩, st153⟩ := Jvm.LawKit.callS X152 hx (y := (⟨"com/example/threshold/threshold/PostingListHoldsAtPinLaw", "at", "(IIII)I"⟩ : MethodName)) hown (mvT hZ (hw _ (List.mem_of_getElem? (i := 23) rfl))) (mvT hZ (hw _ (List.mem_of_getElem? (i := 24) rfl))) (mvT hZ (hw _ (List.mem_of_getElem? (i := 25) rfl))) (mvT hZ (hw _ (List.mem_of_getElem? (i := 26) rfl))) (by decide) (backOf (W := 0) (rmT l Z a0 hw [] (0 : Int32) pa pb pd T152.heap n0 ) hZ (hw _ (List.mem_of_getElem? (i := 26) rfl)) (hw _ (List.mem_of_getElem? (i := 25) rfl)) (by decide) (by decide)) (g := (mkF m 128 #[iv ps, iv pe, iv pa, iv pb, iv pd, iv pq, iv 3, rv b125, rv b126, rv b133, iv 0, iv pa, rv b147, .unset] [(.int pd), (.int pb), (.int pa), (.int 0)])) rfl (by rw [hml]; rfl) (argsL := [(.int 0), (.int pa), (.int pb), (.int pd)]) (rest := []) (lenOf pd_2 rfl) rfl (by show 2 * 0 + _ ≤ _; exact Nat.le_of_eq rfl) (hb hby at_128) (fun _ _ => ⟨rfl, rfl, (by decide : 4 + 0 ≤ _), (by decide : 11 + 0 ≤ _)⟩)
        dsimp only [Pt.U, Pt.locs, Pt.cells, Pt.slots] at X153 l153 y153 z153 st153 hQ153
        subst l153 y153 z153
        obtain ⟨hv153, N153q, e153⟩ := hQ153
        rw [(show (own_at (0 : Int32) pa pb pd) = pa from by rw [own_at, if_pos rfl])] at hv153; subst hv153
        have N153 := Fr.app N152 N153q
        refine Go.pull (V := T153.setTop (mkF m 131 #[iv ps, iv pe, iv pa, iv pb, iv pd, iv pq, iv 3, rv b125, rv b126, rv b133, iv 0, iv pa, rv b147, .unset] [(.int pa)])) st153 ?_
        refine Go.pull (V := T153.setTop (mkF m 133 #[iv ps, iv pe, iv pa, iv pb, iv pd, iv pq, iv 3, rv b125, rv b126, rv b133, iv 0, iv pa, rv b147, .unset] [(.int pa), (.int pa)])) (fun t k => XS.iload X153.here hx rfl (hb hby at_131) rfl  k) ?_
        refine Go.pull (V := T153.setTop (mkF m 136 #[iv ps, iv pe, iv pa, iv pb, iv pd, iv pq, iv 3, rv b125, rv b126, rv b133, iv 0, iv pa, rv b147, .unset] [])) (fun t k => XS.icmpNo X153.here hx rfl (hb hby at_133) rfl (XT.ii_ne_f rfl) k) ?_
        refine Go.pull (V := T153.setTop (mkF m 137 #[iv ps, iv pe, iv pa, iv pb, iv pd, iv pq, iv 3, rv b125, rv b126, rv b133, iv 0, iv pa, rv b147, .unset] [(.int 1)])) (fun t k => XS.iconst X153.here hx rfl (hb hby at_136) k) ?_
        refine Go.pull (V := T153.setTop (mkF m 141 #[iv ps, iv pe, iv pa, iv pb, iv pd, iv pq, iv 3, rv b125, rv b126, rv b133, iv 0, iv pa, rv b147, .unset] [(.int 1)])) (fun t k => XS.goto X153.here hx rfl (pc0 := 137) (pc' := 141) rfl (hb hby at_137) (by decide) (by decide) k) ?_
        refine Go.pull (V := T153.setTop (mkF m 143 #[iv ps, iv pe, iv pa, iv pb, iv pd, iv pq, iv 3, rv b125, rv b126, rv b133, iv 0, iv pa, rv b147, iv 1] [])) (fun t k => XS.istore X153.here hx rfl (hb hby at_141) rfl (l' := #[iv ps, iv pe, iv pa, iv pb, iv pd, iv pq, iv 3, rv b125, rv b126, rv b133, iv 0, iv pa, rv b147, iv 1]) rfl k) ?_
        refine Go.pull (V := T153.setTop (mkF m 145 #[iv ps, iv pe, iv pa, iv pb, iv pd, iv pq, iv 3, rv b125, rv b126, rv b133, iv 0, iv pa, rv b147, iv 1] [(.ref b147)])) (fun t k => XS.aload X153.here hx rfl (hb hby at_143) rfl rfl k) ?_
        refine Go.pull (V := T153.setTop (mkF m 147 #[iv ps, iv pe, iv pa, iv pb, iv pd, iv pq, iv 3, rv b125, rv b126, rv b133, iv 0, iv pa, rv b147, iv 1] [(.int 0), (.ref b147)])) (fun t k => XS.iload X153.here hx rfl (hb hby at_145) rfl  k) ?_
        refine Go.pull (V := T153.setTop (mkF m 149 #[iv ps, iv pe, iv pa, iv pb, iv pd, iv pq, iv 3, rv b125, rv b126, rv b133, iv 0, iv pa, rv b147, iv 1] [(.int pa), (.int 0), (.ref b147)])) (fun t k => XS.iload X153.here hx rfl (hb hby at_147) rfl  k) ?_
        obtain ⟨cq154, kq154, q154a, q154b, q154c⟩ := isOf hZ e153 (A147.keep Kc152)
        obtain ⟨_, _, ⟨T154, L154, k154, n154⟩, -, X154, ⟨Lc154, hQ154, l154, y154, z154⟩, st154⟩ := X153.virtualBack hx (y := (⟨"com/example/threshold/threshold/PostingList", "holdsAt", "(II)Z"⟩ : MethodName)) (z := (⟨"com/example/threshold/threshold/PostingList", "holdsAt", "(II)Z"⟩ : MethodName)) hown (mvT hZ (hw _ (List.mem_of_getElem? (i := 18) rfl))) (mvT hZ (hw _ (List.mem_of_getElem? (i := 19) rfl))) (notFace_of_selects (args := #[]) (mvT hZ (hw _ (List.mem_of_getElem? (i := 21) rfl)))) (mvT hZ (hw _ (List.mem_of_getElem? (i := 21) rfl))) (mvT hZ (hw _ (List.mem_of_getElem? (i := 20) rfl))) (by decide) (backOf (W := 0) (rmA l Z a0 hw [] b147 (0 : Int32) pa b125 k125 (3 : Int32) ([(.int pa), (.int pb), (.int pd)] : List Value) pa T152.heap n0 Fc152_0 (((V132.ext E133).ext E147).keep Kc152 (ninS (ne_b125_b147) nin0)) rfl (by decide)) hZ (hw _ (List.mem_of_getElem? (i := 22) rfl)) (hw _ (List.mem_of_getElem? (i := 3) rfl)) (by decide) (by decide)) q154a q154c (g := (mkF m 149 #[iv ps, iv pe, iv pa, iv pb, iv pd, iv pq, iv 3, rv b125, rv b126, rv b133, iv 0, iv pa, rv b147, iv 1] [(.int pa), (.int 0), (.ref b147)])) rfl (by rw [hml]; rfl) (Steps.refl _) (argsL := [(.int 0), (.int pa)]) (rest := []) (lenOf pd_1 rfl) rfl (by show 2 * 0 + _ ≤ _; exact Nat.le_of_eq rfl) (hb hby at_149) (fun _ _ => ⟨rfl, e153, (by decide : 4 + 0 ≤ _), (by decide : 11 + 0 ≤ _)⟩)
        dsimp only [Pt.U, Pt.locs, Pt.cells, Pt.slots] at X154 l154 y154 z154 st154 hQ154
        subst l154 y154 z154
        obtain ⟨hv154, N154q, e154⟩ := hQ154
        rw [(show (own_hold (0 : Int32) (3 : Int32) pa pa) = (1 : Int32) from by rw [own_hold, if_pos (by decide), if_pos rfl])] at hv154; subst hv154
        have N154 := Fr.app N153 N154q
        refine Go.pull (V := T154.setTop (mkF m 152 #[iv ps, iv pe, iv pa, iv pb, iv pd, iv pq, iv 3, rv b125, rv b126, rv b133, iv 0, iv pa, rv b147, iv 1] [(.int 1)])) (fun _ k => st154.trans k) ?_
        refine Go.pull (V := T154.setTop (mkF m 154 #[iv ps, iv pe, iv pa, iv pb, iv pd, iv pq, iv 3, rv b125, rv b126, rv b133, iv 0, iv pa, rv b147, iv 1] [(.int 1), (.int 1)])) (fun t k => XS.iload X154.here hx rfl (hb hby at_152) rfl  k) ?_
        refine Go.pull (V := T154.setTop (mkF m 157 #[iv ps, iv pe, iv pa, iv pb, iv pd, iv pq, iv 3, rv b125, rv b126, rv b133, iv 0, iv pa, rv b147, iv 1] [])) (fun t k => XS.icmpNo X154.here hx rfl (hb hby at_154) rfl (XT.ii_ne_f (by decide)) k) ?_
        refine Go.pull (V := T154.setTop (mkF m 158 #[iv ps, iv pe, iv pa, iv pb, iv pd, iv pq, iv 3, rv b125, rv b126, rv b133, iv 0, iv pa, rv b147, iv 1] [(.int 1)])) (fun t k => XS.iconst X154.here hx rfl (hb hby at_157) k) ?_
        refine Go.pull (V := T154.setTop (mkF m 162 #[iv ps, iv pe, iv pa, iv pb, iv pd, iv pq, iv 3, rv b125, rv b126, rv b133, iv 0, iv pa, rv b147, iv 1] [(.int 1)])) (fun t k => XS.goto X154.here hx rfl (pc0 := 158) (pc' := 162) rfl (hb hby at_158) (by decide) (by decide) k) ?_
        exact Go.retN X154 hx Bd.notSynchronized (t := .boolean) Bd.returns (by simp) (hb hby at_162) ⟨rfl, N154⟩ (by decide) (by decide)
    · subst hv134
      refine Go.pull (V := T133.setTop (mkF m 67 #[iv ps, iv pe, iv pa, iv pb, iv pd, iv pq, iv 3, rv b125, rv b126, rv b133, iv 1, .unset, .unset, .unset] [(.int pq)])) (fun t k => XS.iload X133.here hx rfl (hb hby at_65) rfl  k) ?_
      refine Go.pull (V := T133.setTop (mkF m 69 #[iv ps, iv pe, iv pa, iv pb, iv pd, iv pq, iv 3, rv b125, rv b126, rv b133, iv 1, iv pq, .unset, .unset] [])) (fun t k => XS.istore X133.here hx rfl (hb hby at_67) rfl (l' := #[iv ps, iv pe, iv pa, iv pb, iv pd, iv pq, iv 3, rv b125, rv b126, rv b133, iv 1, iv pq, .unset, .unset]) rfl k) ?_
      refine Go.pull (V := T133.setTop (mkF m 70 #[iv ps, iv pe, iv pa, iv pb, iv pd, iv pq, iv 3, rv b125, rv b126, rv b133, iv 1, iv pq, .unset, .unset] [(.int pe)])) (fun t k => XS.iloadN X133.here hx rfl (hb hby at_69) rfl  k) ?_
      refine Go.pull (V := T133.setTop (mkF m 71 #[iv ps, iv pe, iv pa, iv pb, iv pd, iv pq, iv 3, rv b125, rv b126, rv b133, iv 1, iv pq, .unset, .unset] [(.int 4), (.int pe)])) (fun t k => XS.iconst X133.here hx rfl (hb hby at_70) k) ?_
      refine Go.pull (V := T133.setTop (mkF m 72 #[iv ps, iv pe, iv pa, iv pb, iv pd, iv pq, iv 3, rv b125, rv b126, rv b133, iv 1, iv pq, .unset, .unset] [(.int (pe &&& (4 : Int32)))])) (fun t k => XS.iand X133.here hx rfl (hb hby at_71) rfl k) ?_
      by_cases hc72_155 : (pe &&& (4 : Int32)) = 0
      · skip
        refine Go.pull (V := T133.setTop (mkF m 93 #[iv ps, iv pe, iv pa, iv pb, iv pd, iv pq, iv 3, rv b125, rv b126, rv b133, iv 1, iv pq, .unset, .unset] [])) (fun t k => XS.ifYes X133.here hx rfl (pc0 := 72) (pc' := 93) rfl (hb hby at_72) rfl (XT.i0_eq_t hc72_155) (by decide) (by decide) k) ?_
        obtain ⟨T156, h156, X156, e156, E156, A156, D156, -, st156⟩ := newO X133 hx hZ hown (hw _ (List.mem_of_getElem? (i := 1) rfl)) (hw _ (List.mem_of_getElem? (i := 2) rfl)) (hw _ (List.mem_of_getElem? (i := 3) rfl)) e133 (g := (mkF m 93 #[iv ps, iv pe, iv pa, iv pb, iv pd, iv pq, iv 3, rv b125, rv b126, rv b133, iv 1, iv pq, .unset, .unset] [])) rfl (hb hby at_93) (by decide) (by decide)
        obtain ⟨b156, g156⟩ : ∃ z, z = h133.size := ⟨_, rfl⟩
        rw [← g156] at A156 D156 st156
        have ne_b125_b156 : b125 ≠ b156 := Nat.ne_of_lt (Nat.lt_of_lt_of_le (V132.ext E133).lt (Nat.le_of_eq g156.symm))
        have ne_b126_b156 : b126 ≠ b156 := Nat.ne_of_lt (Nat.lt_of_lt_of_le ((((V126.other W128 (Ne.symm (ne_b125_b126))).other W130 (Ne.symm (ne_b125_b126))).other W132 (Ne.symm (ne_b125_b126))).ext E133).lt (Nat.le_of_eq g156.symm))
        have ne_b133_b156 : b133 ≠ b156 := Nat.ne_of_lt (Nat.lt_of_lt_of_le V133.lt (Nat.le_of_eq g156.symm))
        have sz_b156 : h0.size ≤ b156 := Nat.le_trans (K133).1 (Nat.le_of_eq g156.symm)
        have g_b156 : n0 ≤ b156 := Nat.le_trans Z0 sz_b156
        have K156 : Keep h0 h156 [] := K133.ext E156
        have F157 : Fld Z h156 b156 "com/example/threshold/threshold/PostingList" "documents" "[I" .null := D156 (Or.inr (hw _ (List.mem_of_getElem? (i := 11) rfl))) (ty := (.array .int)) (by decide)
        have F158 : Fld Z h156 b156 "com/example/threshold/threshold/PostingList" "counts" "[I" .null := D156 (Or.inr (hw _ (List.mem_of_getElem? (i := 13) rfl))) (ty := (.array .int)) (by decide)
        have F159 : Fld Z h156 b156 "com/example/threshold/threshold/PostingList" "collectionFrequency" "J" (.long 0) := D156 (Or.inr (hw _ (List.mem_of_getElem? (i := 15) rfl))) (ty := .long) (by decide)
        have F160 : Fld Z h156 b156 "com/example/threshold/threshold/PostingList" "lengths" "[I" .null := D156 (Or.inr (hw _ (List.mem_of_getElem? (i := 17) rfl))) (ty := (.array .int)) (by decide)
        refine Go.pull (V := T156.setTop (mkF m 96 #[iv ps, iv pe, iv pa, iv pb, iv pd, iv pq, iv 3, rv b125, rv b126, rv b133, iv 1, iv pq, .unset, .unset] [(.ref b156)])) st156 ?_
        refine Go.pull (V := T156.setTop (mkF m 97 #[iv ps, iv pe, iv pa, iv pb, iv pd, iv pq, iv 3, rv b125, rv b126, rv b133, iv 1, iv pq, .unset, .unset] [(.ref b156), (.ref b156)])) (fun t k => XS.dup X156.here hx rfl (hb hby at_96) rfl rfl k) ?_
        refine Go.pull (V := T156.setTop (mkF m 99 #[iv ps, iv pe, iv pa, iv pb, iv pd, iv pq, iv 3, rv b125, rv b126, rv b133, iv 1, iv pq, .unset, .unset] [(.ref b125), (.ref b156), (.ref b156)])) (fun t k => XS.aload X156.here hx rfl (hb hby at_97) rfl rfl k) ?_
        refine Go.pull (V := T156.setTop (mkF m 101 #[iv ps, iv pe, iv pa, iv pb, iv pd, iv pq, iv 3, rv b125, rv b126, rv b133, iv 1, iv pq, .unset, .unset] [(.ref b126), (.ref b125), (.ref b156), (.ref b156)])) (fun t k => XS.aload X156.here hx rfl (hb hby at_99) rfl rfl k) ?_
        refine Go.pull (V := T156.setTop (mkF m 102 #[iv ps, iv pe, iv pa, iv pb, iv pd, iv pq, iv 3, rv b125, rv b126, rv b133, iv 1, iv pq, .unset, .unset] [(.long 0), (.ref b126), (.ref b125), (.ref b156), (.ref b156)])) (fun t k => XS.lconst X156.here hx rfl (hb hby at_101) k) ?_
        refine Go.pull (V := T156.setTop (mkF m 104 #[iv ps, iv pe, iv pa, iv pb, iv pd, iv pq, iv 3, rv b125, rv b126, rv b133, iv 1, iv pq, .unset, .unset] [(.ref b133), (.long 0), (.ref b126), (.ref b125), (.ref b156), (.ref b156)])) (fun t k => XS.aload X156.here hx rfl (hb hby at_102) rfl rfl k) ?_
        obtain ⟨_, _, ⟨T161, L161, k161, n161⟩, -, X161, ⟨Lc161, hQ161, l161, y161, z161⟩, st161⟩ := X156.specialBack hx (y := (⟨"com/example/threshold/threshold/PostingList", "<init>", "([I[IJ[I)V"⟩ : MethodName)) rfl hown (mvT hZ (hw _ (List.mem_of_getElem? (i := 4) rfl))) (mvT hZ (hw _ (List.mem_of_getElem? (i := 5) rfl))) (mvT hZ (hw _ (List.mem_of_getElem? (i := 6) rfl))) (by decide) (backOf (W := 1) (rmI l Z a0 hw [] b156 b125 b126 (0 : Int64) b133 .null .null (.long 0) .null h156 n0 (g_b156) A156 F157 F158 F159 F160) hZ (hw _ (List.mem_of_getElem? (i := 6) rfl)) (hw _ (List.mem_of_getElem? (i := 3) rfl)) (by decide) (by decide)) (g := (mkF m 104 #[iv ps, iv pe, iv pa, iv pb, iv pd, iv pq, iv 3, rv b125, rv b126, rv b133, iv 1, iv pq, .unset, .unset] [(.ref b133), (.long 0), (.ref b126), (.ref b125), (.ref b156), (.ref b156)])) rfl (by rw [hml]; rfl) (Steps.refl _) (a := b156) (argsL := [(.ref b125), (.ref b126), (.long 0), (.ref b133)]) (rest := [(.ref b156)]) (lenOf pd_0 rfl) rfl (by show 2 * 0 + _ ≤ _; exact Nat.le_of_eq rfl) (hb hby at_104) (fun _ _ => ⟨rfl, e156, (by decide : 4 + 0 ≤ _), (by decide : 11 + 0 ≤ _)⟩)
        dsimp only [Pt.U, Pt.locs, Pt.cells, Pt.slots] at X161 l161 y161 z161 st161 hQ161
        subst l161 y161 z161
        obtain ⟨rfl, N161q, Kc161, Fc161_0⟩ := hQ161
        have K161 : Keep h0 T161.heap [] := K156.trans Kc161 ((allS (Or.inr sz_b156) all0))
        have N161 := Fr.app N132 N161q
        refine Go.pull (V := T161.setTop (mkF m 107 #[iv ps, iv pe, iv pa, iv pb, iv pd, iv pq, iv 3, rv b125, rv b126, rv b133, iv 1, iv pq, .unset, .unset] [(.ref b156)])) (fun _ k => st161.trans k) ?_
        refine Go.pull (V := T161.setTop (mkF m 109 #[iv ps, iv pe, iv pa, iv pb, iv pd, iv pq, iv 3, rv b125, rv b126, rv b133, iv 1, iv pq, rv b156, .unset] [])) (fun t k => XS.astore X161.here hx rfl (hb hby at_107) rfl rfl (l' := #[iv ps, iv pe, iv pa, iv pb, iv pd, iv pq, iv 3, rv b125, rv b126, rv b133, iv 1, iv pq, rv b156, .unset]) rfl k) ?_
        refine Go.pull (V := T161.setTop (mkF m 111 #[iv ps, iv pe, iv pa, iv pb, iv pd, iv pq, iv 3, rv b125, rv b126, rv b133, iv 1, iv pq, rv b156, .unset] [(.int 1)])) (fun t k => XS.iload X161.here hx rfl (hb hby at_109) rfl  k) ?_
        refine Go.pull (V := T161.setTop (mkF m 113 #[iv ps, iv pe, iv pa, iv pb, iv pd, iv pq, iv 3, rv b125, rv b126, rv b133, iv 1, iv pq, rv b156, .unset] [(.int 3), (.int 1)])) (fun t k => XS.iload X161.here hx rfl (hb hby at_111) rfl  k) ?_
        refine Go.pull (V := T161.setTop (mkF m 122 #[iv ps, iv pe, iv pa, iv pb, iv pd, iv pq, iv 3, rv b125, rv b126, rv b133, iv 1, iv pq, rv b156, .unset] [])) (fun t k => XS.icmpYes X161.here hx rfl (pc0 := 113) (pc' := 122) rfl (hb hby at_113) rfl (XT.ii_lt_t (by decide)) (by decide) (by decide) k) ?_
        refine Go.pull (V := T161.setTop (mkF m 124 #[iv ps, iv pe, iv pa, iv pb, iv pd, iv pq, iv 3, rv b125, rv b126, rv b133, iv 1, iv pq, rv b156, .unset] [(.int 1)])) (fun t k => XS.iload X161.here hx rfl (hb hby at_122) rfl  k) ?_
        refine Go.pull (V := T161.setTop (mkF m 125 #[iv ps, iv pe, iv pa, iv pb, iv pd, iv pq, iv 3, rv b125, rv b126, rv b133, iv 1, iv pq, rv b156, .unset] [(.int pa), (.int 1)])) (fun t k => XS.iloadN X161.here hx rfl (hb hby at_124) rfl  k) ?_
        refine Go.pull (V := T161.setTop (mkF m 126 #[iv ps, iv pe, iv pa, iv pb, iv pd, iv pq, iv 3, rv b125, rv b126, rv b133, iv 1, iv pq, rv b156, .unset] [(.int pb), (.int pa), (.int 1)])) (fun t k => XS.iloadN X161.here hx rfl (hb hby at_125) rfl  k) ?_
        refine Go.pull (V := T161.setTop (mkF m 128 #[iv ps, iv pe, iv pa, iv pb, iv pd, iv pq, iv 3, rv b125, rv b126, rv b133, iv 1, iv pq, rv b156, .unset] [(.int pd), (.int pb), (.int pa), (.int 1)])) (fun t k => XS.iload X161.here hx rfl (hb hby at_126) rfl  k) ?_
        obtain ⟨_, _, ⟨T162, L162, k162, n162⟩, -, X162, ⟨Lc162, hQ162, l162, y162, z162⟩, st162⟩ := Jvm.LawKit.callS X161 hx (y := (⟨"com/example/threshold/threshold/PostingListHoldsAtPinLaw", "at", "(IIII)I"⟩ : MethodName)) hown (mvT hZ (hw _ (List.mem_of_getElem? (i := 23) rfl))) (mvT hZ (hw _ (List.mem_of_getElem? (i := 24) rfl))) (mvT hZ (hw _ (List.mem_of_getElem? (i := 25) rfl))) (mvT hZ (hw _ (List.mem_of_getElem? (i := 26) rfl))) (by decide) (backOf (W := 0) (rmT l Z a0 hw [] (1 : Int32) pa pb pd T161.heap n0 ) hZ (hw _ (List.mem_of_getElem? (i := 26) rfl)) (hw _ (List.mem_of_getElem? (i := 25) rfl)) (by decide) (by decide)) (g := (mkF m 128 #[iv ps, iv pe, iv pa, iv pb, iv pd, iv pq, iv 3, rv b125, rv b126, rv b133, iv 1, iv pq, rv b156, .unset] [(.int pd), (.int pb), (.int pa), (.int 1)])) rfl (by rw [hml]; rfl) (argsL := [(.int 1), (.int pa), (.int pb), (.int pd)]) (rest := []) (lenOf pd_2 rfl) rfl (by show 2 * 0 + _ ≤ _; exact Nat.le_of_eq rfl) (hb hby at_128) (fun _ _ => ⟨rfl, rfl, (by decide : 4 + 0 ≤ _), (by decide : 11 + 0 ≤ _)⟩)
        dsimp only [Pt.U, Pt.locs, Pt.cells, Pt.slots] at X162 l162 y162 z162 st162 hQ162
        subst l162 y162 z162
        obtain ⟨hv162, N162q, e162⟩ := hQ162
        rw [(show (own_at (1 : Int32) pa pb pd) = pb from by rw [own_at, if_neg (by decide), if_pos rfl])] at hv162; subst hv162
        have N162 := Fr.app N161 N162q
        refine Go.pull (V := T162.setTop (mkF m 131 #[iv ps, iv pe, iv pa, iv pb, iv pd, iv pq, iv 3, rv b125, rv b126, rv b133, iv 1, iv pq, rv b156, .unset] [(.int pb)])) st162 ?_
        refine Go.pull (V := T162.setTop (mkF m 133 #[iv ps, iv pe, iv pa, iv pb, iv pd, iv pq, iv 3, rv b125, rv b126, rv b133, iv 1, iv pq, rv b156, .unset] [(.int pq), (.int pb)])) (fun t k => XS.iload X162.here hx rfl (hb hby at_131) rfl  k) ?_
        by_cases hc133_163 : pb = pq
        · skip
          refine Go.pull (V := T162.setTop (mkF m 136 #[iv ps, iv pe, iv pa, iv pb, iv pd, iv pq, iv 3, rv b125, rv b126, rv b133, iv 1, iv pq, rv b156, .unset] [])) (fun t k => XS.icmpNo X162.here hx rfl (hb hby at_133) rfl (XT.ii_ne_f hc133_163) k) ?_
          refine Go.pull (V := T162.setTop (mkF m 137 #[iv ps, iv pe, iv pa, iv pb, iv pd, iv pq, iv 3, rv b125, rv b126, rv b133, iv 1, iv pq, rv b156, .unset] [(.int 1)])) (fun t k => XS.iconst X162.here hx rfl (hb hby at_136) k) ?_
          refine Go.pull (V := T162.setTop (mkF m 141 #[iv ps, iv pe, iv pa, iv pb, iv pd, iv pq, iv 3, rv b125, rv b126, rv b133, iv 1, iv pq, rv b156, .unset] [(.int 1)])) (fun t k => XS.goto X162.here hx rfl (pc0 := 137) (pc' := 141) rfl (hb hby at_137) (by decide) (by decide) k) ?_
          refine Go.pull (V := T162.setTop (mkF m 143 #[iv ps, iv pe, iv pa, iv pb, iv pd, iv pq, iv 3, rv b125, rv b126, rv b133, iv 1, iv pq, rv b156, iv 1] [])) (fun t k => XS.istore X162.here hx rfl (hb hby at_141) rfl (l' := #[iv ps, iv pe, iv pa, iv pb, iv pd, iv pq, iv 3, rv b125, rv b126, rv b133, iv 1, iv pq, rv b156, iv 1]) rfl k) ?_
          refine Go.pull (V := T162.setTop (mkF m 145 #[iv ps, iv pe, iv pa, iv pb, iv pd, iv pq, iv 3, rv b125, rv b126, rv b133, iv 1, iv pq, rv b156, iv 1] [(.ref b156)])) (fun t k => XS.aload X162.here hx rfl (hb hby at_143) rfl rfl k) ?_
          refine Go.pull (V := T162.setTop (mkF m 147 #[iv ps, iv pe, iv pa, iv pb, iv pd, iv pq, iv 3, rv b125, rv b126, rv b133, iv 1, iv pq, rv b156, iv 1] [(.int 1), (.ref b156)])) (fun t k => XS.iload X162.here hx rfl (hb hby at_145) rfl  k) ?_
          refine Go.pull (V := T162.setTop (mkF m 149 #[iv ps, iv pe, iv pa, iv pb, iv pd, iv pq, iv 3, rv b125, rv b126, rv b133, iv 1, iv pq, rv b156, iv 1] [(.int pq), (.int 1), (.ref b156)])) (fun t k => XS.iload X162.here hx rfl (hb hby at_147) rfl  k) ?_
          obtain ⟨cq164, kq164, q164a, q164b, q164c⟩ := isOf hZ e162 (A156.keep Kc161)
          obtain ⟨_, _, ⟨T164, L164, k164, n164⟩, -, X164, ⟨Lc164, hQ164, l164, y164, z164⟩, st164⟩ := X162.virtualBack hx (y := (⟨"com/example/threshold/threshold/PostingList", "holdsAt", "(II)Z"⟩ : MethodName)) (z := (⟨"com/example/threshold/threshold/PostingList", "holdsAt", "(II)Z"⟩ : MethodName)) hown (mvT hZ (hw _ (List.mem_of_getElem? (i := 18) rfl))) (mvT hZ (hw _ (List.mem_of_getElem? (i := 19) rfl))) (notFace_of_selects (args := #[]) (mvT hZ (hw _ (List.mem_of_getElem? (i := 21) rfl)))) (mvT hZ (hw _ (List.mem_of_getElem? (i := 21) rfl))) (mvT hZ (hw _ (List.mem_of_getElem? (i := 20) rfl))) (by decide) (backOf (W := 0) (rmA l Z a0 hw [] b156 (1 : Int32) pq b125 k125 (3 : Int32) ([(.int pa), (.int pb), (.int pd)] : List Value) pb T161.heap n0 Fc161_0 (((V132.ext E133).ext E156).keep Kc161 (ninS (ne_b125_b156) nin0)) rfl (by decide)) hZ (hw _ (List.mem_of_getElem? (i := 22) rfl)) (hw _ (List.mem_of_getElem? (i := 3) rfl)) (by decide) (by decide)) q164a q164c (g := (mkF m 149 #[iv ps, iv pe, iv pa, iv pb, iv pd, iv pq, iv 3, rv b125, rv b126, rv b133, iv 1, iv pq, rv b156, iv 1] [(.int pq), (.int 1), (.ref b156)])) rfl (by rw [hml]; rfl) (Steps.refl _) (argsL := [(.int 1), (.int pq)]) (rest := []) (lenOf pd_1 rfl) rfl (by show 2 * 0 + _ ≤ _; exact Nat.le_of_eq rfl) (hb hby at_149) (fun _ _ => ⟨rfl, e162, (by decide : 4 + 0 ≤ _), (by decide : 11 + 0 ≤ _)⟩)
          dsimp only [Pt.U, Pt.locs, Pt.cells, Pt.slots] at X164 l164 y164 z164 st164 hQ164
          subst l164 y164 z164
          obtain ⟨hv164, N164q, e164⟩ := hQ164
          rw [(show (own_hold (1 : Int32) (3 : Int32) pq pb) = (1 : Int32) from by rw [own_hold, if_pos (by decide), if_pos hc133_163])] at hv164; subst hv164
          have N164 := Fr.app N162 N164q
          refine Go.pull (V := T164.setTop (mkF m 152 #[iv ps, iv pe, iv pa, iv pb, iv pd, iv pq, iv 3, rv b125, rv b126, rv b133, iv 1, iv pq, rv b156, iv 1] [(.int 1)])) (fun _ k => st164.trans k) ?_
          refine Go.pull (V := T164.setTop (mkF m 154 #[iv ps, iv pe, iv pa, iv pb, iv pd, iv pq, iv 3, rv b125, rv b126, rv b133, iv 1, iv pq, rv b156, iv 1] [(.int 1), (.int 1)])) (fun t k => XS.iload X164.here hx rfl (hb hby at_152) rfl  k) ?_
          refine Go.pull (V := T164.setTop (mkF m 157 #[iv ps, iv pe, iv pa, iv pb, iv pd, iv pq, iv 3, rv b125, rv b126, rv b133, iv 1, iv pq, rv b156, iv 1] [])) (fun t k => XS.icmpNo X164.here hx rfl (hb hby at_154) rfl (XT.ii_ne_f (by decide)) k) ?_
          refine Go.pull (V := T164.setTop (mkF m 158 #[iv ps, iv pe, iv pa, iv pb, iv pd, iv pq, iv 3, rv b125, rv b126, rv b133, iv 1, iv pq, rv b156, iv 1] [(.int 1)])) (fun t k => XS.iconst X164.here hx rfl (hb hby at_157) k) ?_
          refine Go.pull (V := T164.setTop (mkF m 162 #[iv ps, iv pe, iv pa, iv pb, iv pd, iv pq, iv 3, rv b125, rv b126, rv b133, iv 1, iv pq, rv b156, iv 1] [(.int 1)])) (fun t k => XS.goto X164.here hx rfl (pc0 := 158) (pc' := 162) rfl (hb hby at_158) (by decide) (by decide) k) ?_
          exact Go.retN X164 hx Bd.notSynchronized (t := .boolean) Bd.returns (by simp) (hb hby at_162) ⟨rfl, N164⟩ (by decide) (by decide)
        · skip
          refine Go.pull (V := T162.setTop (mkF m 140 #[iv ps, iv pe, iv pa, iv pb, iv pd, iv pq, iv 3, rv b125, rv b126, rv b133, iv 1, iv pq, rv b156, .unset] [])) (fun t k => XS.icmpYes X162.here hx rfl (pc0 := 133) (pc' := 140) rfl (hb hby at_133) rfl (XT.ii_ne_t hc133_163) (by decide) (by decide) k) ?_
          refine Go.pull (V := T162.setTop (mkF m 141 #[iv ps, iv pe, iv pa, iv pb, iv pd, iv pq, iv 3, rv b125, rv b126, rv b133, iv 1, iv pq, rv b156, .unset] [(.int 0)])) (fun t k => XS.iconst X162.here hx rfl (hb hby at_140) k) ?_
          refine Go.pull (V := T162.setTop (mkF m 143 #[iv ps, iv pe, iv pa, iv pb, iv pd, iv pq, iv 3, rv b125, rv b126, rv b133, iv 1, iv pq, rv b156, iv 0] [])) (fun t k => XS.istore X162.here hx rfl (hb hby at_141) rfl (l' := #[iv ps, iv pe, iv pa, iv pb, iv pd, iv pq, iv 3, rv b125, rv b126, rv b133, iv 1, iv pq, rv b156, iv 0]) rfl k) ?_
          refine Go.pull (V := T162.setTop (mkF m 145 #[iv ps, iv pe, iv pa, iv pb, iv pd, iv pq, iv 3, rv b125, rv b126, rv b133, iv 1, iv pq, rv b156, iv 0] [(.ref b156)])) (fun t k => XS.aload X162.here hx rfl (hb hby at_143) rfl rfl k) ?_
          refine Go.pull (V := T162.setTop (mkF m 147 #[iv ps, iv pe, iv pa, iv pb, iv pd, iv pq, iv 3, rv b125, rv b126, rv b133, iv 1, iv pq, rv b156, iv 0] [(.int 1), (.ref b156)])) (fun t k => XS.iload X162.here hx rfl (hb hby at_145) rfl  k) ?_
          refine Go.pull (V := T162.setTop (mkF m 149 #[iv ps, iv pe, iv pa, iv pb, iv pd, iv pq, iv 3, rv b125, rv b126, rv b133, iv 1, iv pq, rv b156, iv 0] [(.int pq), (.int 1), (.ref b156)])) (fun t k => XS.iload X162.here hx rfl (hb hby at_147) rfl  k) ?_
          obtain ⟨cq165, kq165, q165a, q165b, q165c⟩ := isOf hZ e162 (A156.keep Kc161)
          obtain ⟨_, _, ⟨T165, L165, k165, n165⟩, -, X165, ⟨Lc165, hQ165, l165, y165, z165⟩, st165⟩ := X162.virtualBack hx (y := (⟨"com/example/threshold/threshold/PostingList", "holdsAt", "(II)Z"⟩ : MethodName)) (z := (⟨"com/example/threshold/threshold/PostingList", "holdsAt", "(II)Z"⟩ : MethodName)) hown (mvT hZ (hw _ (List.mem_of_getElem? (i := 18) rfl))) (mvT hZ (hw _ (List.mem_of_getElem? (i := 19) rfl))) (notFace_of_selects (args := #[]) (mvT hZ (hw _ (List.mem_of_getElem? (i := 21) rfl)))) (mvT hZ (hw _ (List.mem_of_getElem? (i := 21) rfl))) (mvT hZ (hw _ (List.mem_of_getElem? (i := 20) rfl))) (by decide) (backOf (W := 0) (rmA l Z a0 hw [] b156 (1 : Int32) pq b125 k125 (3 : Int32) ([(.int pa), (.int pb), (.int pd)] : List Value) pb T161.heap n0 Fc161_0 (((V132.ext E133).ext E156).keep Kc161 (ninS (ne_b125_b156) nin0)) rfl (by decide)) hZ (hw _ (List.mem_of_getElem? (i := 22) rfl)) (hw _ (List.mem_of_getElem? (i := 3) rfl)) (by decide) (by decide)) q165a q165c (g := (mkF m 149 #[iv ps, iv pe, iv pa, iv pb, iv pd, iv pq, iv 3, rv b125, rv b126, rv b133, iv 1, iv pq, rv b156, iv 0] [(.int pq), (.int 1), (.ref b156)])) rfl (by rw [hml]; rfl) (Steps.refl _) (argsL := [(.int 1), (.int pq)]) (rest := []) (lenOf pd_1 rfl) rfl (by show 2 * 0 + _ ≤ _; exact Nat.le_of_eq rfl) (hb hby at_149) (fun _ _ => ⟨rfl, e162, (by decide : 4 + 0 ≤ _), (by decide : 11 + 0 ≤ _)⟩)
          dsimp only [Pt.U, Pt.locs, Pt.cells, Pt.slots] at X165 l165 y165 z165 st165 hQ165
          subst l165 y165 z165
          obtain ⟨hv165, N165q, e165⟩ := hQ165
          rw [(show (own_hold (1 : Int32) (3 : Int32) pq pb) = (0 : Int32) from by rw [own_hold, if_pos (by decide), if_neg hc133_163])] at hv165; subst hv165
          have N165 := Fr.app N162 N165q
          refine Go.pull (V := T165.setTop (mkF m 152 #[iv ps, iv pe, iv pa, iv pb, iv pd, iv pq, iv 3, rv b125, rv b126, rv b133, iv 1, iv pq, rv b156, iv 0] [(.int 0)])) (fun _ k => st165.trans k) ?_
          refine Go.pull (V := T165.setTop (mkF m 154 #[iv ps, iv pe, iv pa, iv pb, iv pd, iv pq, iv 3, rv b125, rv b126, rv b133, iv 1, iv pq, rv b156, iv 0] [(.int 0), (.int 0)])) (fun t k => XS.iload X165.here hx rfl (hb hby at_152) rfl  k) ?_
          refine Go.pull (V := T165.setTop (mkF m 157 #[iv ps, iv pe, iv pa, iv pb, iv pd, iv pq, iv 3, rv b125, rv b126, rv b133, iv 1, iv pq, rv b156, iv 0] [])) (fun t k => XS.icmpNo X165.here hx rfl (hb hby at_154) rfl (XT.ii_ne_f (by decide)) k) ?_
          refine Go.pull (V := T165.setTop (mkF m 158 #[iv ps, iv pe, iv pa, iv pb, iv pd, iv pq, iv 3, rv b125, rv b126, rv b133, iv 1, iv pq, rv b156, iv 0] [(.int 1)])) (fun t k => XS.iconst X165.here hx rfl (hb hby at_157) k) ?_
          refine Go.pull (V := T165.setTop (mkF m 162 #[iv ps, iv pe, iv pa, iv pb, iv pd, iv pq, iv 3, rv b125, rv b126, rv b133, iv 1, iv pq, rv b156, iv 0] [(.int 1)])) (fun t k => XS.goto X165.here hx rfl (pc0 := 158) (pc' := 162) rfl (hb hby at_158) (by decide) (by decide) k) ?_
          exact Go.retN X165 hx Bd.notSynchronized (t := .boolean) Bd.returns (by simp) (hb hby at_162) ⟨rfl, N165⟩ (by decide) (by decide)
      · skip
        refine Go.pull (V := T133.setTop (mkF m 75 #[iv ps, iv pe, iv pa, iv pb, iv pd, iv pq, iv 3, rv b125, rv b126, rv b133, iv 1, iv pq, .unset, .unset] [])) (fun t k => XS.ifNo X133.here hx rfl (hb hby at_72) rfl (XT.i0_eq_f hc72_155) k) ?_
        refine Go.pull (V := T133.setTop (mkF m 77 #[iv ps, iv pe, iv pa, iv pb, iv pd, iv pq, iv 3, rv b125, rv b126, rv b133, iv 1, iv pq, .unset, .unset] [(.int 1)])) (fun t k => XS.iload X133.here hx rfl (hb hby at_75) rfl  k) ?_
        refine Go.pull (V := T133.setTop (mkF m 79 #[iv ps, iv pe, iv pa, iv pb, iv pd, iv pq, iv 3, rv b125, rv b126, rv b133, iv 1, iv pq, .unset, .unset] [(.int 3), (.int 1)])) (fun t k => XS.iload X133.here hx rfl (hb hby at_77) rfl  k) ?_
        refine Go.pull (V := T133.setTop (mkF m 82 #[iv ps, iv pe, iv pa, iv pb, iv pd, iv pq, iv 3, rv b125, rv b126, rv b133, iv 1, iv pq, .unset, .unset] [])) (fun t k => XS.icmpNo X133.here hx rfl (hb hby at_79) rfl (XT.ii_ge_f (by decide)) k) ?_
        refine Go.pull (V := T133.setTop (mkF m 84 #[iv ps, iv pe, iv pa, iv pb, iv pd, iv pq, iv 3, rv b125, rv b126, rv b133, iv 1, iv pq, .unset, .unset] [(.int 1)])) (fun t k => XS.iload X133.here hx rfl (hb hby at_82) rfl  k) ?_
        refine Go.pull (V := T133.setTop (mkF m 85 #[iv ps, iv pe, iv pa, iv pb, iv pd, iv pq, iv 3, rv b125, rv b126, rv b133, iv 1, iv pq, .unset, .unset] [(.int pa), (.int 1)])) (fun t k => XS.iloadN X133.here hx rfl (hb hby at_84) rfl  k) ?_
        refine Go.pull (V := T133.setTop (mkF m 86 #[iv ps, iv pe, iv pa, iv pb, iv pd, iv pq, iv 3, rv b125, rv b126, rv b133, iv 1, iv pq, .unset, .unset] [(.int pb), (.int pa), (.int 1)])) (fun t k => XS.iloadN X133.here hx rfl (hb hby at_85) rfl  k) ?_
        refine Go.pull (V := T133.setTop (mkF m 88 #[iv ps, iv pe, iv pa, iv pb, iv pd, iv pq, iv 3, rv b125, rv b126, rv b133, iv 1, iv pq, .unset, .unset] [(.int pd), (.int pb), (.int pa), (.int 1)])) (fun t k => XS.iload X133.here hx rfl (hb hby at_86) rfl  k) ?_
        obtain ⟨_, _, ⟨T166, L166, k166, n166⟩, -, X166, ⟨Lc166, hQ166, l166, y166, z166⟩, st166⟩ := Jvm.LawKit.callS X133 hx (y := (⟨"com/example/threshold/threshold/PostingListHoldsAtPinLaw", "at", "(IIII)I"⟩ : MethodName)) hown (mvT hZ (hw _ (List.mem_of_getElem? (i := 23) rfl))) (mvT hZ (hw _ (List.mem_of_getElem? (i := 24) rfl))) (mvT hZ (hw _ (List.mem_of_getElem? (i := 25) rfl))) (mvT hZ (hw _ (List.mem_of_getElem? (i := 26) rfl))) (by decide) (backOf (W := 0) (rmT l Z a0 hw [] (1 : Int32) pa pb pd h133 n0 ) hZ (hw _ (List.mem_of_getElem? (i := 26) rfl)) (hw _ (List.mem_of_getElem? (i := 25) rfl)) (by decide) (by decide)) (g := (mkF m 88 #[iv ps, iv pe, iv pa, iv pb, iv pd, iv pq, iv 3, rv b125, rv b126, rv b133, iv 1, iv pq, .unset, .unset] [(.int pd), (.int pb), (.int pa), (.int 1)])) rfl (by rw [hml]; rfl) (argsL := [(.int 1), (.int pa), (.int pb), (.int pd)]) (rest := []) (lenOf pd_2 rfl) rfl (by show 2 * 0 + _ ≤ _; exact Nat.le_of_eq rfl) (hb hby at_88) (fun _ _ => ⟨rfl, e133, (by decide : 3 + 0 ≤ _), (by decide : 6 + 0 ≤ _)⟩)
        dsimp only [Pt.U, Pt.locs, Pt.cells, Pt.slots] at X166 l166 y166 z166 st166 hQ166
        subst l166 y166 z166
        obtain ⟨hv166, N166q, e166⟩ := hQ166
        rw [(show (own_at (1 : Int32) pa pb pd) = pb from by rw [own_at, if_neg (by decide), if_pos rfl])] at hv166; subst hv166
        have N166 := Fr.app N132 N166q
        refine Go.pull (V := T166.setTop (mkF m 91 #[iv ps, iv pe, iv pa, iv pb, iv pd, iv pq, iv 3, rv b125, rv b126, rv b133, iv 1, iv pq, .unset, .unset] [(.int pb)])) st166 ?_
        refine Go.pull (V := T166.setTop (mkF m 93 #[iv ps, iv pe, iv pa, iv pb, iv pd, iv pq, iv 3, rv b125, rv b126, rv b133, iv 1, iv pb, .unset, .unset] [])) (fun t k => XS.istore X166.here hx rfl (hb hby at_91) rfl (l' := #[iv ps, iv pe, iv pa, iv pb, iv pd, iv pq, iv 3, rv b125, rv b126, rv b133, iv 1, iv pb, .unset, .unset]) rfl k) ?_
        obtain ⟨T167, h167, X167, e167, E167, A167, D167, -, st167⟩ := newO X166 hx hZ hown (hw _ (List.mem_of_getElem? (i := 1) rfl)) (hw _ (List.mem_of_getElem? (i := 2) rfl)) (hw _ (List.mem_of_getElem? (i := 3) rfl)) e166 (g := (mkF m 93 #[iv ps, iv pe, iv pa, iv pb, iv pd, iv pq, iv 3, rv b125, rv b126, rv b133, iv 1, iv pb, .unset, .unset] [])) rfl (hb hby at_93) (by decide) (by decide)
        obtain ⟨b167, g167⟩ : ∃ z, z = h133.size := ⟨_, rfl⟩
        rw [← g167] at A167 D167 st167
        have ne_b125_b167 : b125 ≠ b167 := Nat.ne_of_lt (Nat.lt_of_lt_of_le (V132.ext E133).lt (Nat.le_of_eq g167.symm))
        have ne_b126_b167 : b126 ≠ b167 := Nat.ne_of_lt (Nat.lt_of_lt_of_le ((((V126.other W128 (Ne.symm (ne_b125_b126))).other W130 (Ne.symm (ne_b125_b126))).other W132 (Ne.symm (ne_b125_b126))).ext E133).lt (Nat.le_of_eq g167.symm))
        have ne_b133_b167 : b133 ≠ b167 := Nat.ne_of_lt (Nat.lt_of_lt_of_le V133.lt (Nat.le_of_eq g167.symm))
        have sz_b167 : h0.size ≤ b167 := Nat.le_trans (K133).1 (Nat.le_of_eq g167.symm)
        have g_b167 : n0 ≤ b167 := Nat.le_trans Z0 sz_b167
        have K167 : Keep h0 h167 [] := K133.ext E167
        have F168 : Fld Z h167 b167 "com/example/threshold/threshold/PostingList" "documents" "[I" .null := D167 (Or.inr (hw _ (List.mem_of_getElem? (i := 11) rfl))) (ty := (.array .int)) (by decide)
        have F169 : Fld Z h167 b167 "com/example/threshold/threshold/PostingList" "counts" "[I" .null := D167 (Or.inr (hw _ (List.mem_of_getElem? (i := 13) rfl))) (ty := (.array .int)) (by decide)
        have F170 : Fld Z h167 b167 "com/example/threshold/threshold/PostingList" "collectionFrequency" "J" (.long 0) := D167 (Or.inr (hw _ (List.mem_of_getElem? (i := 15) rfl))) (ty := .long) (by decide)
        have F171 : Fld Z h167 b167 "com/example/threshold/threshold/PostingList" "lengths" "[I" .null := D167 (Or.inr (hw _ (List.mem_of_getElem? (i := 17) rfl))) (ty := (.array .int)) (by decide)
        refine Go.pull (V := T167.setTop (mkF m 96 #[iv ps, iv pe, iv pa, iv pb, iv pd, iv pq, iv 3, rv b125, rv b126, rv b133, iv 1, iv pb, .unset, .unset] [(.ref b167)])) st167 ?_
        refine Go.pull (V := T167.setTop (mkF m 97 #[iv ps, iv pe, iv pa, iv pb, iv pd, iv pq, iv 3, rv b125, rv b126, rv b133, iv 1, iv pb, .unset, .unset] [(.ref b167), (.ref b167)])) (fun t k => XS.dup X167.here hx rfl (hb hby at_96) rfl rfl k) ?_
        refine Go.pull (V := T167.setTop (mkF m 99 #[iv ps, iv pe, iv pa, iv pb, iv pd, iv pq, iv 3, rv b125, rv b126, rv b133, iv 1, iv pb, .unset, .unset] [(.ref b125), (.ref b167), (.ref b167)])) (fun t k => XS.aload X167.here hx rfl (hb hby at_97) rfl rfl k) ?_
        refine Go.pull (V := T167.setTop (mkF m 101 #[iv ps, iv pe, iv pa, iv pb, iv pd, iv pq, iv 3, rv b125, rv b126, rv b133, iv 1, iv pb, .unset, .unset] [(.ref b126), (.ref b125), (.ref b167), (.ref b167)])) (fun t k => XS.aload X167.here hx rfl (hb hby at_99) rfl rfl k) ?_
        refine Go.pull (V := T167.setTop (mkF m 102 #[iv ps, iv pe, iv pa, iv pb, iv pd, iv pq, iv 3, rv b125, rv b126, rv b133, iv 1, iv pb, .unset, .unset] [(.long 0), (.ref b126), (.ref b125), (.ref b167), (.ref b167)])) (fun t k => XS.lconst X167.here hx rfl (hb hby at_101) k) ?_
        refine Go.pull (V := T167.setTop (mkF m 104 #[iv ps, iv pe, iv pa, iv pb, iv pd, iv pq, iv 3, rv b125, rv b126, rv b133, iv 1, iv pb, .unset, .unset] [(.ref b133), (.long 0), (.ref b126), (.ref b125), (.ref b167), (.ref b167)])) (fun t k => XS.aload X167.here hx rfl (hb hby at_102) rfl rfl k) ?_
        obtain ⟨_, _, ⟨T172, L172, k172, n172⟩, -, X172, ⟨Lc172, hQ172, l172, y172, z172⟩, st172⟩ := X167.specialBack hx (y := (⟨"com/example/threshold/threshold/PostingList", "<init>", "([I[IJ[I)V"⟩ : MethodName)) rfl hown (mvT hZ (hw _ (List.mem_of_getElem? (i := 4) rfl))) (mvT hZ (hw _ (List.mem_of_getElem? (i := 5) rfl))) (mvT hZ (hw _ (List.mem_of_getElem? (i := 6) rfl))) (by decide) (backOf (W := 1) (rmI l Z a0 hw [] b167 b125 b126 (0 : Int64) b133 .null .null (.long 0) .null h167 n0 (g_b167) A167 F168 F169 F170 F171) hZ (hw _ (List.mem_of_getElem? (i := 6) rfl)) (hw _ (List.mem_of_getElem? (i := 3) rfl)) (by decide) (by decide)) (g := (mkF m 104 #[iv ps, iv pe, iv pa, iv pb, iv pd, iv pq, iv 3, rv b125, rv b126, rv b133, iv 1, iv pb, .unset, .unset] [(.ref b133), (.long 0), (.ref b126), (.ref b125), (.ref b167), (.ref b167)])) rfl (by rw [hml]; rfl) (Steps.refl _) (a := b167) (argsL := [(.ref b125), (.ref b126), (.long 0), (.ref b133)]) (rest := [(.ref b167)]) (lenOf pd_0 rfl) rfl (by show 2 * 0 + _ ≤ _; exact Nat.le_of_eq rfl) (hb hby at_104) (fun _ _ => ⟨rfl, e167, (by decide : 4 + 0 ≤ _), (by decide : 11 + 0 ≤ _)⟩)
        dsimp only [Pt.U, Pt.locs, Pt.cells, Pt.slots] at X172 l172 y172 z172 st172 hQ172
        subst l172 y172 z172
        obtain ⟨rfl, N172q, Kc172, Fc172_0⟩ := hQ172
        have K172 : Keep h0 T172.heap [] := K167.trans Kc172 ((allS (Or.inr sz_b167) all0))
        have N172 := Fr.app N166 N172q
        refine Go.pull (V := T172.setTop (mkF m 107 #[iv ps, iv pe, iv pa, iv pb, iv pd, iv pq, iv 3, rv b125, rv b126, rv b133, iv 1, iv pb, .unset, .unset] [(.ref b167)])) (fun _ k => st172.trans k) ?_
        refine Go.pull (V := T172.setTop (mkF m 109 #[iv ps, iv pe, iv pa, iv pb, iv pd, iv pq, iv 3, rv b125, rv b126, rv b133, iv 1, iv pb, rv b167, .unset] [])) (fun t k => XS.astore X172.here hx rfl (hb hby at_107) rfl rfl (l' := #[iv ps, iv pe, iv pa, iv pb, iv pd, iv pq, iv 3, rv b125, rv b126, rv b133, iv 1, iv pb, rv b167, .unset]) rfl k) ?_
        refine Go.pull (V := T172.setTop (mkF m 111 #[iv ps, iv pe, iv pa, iv pb, iv pd, iv pq, iv 3, rv b125, rv b126, rv b133, iv 1, iv pb, rv b167, .unset] [(.int 1)])) (fun t k => XS.iload X172.here hx rfl (hb hby at_109) rfl  k) ?_
        refine Go.pull (V := T172.setTop (mkF m 113 #[iv ps, iv pe, iv pa, iv pb, iv pd, iv pq, iv 3, rv b125, rv b126, rv b133, iv 1, iv pb, rv b167, .unset] [(.int 3), (.int 1)])) (fun t k => XS.iload X172.here hx rfl (hb hby at_111) rfl  k) ?_
        refine Go.pull (V := T172.setTop (mkF m 122 #[iv ps, iv pe, iv pa, iv pb, iv pd, iv pq, iv 3, rv b125, rv b126, rv b133, iv 1, iv pb, rv b167, .unset] [])) (fun t k => XS.icmpYes X172.here hx rfl (pc0 := 113) (pc' := 122) rfl (hb hby at_113) rfl (XT.ii_lt_t (by decide)) (by decide) (by decide) k) ?_
        refine Go.pull (V := T172.setTop (mkF m 124 #[iv ps, iv pe, iv pa, iv pb, iv pd, iv pq, iv 3, rv b125, rv b126, rv b133, iv 1, iv pb, rv b167, .unset] [(.int 1)])) (fun t k => XS.iload X172.here hx rfl (hb hby at_122) rfl  k) ?_
        refine Go.pull (V := T172.setTop (mkF m 125 #[iv ps, iv pe, iv pa, iv pb, iv pd, iv pq, iv 3, rv b125, rv b126, rv b133, iv 1, iv pb, rv b167, .unset] [(.int pa), (.int 1)])) (fun t k => XS.iloadN X172.here hx rfl (hb hby at_124) rfl  k) ?_
        refine Go.pull (V := T172.setTop (mkF m 126 #[iv ps, iv pe, iv pa, iv pb, iv pd, iv pq, iv 3, rv b125, rv b126, rv b133, iv 1, iv pb, rv b167, .unset] [(.int pb), (.int pa), (.int 1)])) (fun t k => XS.iloadN X172.here hx rfl (hb hby at_125) rfl  k) ?_
        refine Go.pull (V := T172.setTop (mkF m 128 #[iv ps, iv pe, iv pa, iv pb, iv pd, iv pq, iv 3, rv b125, rv b126, rv b133, iv 1, iv pb, rv b167, .unset] [(.int pd), (.int pb), (.int pa), (.int 1)])) (fun t k => XS.iload X172.here hx rfl (hb hby at_126) rfl  k) ?_
        obtain ⟨_, _, ⟨T173, L173, k173, n173⟩, -, X173, ⟨Lc173, hQ173, l173, y173, z173⟩, st173⟩ := Jvm.LawKit.callS X172 hx (y := (⟨"com/example/threshold/threshold/PostingListHoldsAtPinLaw", "at", "(IIII)I"⟩ : MethodName)) hown (mvT hZ (hw _ (List.mem_of_getElem? (i := 23) rfl))) (mvT hZ (hw _ (List.mem_of_getElem? (i := 24) rfl))) (mvT hZ (hw _ (List.mem_of_getElem? (i := 25) rfl))) (mvT hZ (hw _ (List.mem_of_getElem? (i := 26) rfl))) (by decide) (backOf (W := 0) (rmT l Z a0 hw [] (1 : Int32) pa pb pd T172.heap n0 ) hZ (hw _ (List.mem_of_getElem? (i := 26) rfl)) (hw _ (List.mem_of_getElem? (i := 25) rfl)) (by decide) (by decide)) (g := (mkF m 128 #[iv ps, iv pe, iv pa, iv pb, iv pd, iv pq, iv 3, rv b125, rv b126, rv b133, iv 1, iv pb, rv b167, .unset] [(.int pd), (.int pb), (.int pa), (.int 1)])) rfl (by rw [hml]; rfl) (argsL := [(.int 1), (.int pa), (.int pb), (.int pd)]) (rest := []) (lenOf pd_2 rfl) rfl (by show 2 * 0 + _ ≤ _; exact Nat.le_of_eq rfl) (hb hby at_128) (fun _ _ => ⟨rfl, rfl, (by decide : 4 + 0 ≤ _), (by decide : 11 + 0 ≤ _)⟩)
        dsimp only [Pt.U, Pt.locs, Pt.cells, Pt.slots] at X173 l173 y173 z173 st173 hQ173
        subst l173 y173 z173
        obtain ⟨hv173, N173q, e173⟩ := hQ173
        rw [(show (own_at (1 : Int32) pa pb pd) = pb from by rw [own_at, if_neg (by decide), if_pos rfl])] at hv173; subst hv173
        have N173 := Fr.app N172 N173q
        refine Go.pull (V := T173.setTop (mkF m 131 #[iv ps, iv pe, iv pa, iv pb, iv pd, iv pq, iv 3, rv b125, rv b126, rv b133, iv 1, iv pb, rv b167, .unset] [(.int pb)])) st173 ?_
        refine Go.pull (V := T173.setTop (mkF m 133 #[iv ps, iv pe, iv pa, iv pb, iv pd, iv pq, iv 3, rv b125, rv b126, rv b133, iv 1, iv pb, rv b167, .unset] [(.int pb), (.int pb)])) (fun t k => XS.iload X173.here hx rfl (hb hby at_131) rfl  k) ?_
        refine Go.pull (V := T173.setTop (mkF m 136 #[iv ps, iv pe, iv pa, iv pb, iv pd, iv pq, iv 3, rv b125, rv b126, rv b133, iv 1, iv pb, rv b167, .unset] [])) (fun t k => XS.icmpNo X173.here hx rfl (hb hby at_133) rfl (XT.ii_ne_f rfl) k) ?_
        refine Go.pull (V := T173.setTop (mkF m 137 #[iv ps, iv pe, iv pa, iv pb, iv pd, iv pq, iv 3, rv b125, rv b126, rv b133, iv 1, iv pb, rv b167, .unset] [(.int 1)])) (fun t k => XS.iconst X173.here hx rfl (hb hby at_136) k) ?_
        refine Go.pull (V := T173.setTop (mkF m 141 #[iv ps, iv pe, iv pa, iv pb, iv pd, iv pq, iv 3, rv b125, rv b126, rv b133, iv 1, iv pb, rv b167, .unset] [(.int 1)])) (fun t k => XS.goto X173.here hx rfl (pc0 := 137) (pc' := 141) rfl (hb hby at_137) (by decide) (by decide) k) ?_
        refine Go.pull (V := T173.setTop (mkF m 143 #[iv ps, iv pe, iv pa, iv pb, iv pd, iv pq, iv 3, rv b125, rv b126, rv b133, iv 1, iv pb, rv b167, iv 1] [])) (fun t k => XS.istore X173.here hx rfl (hb hby at_141) rfl (l' := #[iv ps, iv pe, iv pa, iv pb, iv pd, iv pq, iv 3, rv b125, rv b126, rv b133, iv 1, iv pb, rv b167, iv 1]) rfl k) ?_
        refine Go.pull (V := T173.setTop (mkF m 145 #[iv ps, iv pe, iv pa, iv pb, iv pd, iv pq, iv 3, rv b125, rv b126, rv b133, iv 1, iv pb, rv b167, iv 1] [(.ref b167)])) (fun t k => XS.aload X173.here hx rfl (hb hby at_143) rfl rfl k) ?_
        refine Go.pull (V := T173.setTop (mkF m 147 #[iv ps, iv pe, iv pa, iv pb, iv pd, iv pq, iv 3, rv b125, rv b126, rv b133, iv 1, iv pb, rv b167, iv 1] [(.int 1), (.ref b167)])) (fun t k => XS.iload X173.here hx rfl (hb hby at_145) rfl  k) ?_
        refine Go.pull (V := T173.setTop (mkF m 149 #[iv ps, iv pe, iv pa, iv pb, iv pd, iv pq, iv 3, rv b125, rv b126, rv b133, iv 1, iv pb, rv b167, iv 1] [(.int pb), (.int 1), (.ref b167)])) (fun t k => XS.iload X173.here hx rfl (hb hby at_147) rfl  k) ?_
        obtain ⟨cq174, kq174, q174a, q174b, q174c⟩ := isOf hZ e173 (A167.keep Kc172)
        obtain ⟨_, _, ⟨T174, L174, k174, n174⟩, -, X174, ⟨Lc174, hQ174, l174, y174, z174⟩, st174⟩ := X173.virtualBack hx (y := (⟨"com/example/threshold/threshold/PostingList", "holdsAt", "(II)Z"⟩ : MethodName)) (z := (⟨"com/example/threshold/threshold/PostingList", "holdsAt", "(II)Z"⟩ : MethodName)) hown (mvT hZ (hw _ (List.mem_of_getElem? (i := 18) rfl))) (mvT hZ (hw _ (List.mem_of_getElem? (i := 19) rfl))) (notFace_of_selects (args := #[]) (mvT hZ (hw _ (List.mem_of_getElem? (i := 21) rfl)))) (mvT hZ (hw _ (List.mem_of_getElem? (i := 21) rfl))) (mvT hZ (hw _ (List.mem_of_getElem? (i := 20) rfl))) (by decide) (backOf (W := 0) (rmA l Z a0 hw [] b167 (1 : Int32) pb b125 k125 (3 : Int32) ([(.int pa), (.int pb), (.int pd)] : List Value) pb T172.heap n0 Fc172_0 (((V132.ext E133).ext E167).keep Kc172 (ninS (ne_b125_b167) nin0)) rfl (by decide)) hZ (hw _ (List.mem_of_getElem? (i := 22) rfl)) (hw _ (List.mem_of_getElem? (i := 3) rfl)) (by decide) (by decide)) q174a q174c (g := (mkF m 149 #[iv ps, iv pe, iv pa, iv pb, iv pd, iv pq, iv 3, rv b125, rv b126, rv b133, iv 1, iv pb, rv b167, iv 1] [(.int pb), (.int 1), (.ref b167)])) rfl (by rw [hml]; rfl) (Steps.refl _) (argsL := [(.int 1), (.int pb)]) (rest := []) (lenOf pd_1 rfl) rfl (by show 2 * 0 + _ ≤ _; exact Nat.le_of_eq rfl) (hb hby at_149) (fun _ _ => ⟨rfl, e173, (by decide : 4 + 0 ≤ _), (by decide : 11 + 0 ≤ _)⟩)
        dsimp only [Pt.U, Pt.locs, Pt.cells, Pt.slots] at X174 l174 y174 z174 st174 hQ174
        subst l174 y174 z174
        obtain ⟨hv174, N174q, e174⟩ := hQ174
        rw [(show (own_hold (1 : Int32) (3 : Int32) pb pb) = (1 : Int32) from by rw [own_hold, if_pos (by decide), if_pos rfl])] at hv174; subst hv174
        have N174 := Fr.app N173 N174q
        refine Go.pull (V := T174.setTop (mkF m 152 #[iv ps, iv pe, iv pa, iv pb, iv pd, iv pq, iv 3, rv b125, rv b126, rv b133, iv 1, iv pb, rv b167, iv 1] [(.int 1)])) (fun _ k => st174.trans k) ?_
        refine Go.pull (V := T174.setTop (mkF m 154 #[iv ps, iv pe, iv pa, iv pb, iv pd, iv pq, iv 3, rv b125, rv b126, rv b133, iv 1, iv pb, rv b167, iv 1] [(.int 1), (.int 1)])) (fun t k => XS.iload X174.here hx rfl (hb hby at_152) rfl  k) ?_
        refine Go.pull (V := T174.setTop (mkF m 157 #[iv ps, iv pe, iv pa, iv pb, iv pd, iv pq, iv 3, rv b125, rv b126, rv b133, iv 1, iv pb, rv b167, iv 1] [])) (fun t k => XS.icmpNo X174.here hx rfl (hb hby at_154) rfl (XT.ii_ne_f (by decide)) k) ?_
        refine Go.pull (V := T174.setTop (mkF m 158 #[iv ps, iv pe, iv pa, iv pb, iv pd, iv pq, iv 3, rv b125, rv b126, rv b133, iv 1, iv pb, rv b167, iv 1] [(.int 1)])) (fun t k => XS.iconst X174.here hx rfl (hb hby at_157) k) ?_
        refine Go.pull (V := T174.setTop (mkF m 162 #[iv ps, iv pe, iv pa, iv pb, iv pd, iv pq, iv 3, rv b125, rv b126, rv b133, iv 1, iv pb, rv b167, iv 1] [(.int 1)])) (fun t k => XS.goto X174.here hx rfl (pc0 := 158) (pc' := 162) rfl (hb hby at_158) (by decide) (by decide) k) ?_
        exact Go.retN X174 hx Bd.notSynchronized (t := .boolean) Bd.returns (by simp) (hb hby at_162) ⟨rfl, N174⟩ (by decide) (by decide)
    · subst hv134
      refine Go.pull (V := T133.setTop (mkF m 67 #[iv ps, iv pe, iv pa, iv pb, iv pd, iv pq, iv 3, rv b125, rv b126, rv b133, iv 2, .unset, .unset, .unset] [(.int pq)])) (fun t k => XS.iload X133.here hx rfl (hb hby at_65) rfl  k) ?_
      refine Go.pull (V := T133.setTop (mkF m 69 #[iv ps, iv pe, iv pa, iv pb, iv pd, iv pq, iv 3, rv b125, rv b126, rv b133, iv 2, iv pq, .unset, .unset] [])) (fun t k => XS.istore X133.here hx rfl (hb hby at_67) rfl (l' := #[iv ps, iv pe, iv pa, iv pb, iv pd, iv pq, iv 3, rv b125, rv b126, rv b133, iv 2, iv pq, .unset, .unset]) rfl k) ?_
      refine Go.pull (V := T133.setTop (mkF m 70 #[iv ps, iv pe, iv pa, iv pb, iv pd, iv pq, iv 3, rv b125, rv b126, rv b133, iv 2, iv pq, .unset, .unset] [(.int pe)])) (fun t k => XS.iloadN X133.here hx rfl (hb hby at_69) rfl  k) ?_
      refine Go.pull (V := T133.setTop (mkF m 71 #[iv ps, iv pe, iv pa, iv pb, iv pd, iv pq, iv 3, rv b125, rv b126, rv b133, iv 2, iv pq, .unset, .unset] [(.int 4), (.int pe)])) (fun t k => XS.iconst X133.here hx rfl (hb hby at_70) k) ?_
      refine Go.pull (V := T133.setTop (mkF m 72 #[iv ps, iv pe, iv pa, iv pb, iv pd, iv pq, iv 3, rv b125, rv b126, rv b133, iv 2, iv pq, .unset, .unset] [(.int (pe &&& (4 : Int32)))])) (fun t k => XS.iand X133.here hx rfl (hb hby at_71) rfl k) ?_
      by_cases hc72_175 : (pe &&& (4 : Int32)) = 0
      · skip
        refine Go.pull (V := T133.setTop (mkF m 93 #[iv ps, iv pe, iv pa, iv pb, iv pd, iv pq, iv 3, rv b125, rv b126, rv b133, iv 2, iv pq, .unset, .unset] [])) (fun t k => XS.ifYes X133.here hx rfl (pc0 := 72) (pc' := 93) rfl (hb hby at_72) rfl (XT.i0_eq_t hc72_175) (by decide) (by decide) k) ?_
        obtain ⟨T176, h176, X176, e176, E176, A176, D176, -, st176⟩ := newO X133 hx hZ hown (hw _ (List.mem_of_getElem? (i := 1) rfl)) (hw _ (List.mem_of_getElem? (i := 2) rfl)) (hw _ (List.mem_of_getElem? (i := 3) rfl)) e133 (g := (mkF m 93 #[iv ps, iv pe, iv pa, iv pb, iv pd, iv pq, iv 3, rv b125, rv b126, rv b133, iv 2, iv pq, .unset, .unset] [])) rfl (hb hby at_93) (by decide) (by decide)
        obtain ⟨b176, g176⟩ : ∃ z, z = h133.size := ⟨_, rfl⟩
        rw [← g176] at A176 D176 st176
        have ne_b125_b176 : b125 ≠ b176 := Nat.ne_of_lt (Nat.lt_of_lt_of_le (V132.ext E133).lt (Nat.le_of_eq g176.symm))
        have ne_b126_b176 : b126 ≠ b176 := Nat.ne_of_lt (Nat.lt_of_lt_of_le ((((V126.other W128 (Ne.symm (ne_b125_b126))).other W130 (Ne.symm (ne_b125_b126))).other W132 (Ne.symm (ne_b125_b126))).ext E133).lt (Nat.le_of_eq g176.symm))
        have ne_b133_b176 : b133 ≠ b176 := Nat.ne_of_lt (Nat.lt_of_lt_of_le V133.lt (Nat.le_of_eq g176.symm))
        have sz_b176 : h0.size ≤ b176 := Nat.le_trans (K133).1 (Nat.le_of_eq g176.symm)
        have g_b176 : n0 ≤ b176 := Nat.le_trans Z0 sz_b176
        have K176 : Keep h0 h176 [] := K133.ext E176
        have F177 : Fld Z h176 b176 "com/example/threshold/threshold/PostingList" "documents" "[I" .null := D176 (Or.inr (hw _ (List.mem_of_getElem? (i := 11) rfl))) (ty := (.array .int)) (by decide)
        have F178 : Fld Z h176 b176 "com/example/threshold/threshold/PostingList" "counts" "[I" .null := D176 (Or.inr (hw _ (List.mem_of_getElem? (i := 13) rfl))) (ty := (.array .int)) (by decide)
        have F179 : Fld Z h176 b176 "com/example/threshold/threshold/PostingList" "collectionFrequency" "J" (.long 0) := D176 (Or.inr (hw _ (List.mem_of_getElem? (i := 15) rfl))) (ty := .long) (by decide)
        have F180 : Fld Z h176 b176 "com/example/threshold/threshold/PostingList" "lengths" "[I" .null := D176 (Or.inr (hw _ (List.mem_of_getElem? (i := 17) rfl))) (ty := (.array .int)) (by decide)
        refine Go.pull (V := T176.setTop (mkF m 96 #[iv ps, iv pe, iv pa, iv pb, iv pd, iv pq, iv 3, rv b125, rv b126, rv b133, iv 2, iv pq, .unset, .unset] [(.ref b176)])) st176 ?_
        refine Go.pull (V := T176.setTop (mkF m 97 #[iv ps, iv pe, iv pa, iv pb, iv pd, iv pq, iv 3, rv b125, rv b126, rv b133, iv 2, iv pq, .unset, .unset] [(.ref b176), (.ref b176)])) (fun t k => XS.dup X176.here hx rfl (hb hby at_96) rfl rfl k) ?_
        refine Go.pull (V := T176.setTop (mkF m 99 #[iv ps, iv pe, iv pa, iv pb, iv pd, iv pq, iv 3, rv b125, rv b126, rv b133, iv 2, iv pq, .unset, .unset] [(.ref b125), (.ref b176), (.ref b176)])) (fun t k => XS.aload X176.here hx rfl (hb hby at_97) rfl rfl k) ?_
        refine Go.pull (V := T176.setTop (mkF m 101 #[iv ps, iv pe, iv pa, iv pb, iv pd, iv pq, iv 3, rv b125, rv b126, rv b133, iv 2, iv pq, .unset, .unset] [(.ref b126), (.ref b125), (.ref b176), (.ref b176)])) (fun t k => XS.aload X176.here hx rfl (hb hby at_99) rfl rfl k) ?_
        refine Go.pull (V := T176.setTop (mkF m 102 #[iv ps, iv pe, iv pa, iv pb, iv pd, iv pq, iv 3, rv b125, rv b126, rv b133, iv 2, iv pq, .unset, .unset] [(.long 0), (.ref b126), (.ref b125), (.ref b176), (.ref b176)])) (fun t k => XS.lconst X176.here hx rfl (hb hby at_101) k) ?_
        refine Go.pull (V := T176.setTop (mkF m 104 #[iv ps, iv pe, iv pa, iv pb, iv pd, iv pq, iv 3, rv b125, rv b126, rv b133, iv 2, iv pq, .unset, .unset] [(.ref b133), (.long 0), (.ref b126), (.ref b125), (.ref b176), (.ref b176)])) (fun t k => XS.aload X176.here hx rfl (hb hby at_102) rfl rfl k) ?_
        obtain ⟨_, _, ⟨T181, L181, k181, n181⟩, -, X181, ⟨Lc181, hQ181, l181, y181, z181⟩, st181⟩ := X176.specialBack hx (y := (⟨"com/example/threshold/threshold/PostingList", "<init>", "([I[IJ[I)V"⟩ : MethodName)) rfl hown (mvT hZ (hw _ (List.mem_of_getElem? (i := 4) rfl))) (mvT hZ (hw _ (List.mem_of_getElem? (i := 5) rfl))) (mvT hZ (hw _ (List.mem_of_getElem? (i := 6) rfl))) (by decide) (backOf (W := 1) (rmI l Z a0 hw [] b176 b125 b126 (0 : Int64) b133 .null .null (.long 0) .null h176 n0 (g_b176) A176 F177 F178 F179 F180) hZ (hw _ (List.mem_of_getElem? (i := 6) rfl)) (hw _ (List.mem_of_getElem? (i := 3) rfl)) (by decide) (by decide)) (g := (mkF m 104 #[iv ps, iv pe, iv pa, iv pb, iv pd, iv pq, iv 3, rv b125, rv b126, rv b133, iv 2, iv pq, .unset, .unset] [(.ref b133), (.long 0), (.ref b126), (.ref b125), (.ref b176), (.ref b176)])) rfl (by rw [hml]; rfl) (Steps.refl _) (a := b176) (argsL := [(.ref b125), (.ref b126), (.long 0), (.ref b133)]) (rest := [(.ref b176)]) (lenOf pd_0 rfl) rfl (by show 2 * 0 + _ ≤ _; exact Nat.le_of_eq rfl) (hb hby at_104) (fun _ _ => ⟨rfl, e176, (by decide : 4 + 0 ≤ _), (by decide : 11 + 0 ≤ _)⟩)
        dsimp only [Pt.U, Pt.locs, Pt.cells, Pt.slots] at X181 l181 y181 z181 st181 hQ181
        subst l181 y181 z181
        obtain ⟨rfl, N181q, Kc181, Fc181_0⟩ := hQ181
        have K181 : Keep h0 T181.heap [] := K176.trans Kc181 ((allS (Or.inr sz_b176) all0))
        have N181 := Fr.app N132 N181q
        refine Go.pull (V := T181.setTop (mkF m 107 #[iv ps, iv pe, iv pa, iv pb, iv pd, iv pq, iv 3, rv b125, rv b126, rv b133, iv 2, iv pq, .unset, .unset] [(.ref b176)])) (fun _ k => st181.trans k) ?_
        refine Go.pull (V := T181.setTop (mkF m 109 #[iv ps, iv pe, iv pa, iv pb, iv pd, iv pq, iv 3, rv b125, rv b126, rv b133, iv 2, iv pq, rv b176, .unset] [])) (fun t k => XS.astore X181.here hx rfl (hb hby at_107) rfl rfl (l' := #[iv ps, iv pe, iv pa, iv pb, iv pd, iv pq, iv 3, rv b125, rv b126, rv b133, iv 2, iv pq, rv b176, .unset]) rfl k) ?_
        refine Go.pull (V := T181.setTop (mkF m 111 #[iv ps, iv pe, iv pa, iv pb, iv pd, iv pq, iv 3, rv b125, rv b126, rv b133, iv 2, iv pq, rv b176, .unset] [(.int 2)])) (fun t k => XS.iload X181.here hx rfl (hb hby at_109) rfl  k) ?_
        refine Go.pull (V := T181.setTop (mkF m 113 #[iv ps, iv pe, iv pa, iv pb, iv pd, iv pq, iv 3, rv b125, rv b126, rv b133, iv 2, iv pq, rv b176, .unset] [(.int 3), (.int 2)])) (fun t k => XS.iload X181.here hx rfl (hb hby at_111) rfl  k) ?_
        refine Go.pull (V := T181.setTop (mkF m 122 #[iv ps, iv pe, iv pa, iv pb, iv pd, iv pq, iv 3, rv b125, rv b126, rv b133, iv 2, iv pq, rv b176, .unset] [])) (fun t k => XS.icmpYes X181.here hx rfl (pc0 := 113) (pc' := 122) rfl (hb hby at_113) rfl (XT.ii_lt_t (by decide)) (by decide) (by decide) k) ?_
        refine Go.pull (V := T181.setTop (mkF m 124 #[iv ps, iv pe, iv pa, iv pb, iv pd, iv pq, iv 3, rv b125, rv b126, rv b133, iv 2, iv pq, rv b176, .unset] [(.int 2)])) (fun t k => XS.iload X181.here hx rfl (hb hby at_122) rfl  k) ?_
        refine Go.pull (V := T181.setTop (mkF m 125 #[iv ps, iv pe, iv pa, iv pb, iv pd, iv pq, iv 3, rv b125, rv b126, rv b133, iv 2, iv pq, rv b176, .unset] [(.int pa), (.int 2)])) (fun t k => XS.iloadN X181.here hx rfl (hb hby at_124) rfl  k) ?_
        refine Go.pull (V := T181.setTop (mkF m 126 #[iv ps, iv pe, iv pa, iv pb, iv pd, iv pq, iv 3, rv b125, rv b126, rv b133, iv 2, iv pq, rv b176, .unset] [(.int pb), (.int pa), (.int 2)])) (fun t k => XS.iloadN X181.here hx rfl (hb hby at_125) rfl  k) ?_
        refine Go.pull (V := T181.setTop (mkF m 128 #[iv ps, iv pe, iv pa, iv pb, iv pd, iv pq, iv 3, rv b125, rv b126, rv b133, iv 2, iv pq, rv b176, .unset] [(.int pd), (.int pb), (.int pa), (.int 2)])) (fun t k => XS.iload X181.here hx rfl (hb hby at_126) rfl  k) ?_
        obtain ⟨_, _, ⟨T182, L182, k182, n182⟩, -, X182, ⟨Lc182, hQ182, l182, y182, z182⟩, st182⟩ := Jvm.LawKit.callS X181 hx (y := (⟨"com/example/threshold/threshold/PostingListHoldsAtPinLaw", "at", "(IIII)I"⟩ : MethodName)) hown (mvT hZ (hw _ (List.mem_of_getElem? (i := 23) rfl))) (mvT hZ (hw _ (List.mem_of_getElem? (i := 24) rfl))) (mvT hZ (hw _ (List.mem_of_getElem? (i := 25) rfl))) (mvT hZ (hw _ (List.mem_of_getElem? (i := 26) rfl))) (by decide) (backOf (W := 0) (rmT l Z a0 hw [] (2 : Int32) pa pb pd T181.heap n0 ) hZ (hw _ (List.mem_of_getElem? (i := 26) rfl)) (hw _ (List.mem_of_getElem? (i := 25) rfl)) (by decide) (by decide)) (g := (mkF m 128 #[iv ps, iv pe, iv pa, iv pb, iv pd, iv pq, iv 3, rv b125, rv b126, rv b133, iv 2, iv pq, rv b176, .unset] [(.int pd), (.int pb), (.int pa), (.int 2)])) rfl (by rw [hml]; rfl) (argsL := [(.int 2), (.int pa), (.int pb), (.int pd)]) (rest := []) (lenOf pd_2 rfl) rfl (by show 2 * 0 + _ ≤ _; exact Nat.le_of_eq rfl) (hb hby at_128) (fun _ _ => ⟨rfl, rfl, (by decide : 4 + 0 ≤ _), (by decide : 11 + 0 ≤ _)⟩)
        dsimp only [Pt.U, Pt.locs, Pt.cells, Pt.slots] at X182 l182 y182 z182 st182 hQ182
        subst l182 y182 z182
        obtain ⟨hv182, N182q, e182⟩ := hQ182
        rw [(show (own_at (2 : Int32) pa pb pd) = pd from by rw [own_at, if_neg (by decide), if_neg (by decide)])] at hv182; subst hv182
        have N182 := Fr.app N181 N182q
        refine Go.pull (V := T182.setTop (mkF m 131 #[iv ps, iv pe, iv pa, iv pb, iv pd, iv pq, iv 3, rv b125, rv b126, rv b133, iv 2, iv pq, rv b176, .unset] [(.int pd)])) st182 ?_
        refine Go.pull (V := T182.setTop (mkF m 133 #[iv ps, iv pe, iv pa, iv pb, iv pd, iv pq, iv 3, rv b125, rv b126, rv b133, iv 2, iv pq, rv b176, .unset] [(.int pq), (.int pd)])) (fun t k => XS.iload X182.here hx rfl (hb hby at_131) rfl  k) ?_
        by_cases hc133_183 : pd = pq
        · skip
          refine Go.pull (V := T182.setTop (mkF m 136 #[iv ps, iv pe, iv pa, iv pb, iv pd, iv pq, iv 3, rv b125, rv b126, rv b133, iv 2, iv pq, rv b176, .unset] [])) (fun t k => XS.icmpNo X182.here hx rfl (hb hby at_133) rfl (XT.ii_ne_f hc133_183) k) ?_
          refine Go.pull (V := T182.setTop (mkF m 137 #[iv ps, iv pe, iv pa, iv pb, iv pd, iv pq, iv 3, rv b125, rv b126, rv b133, iv 2, iv pq, rv b176, .unset] [(.int 1)])) (fun t k => XS.iconst X182.here hx rfl (hb hby at_136) k) ?_
          refine Go.pull (V := T182.setTop (mkF m 141 #[iv ps, iv pe, iv pa, iv pb, iv pd, iv pq, iv 3, rv b125, rv b126, rv b133, iv 2, iv pq, rv b176, .unset] [(.int 1)])) (fun t k => XS.goto X182.here hx rfl (pc0 := 137) (pc' := 141) rfl (hb hby at_137) (by decide) (by decide) k) ?_
          refine Go.pull (V := T182.setTop (mkF m 143 #[iv ps, iv pe, iv pa, iv pb, iv pd, iv pq, iv 3, rv b125, rv b126, rv b133, iv 2, iv pq, rv b176, iv 1] [])) (fun t k => XS.istore X182.here hx rfl (hb hby at_141) rfl (l' := #[iv ps, iv pe, iv pa, iv pb, iv pd, iv pq, iv 3, rv b125, rv b126, rv b133, iv 2, iv pq, rv b176, iv 1]) rfl k) ?_
          refine Go.pull (V := T182.setTop (mkF m 145 #[iv ps, iv pe, iv pa, iv pb, iv pd, iv pq, iv 3, rv b125, rv b126, rv b133, iv 2, iv pq, rv b176, iv 1] [(.ref b176)])) (fun t k => XS.aload X182.here hx rfl (hb hby at_143) rfl rfl k) ?_
          refine Go.pull (V := T182.setTop (mkF m 147 #[iv ps, iv pe, iv pa, iv pb, iv pd, iv pq, iv 3, rv b125, rv b126, rv b133, iv 2, iv pq, rv b176, iv 1] [(.int 2), (.ref b176)])) (fun t k => XS.iload X182.here hx rfl (hb hby at_145) rfl  k) ?_
          refine Go.pull (V := T182.setTop (mkF m 149 #[iv ps, iv pe, iv pa, iv pb, iv pd, iv pq, iv 3, rv b125, rv b126, rv b133, iv 2, iv pq, rv b176, iv 1] [(.int pq), (.int 2), (.ref b176)])) (fun t k => XS.iload X182.here hx rfl (hb hby at_147) rfl  k) ?_
          obtain ⟨cq184, kq184, q184a, q184b, q184c⟩ := isOf hZ e182 (A176.keep Kc181)
          obtain ⟨_, _, ⟨T184, L184, k184, n184⟩, -, X184, ⟨Lc184, hQ184, l184, y184, z184⟩, st184⟩ := X182.virtualBack hx (y := (⟨"com/example/threshold/threshold/PostingList", "holdsAt", "(II)Z"⟩ : MethodName)) (z := (⟨"com/example/threshold/threshold/PostingList", "holdsAt", "(II)Z"⟩ : MethodName)) hown (mvT hZ (hw _ (List.mem_of_getElem? (i := 18) rfl))) (mvT hZ (hw _ (List.mem_of_getElem? (i := 19) rfl))) (notFace_of_selects (args := #[]) (mvT hZ (hw _ (List.mem_of_getElem? (i := 21) rfl)))) (mvT hZ (hw _ (List.mem_of_getElem? (i := 21) rfl))) (mvT hZ (hw _ (List.mem_of_getElem? (i := 20) rfl))) (by decide) (backOf (W := 0) (rmA l Z a0 hw [] b176 (2 : Int32) pq b125 k125 (3 : Int32) ([(.int pa), (.int pb), (.int pd)] : List Value) pd T181.heap n0 Fc181_0 (((V132.ext E133).ext E176).keep Kc181 (ninS (ne_b125_b176) nin0)) rfl (by decide)) hZ (hw _ (List.mem_of_getElem? (i := 22) rfl)) (hw _ (List.mem_of_getElem? (i := 3) rfl)) (by decide) (by decide)) q184a q184c (g := (mkF m 149 #[iv ps, iv pe, iv pa, iv pb, iv pd, iv pq, iv 3, rv b125, rv b126, rv b133, iv 2, iv pq, rv b176, iv 1] [(.int pq), (.int 2), (.ref b176)])) rfl (by rw [hml]; rfl) (Steps.refl _) (argsL := [(.int 2), (.int pq)]) (rest := []) (lenOf pd_1 rfl) rfl (by show 2 * 0 + _ ≤ _; exact Nat.le_of_eq rfl) (hb hby at_149) (fun _ _ => ⟨rfl, e182, (by decide : 4 + 0 ≤ _), (by decide : 11 + 0 ≤ _)⟩)
          dsimp only [Pt.U, Pt.locs, Pt.cells, Pt.slots] at X184 l184 y184 z184 st184 hQ184
          subst l184 y184 z184
          obtain ⟨hv184, N184q, e184⟩ := hQ184
          rw [(show (own_hold (2 : Int32) (3 : Int32) pq pd) = (1 : Int32) from by rw [own_hold, if_pos (by decide), if_pos hc133_183])] at hv184; subst hv184
          have N184 := Fr.app N182 N184q
          refine Go.pull (V := T184.setTop (mkF m 152 #[iv ps, iv pe, iv pa, iv pb, iv pd, iv pq, iv 3, rv b125, rv b126, rv b133, iv 2, iv pq, rv b176, iv 1] [(.int 1)])) (fun _ k => st184.trans k) ?_
          refine Go.pull (V := T184.setTop (mkF m 154 #[iv ps, iv pe, iv pa, iv pb, iv pd, iv pq, iv 3, rv b125, rv b126, rv b133, iv 2, iv pq, rv b176, iv 1] [(.int 1), (.int 1)])) (fun t k => XS.iload X184.here hx rfl (hb hby at_152) rfl  k) ?_
          refine Go.pull (V := T184.setTop (mkF m 157 #[iv ps, iv pe, iv pa, iv pb, iv pd, iv pq, iv 3, rv b125, rv b126, rv b133, iv 2, iv pq, rv b176, iv 1] [])) (fun t k => XS.icmpNo X184.here hx rfl (hb hby at_154) rfl (XT.ii_ne_f (by decide)) k) ?_
          refine Go.pull (V := T184.setTop (mkF m 158 #[iv ps, iv pe, iv pa, iv pb, iv pd, iv pq, iv 3, rv b125, rv b126, rv b133, iv 2, iv pq, rv b176, iv 1] [(.int 1)])) (fun t k => XS.iconst X184.here hx rfl (hb hby at_157) k) ?_
          refine Go.pull (V := T184.setTop (mkF m 162 #[iv ps, iv pe, iv pa, iv pb, iv pd, iv pq, iv 3, rv b125, rv b126, rv b133, iv 2, iv pq, rv b176, iv 1] [(.int 1)])) (fun t k => XS.goto X184.here hx rfl (pc0 := 158) (pc' := 162) rfl (hb hby at_158) (by decide) (by decide) k) ?_
          exact Go.retN X184 hx Bd.notSynchronized (t := .boolean) Bd.returns (by simp) (hb hby at_162) ⟨rfl, N184⟩ (by decide) (by decide)
        · skip
          refine Go.pull (V := T182.setTop (mkF m 140 #[iv ps, iv pe, iv pa, iv pb, iv pd, iv pq, iv 3, rv b125, rv b126, rv b133, iv 2, iv pq, rv b176, .unset] [])) (fun t k => XS.icmpYes X182.here hx rfl (pc0 := 133) (pc' := 140) rfl (hb hby at_133) rfl (XT.ii_ne_t hc133_183) (by decide) (by decide) k) ?_
          refine Go.pull (V := T182.setTop (mkF m 141 #[iv ps, iv pe, iv pa, iv pb, iv pd, iv pq, iv 3, rv b125, rv b126, rv b133, iv 2, iv pq, rv b176, .unset] [(.int 0)])) (fun t k => XS.iconst X182.here hx rfl (hb hby at_140) k) ?_
          refine Go.pull (V := T182.setTop (mkF m 143 #[iv ps, iv pe, iv pa, iv pb, iv pd, iv pq, iv 3, rv b125, rv b126, rv b133, iv 2, iv pq, rv b176, iv 0] [])) (fun t k => XS.istore X182.here hx rfl (hb hby at_141) rfl (l' := #[iv ps, iv pe, iv pa, iv pb, iv pd, iv pq, iv 3, rv b125, rv b126, rv b133, iv 2, iv pq, rv b176, iv 0]) rfl k) ?_
          refine Go.pull (V := T182.setTop (mkF m 145 #[iv ps, iv pe, iv pa, iv pb, iv pd, iv pq, iv 3, rv b125, rv b126, rv b133, iv 2, iv pq, rv b176, iv 0] [(.ref b176)])) (fun t k => XS.aload X182.here hx rfl (hb hby at_143) rfl rfl k) ?_
          refine Go.pull (V := T182.setTop (mkF m 147 #[iv ps, iv pe, iv pa, iv pb, iv pd, iv pq, iv 3, rv b125, rv b126, rv b133, iv 2, iv pq, rv b176, iv 0] [(.int 2), (.ref b176)])) (fun t k => XS.iload X182.here hx rfl (hb hby at_145) rfl  k) ?_
          refine Go.pull (V := T182.setTop (mkF m 149 #[iv ps, iv pe, iv pa, iv pb, iv pd, iv pq, iv 3, rv b125, rv b126, rv b133, iv 2, iv pq, rv b176, iv 0] [(.int pq), (.int 2), (.ref b176)])) (fun t k => XS.iload X182.here hx rfl (hb hby at_147) rfl  k) ?_
          obtain ⟨cq185, kq185, q185a, q185b, q185c⟩ := isOf hZ e182 (A176.keep Kc181)
          obtain ⟨_, _, ⟨T185, L185, k185, n185⟩, -, X185, ⟨Lc185, hQ185, l185, y185, z185⟩, st185⟩ := X182.virtualBack hx (y := (⟨"com/example/threshold/threshold/PostingList", "holdsAt", "(II)Z"⟩ : MethodName)) (z := (⟨"com/example/threshold/threshold/PostingList", "holdsAt", "(II)Z"⟩ : MethodName)) hown (mvT hZ (hw _ (List.mem_of_getElem? (i := 18) rfl))) (mvT hZ (hw _ (List.mem_of_getElem? (i := 19) rfl))) (notFace_of_selects (args := #[]) (mvT hZ (hw _ (List.mem_of_getElem? (i := 21) rfl)))) (mvT hZ (hw _ (List.mem_of_getElem? (i := 21) rfl))) (mvT hZ (hw _ (List.mem_of_getElem? (i := 20) rfl))) (by decide) (backOf (W := 0) (rmA l Z a0 hw [] b176 (2 : Int32) pq b125 k125 (3 : Int32) ([(.int pa), (.int pb), (.int pd)] : List Value) pd T181.heap n0 Fc181_0 (((V132.ext E133).ext E176).keep Kc181 (ninS (ne_b125_b176) nin0)) rfl (by decide)) hZ (hw _ (List.mem_of_getElem? (i := 22) rfl)) (hw _ (List.mem_of_getElem? (i := 3) rfl)) (by decide) (by decide)) q185a q185c (g := (mkF m 149 #[iv ps, iv pe, iv pa, iv pb, iv pd, iv pq, iv 3, rv b125, rv b126, rv b133, iv 2, iv pq, rv b176, iv 0] [(.int pq), (.int 2), (.ref b176)])) rfl (by rw [hml]; rfl) (Steps.refl _) (argsL := [(.int 2), (.int pq)]) (rest := []) (lenOf pd_1 rfl) rfl (by show 2 * 0 + _ ≤ _; exact Nat.le_of_eq rfl) (hb hby at_149) (fun _ _ => ⟨rfl, e182, (by decide : 4 + 0 ≤ _), (by decide : 11 + 0 ≤ _)⟩)
          dsimp only [Pt.U, Pt.locs, Pt.cells, Pt.slots] at X185 l185 y185 z185 st185 hQ185
          subst l185 y185 z185
          obtain ⟨hv185, N185q, e185⟩ := hQ185
          rw [(show (own_hold (2 : Int32) (3 : Int32) pq pd) = (0 : Int32) from by rw [own_hold, if_pos (by decide), if_neg hc133_183])] at hv185; subst hv185
          have N185 := Fr.app N182 N185q
          refine Go.pull (V := T185.setTop (mkF m 152 #[iv ps, iv pe, iv pa, iv pb, iv pd, iv pq, iv 3, rv b125, rv b126, rv b133, iv 2, iv pq, rv b176, iv 0] [(.int 0)])) (fun _ k => st185.trans k) ?_
          refine Go.pull (V := T185.setTop (mkF m 154 #[iv ps, iv pe, iv pa, iv pb, iv pd, iv pq, iv 3, rv b125, rv b126, rv b133, iv 2, iv pq, rv b176, iv 0] [(.int 0), (.int 0)])) (fun t k => XS.iload X185.here hx rfl (hb hby at_152) rfl  k) ?_
          refine Go.pull (V := T185.setTop (mkF m 157 #[iv ps, iv pe, iv pa, iv pb, iv pd, iv pq, iv 3, rv b125, rv b126, rv b133, iv 2, iv pq, rv b176, iv 0] [])) (fun t k => XS.icmpNo X185.here hx rfl (hb hby at_154) rfl (XT.ii_ne_f (by decide)) k) ?_
          refine Go.pull (V := T185.setTop (mkF m 158 #[iv ps, iv pe, iv pa, iv pb, iv pd, iv pq, iv 3, rv b125, rv b126, rv b133, iv 2, iv pq, rv b176, iv 0] [(.int 1)])) (fun t k => XS.iconst X185.here hx rfl (hb hby at_157) k) ?_
          refine Go.pull (V := T185.setTop (mkF m 162 #[iv ps, iv pe, iv pa, iv pb, iv pd, iv pq, iv 3, rv b125, rv b126, rv b133, iv 2, iv pq, rv b176, iv 0] [(.int 1)])) (fun t k => XS.goto X185.here hx rfl (pc0 := 158) (pc' := 162) rfl (hb hby at_158) (by decide) (by decide) k) ?_
          exact Go.retN X185 hx Bd.notSynchronized (t := .boolean) Bd.returns (by simp) (hb hby at_162) ⟨rfl, N185⟩ (by decide) (by decide)
      · skip
        refine Go.pull (V := T133.setTop (mkF m 75 #[iv ps, iv pe, iv pa, iv pb, iv pd, iv pq, iv 3, rv b125, rv b126, rv b133, iv 2, iv pq, .unset, .unset] [])) (fun t k => XS.ifNo X133.here hx rfl (hb hby at_72) rfl (XT.i0_eq_f hc72_175) k) ?_
        refine Go.pull (V := T133.setTop (mkF m 77 #[iv ps, iv pe, iv pa, iv pb, iv pd, iv pq, iv 3, rv b125, rv b126, rv b133, iv 2, iv pq, .unset, .unset] [(.int 2)])) (fun t k => XS.iload X133.here hx rfl (hb hby at_75) rfl  k) ?_
        refine Go.pull (V := T133.setTop (mkF m 79 #[iv ps, iv pe, iv pa, iv pb, iv pd, iv pq, iv 3, rv b125, rv b126, rv b133, iv 2, iv pq, .unset, .unset] [(.int 3), (.int 2)])) (fun t k => XS.iload X133.here hx rfl (hb hby at_77) rfl  k) ?_
        refine Go.pull (V := T133.setTop (mkF m 82 #[iv ps, iv pe, iv pa, iv pb, iv pd, iv pq, iv 3, rv b125, rv b126, rv b133, iv 2, iv pq, .unset, .unset] [])) (fun t k => XS.icmpNo X133.here hx rfl (hb hby at_79) rfl (XT.ii_ge_f (by decide)) k) ?_
        refine Go.pull (V := T133.setTop (mkF m 84 #[iv ps, iv pe, iv pa, iv pb, iv pd, iv pq, iv 3, rv b125, rv b126, rv b133, iv 2, iv pq, .unset, .unset] [(.int 2)])) (fun t k => XS.iload X133.here hx rfl (hb hby at_82) rfl  k) ?_
        refine Go.pull (V := T133.setTop (mkF m 85 #[iv ps, iv pe, iv pa, iv pb, iv pd, iv pq, iv 3, rv b125, rv b126, rv b133, iv 2, iv pq, .unset, .unset] [(.int pa), (.int 2)])) (fun t k => XS.iloadN X133.here hx rfl (hb hby at_84) rfl  k) ?_
        refine Go.pull (V := T133.setTop (mkF m 86 #[iv ps, iv pe, iv pa, iv pb, iv pd, iv pq, iv 3, rv b125, rv b126, rv b133, iv 2, iv pq, .unset, .unset] [(.int pb), (.int pa), (.int 2)])) (fun t k => XS.iloadN X133.here hx rfl (hb hby at_85) rfl  k) ?_
        refine Go.pull (V := T133.setTop (mkF m 88 #[iv ps, iv pe, iv pa, iv pb, iv pd, iv pq, iv 3, rv b125, rv b126, rv b133, iv 2, iv pq, .unset, .unset] [(.int pd), (.int pb), (.int pa), (.int 2)])) (fun t k => XS.iload X133.here hx rfl (hb hby at_86) rfl  k) ?_
        obtain ⟨_, _, ⟨T186, L186, k186, n186⟩, -, X186, ⟨Lc186, hQ186, l186, y186, z186⟩, st186⟩ := Jvm.LawKit.callS X133 hx (y := (⟨"com/example/threshold/threshold/PostingListHoldsAtPinLaw", "at", "(IIII)I"⟩ : MethodName)) hown (mvT hZ (hw _ (List.mem_of_getElem? (i := 23) rfl))) (mvT hZ (hw _ (List.mem_of_getElem? (i := 24) rfl))) (mvT hZ (hw _ (List.mem_of_getElem? (i := 25) rfl))) (mvT hZ (hw _ (List.mem_of_getElem? (i := 26) rfl))) (by decide) (backOf (W := 0) (rmT l Z a0 hw [] (2 : Int32) pa pb pd h133 n0 ) hZ (hw _ (List.mem_of_getElem? (i := 26) rfl)) (hw _ (List.mem_of_getElem? (i := 25) rfl)) (by decide) (by decide)) (g := (mkF m 88 #[iv ps, iv pe, iv pa, iv pb, iv pd, iv pq, iv 3, rv b125, rv b126, rv b133, iv 2, iv pq, .unset, .unset] [(.int pd), (.int pb), (.int pa), (.int 2)])) rfl (by rw [hml]; rfl) (argsL := [(.int 2), (.int pa), (.int pb), (.int pd)]) (rest := []) (lenOf pd_2 rfl) rfl (by show 2 * 0 + _ ≤ _; exact Nat.le_of_eq rfl) (hb hby at_88) (fun _ _ => ⟨rfl, e133, (by decide : 3 + 0 ≤ _), (by decide : 6 + 0 ≤ _)⟩)
        dsimp only [Pt.U, Pt.locs, Pt.cells, Pt.slots] at X186 l186 y186 z186 st186 hQ186
        subst l186 y186 z186
        obtain ⟨hv186, N186q, e186⟩ := hQ186
        rw [(show (own_at (2 : Int32) pa pb pd) = pd from by rw [own_at, if_neg (by decide), if_neg (by decide)])] at hv186; subst hv186
        have N186 := Fr.app N132 N186q
        refine Go.pull (V := T186.setTop (mkF m 91 #[iv ps, iv pe, iv pa, iv pb, iv pd, iv pq, iv 3, rv b125, rv b126, rv b133, iv 2, iv pq, .unset, .unset] [(.int pd)])) st186 ?_
        refine Go.pull (V := T186.setTop (mkF m 93 #[iv ps, iv pe, iv pa, iv pb, iv pd, iv pq, iv 3, rv b125, rv b126, rv b133, iv 2, iv pd, .unset, .unset] [])) (fun t k => XS.istore X186.here hx rfl (hb hby at_91) rfl (l' := #[iv ps, iv pe, iv pa, iv pb, iv pd, iv pq, iv 3, rv b125, rv b126, rv b133, iv 2, iv pd, .unset, .unset]) rfl k) ?_
        obtain ⟨T187, h187, X187, e187, E187, A187, D187, -, st187⟩ := newO X186 hx hZ hown (hw _ (List.mem_of_getElem? (i := 1) rfl)) (hw _ (List.mem_of_getElem? (i := 2) rfl)) (hw _ (List.mem_of_getElem? (i := 3) rfl)) e186 (g := (mkF m 93 #[iv ps, iv pe, iv pa, iv pb, iv pd, iv pq, iv 3, rv b125, rv b126, rv b133, iv 2, iv pd, .unset, .unset] [])) rfl (hb hby at_93) (by decide) (by decide)
        obtain ⟨b187, g187⟩ : ∃ z, z = h133.size := ⟨_, rfl⟩
        rw [← g187] at A187 D187 st187
        have ne_b125_b187 : b125 ≠ b187 := Nat.ne_of_lt (Nat.lt_of_lt_of_le (V132.ext E133).lt (Nat.le_of_eq g187.symm))
        have ne_b126_b187 : b126 ≠ b187 := Nat.ne_of_lt (Nat.lt_of_lt_of_le ((((V126.other W128 (Ne.symm (ne_b125_b126))).other W130 (Ne.symm (ne_b125_b126))).other W132 (Ne.symm (ne_b125_b126))).ext E133).lt (Nat.le_of_eq g187.symm))
        have ne_b133_b187 : b133 ≠ b187 := Nat.ne_of_lt (Nat.lt_of_lt_of_le V133.lt (Nat.le_of_eq g187.symm))
        have sz_b187 : h0.size ≤ b187 := Nat.le_trans (K133).1 (Nat.le_of_eq g187.symm)
        have g_b187 : n0 ≤ b187 := Nat.le_trans Z0 sz_b187
        have K187 : Keep h0 h187 [] := K133.ext E187
        have F188 : Fld Z h187 b187 "com/example/threshold/threshold/PostingList" "documents" "[I" .null := D187 (Or.inr (hw _ (List.mem_of_getElem? (i := 11) rfl))) (ty := (.array .int)) (by decide)
        have F189 : Fld Z h187 b187 "com/example/threshold/threshold/PostingList" "counts" "[I" .null := D187 (Or.inr (hw _ (List.mem_of_getElem? (i := 13) rfl))) (ty := (.array .int)) (by decide)
        have F190 : Fld Z h187 b187 "com/example/threshold/threshold/PostingList" "collectionFrequency" "J" (.long 0) := D187 (Or.inr (hw _ (List.mem_of_getElem? (i := 15) rfl))) (ty := .long) (by decide)
        have F191 : Fld Z h187 b187 "com/example/threshold/threshold/PostingList" "lengths" "[I" .null := D187 (Or.inr (hw _ (List.mem_of_getElem? (i := 17) rfl))) (ty := (.array .int)) (by decide)
        refine Go.pull (V := T187.setTop (mkF m 96 #[iv ps, iv pe, iv pa, iv pb, iv pd, iv pq, iv 3, rv b125, rv b126, rv b133, iv 2, iv pd, .unset, .unset] [(.ref b187)])) st187 ?_
        refine Go.pull (V := T187.setTop (mkF m 97 #[iv ps, iv pe, iv pa, iv pb, iv pd, iv pq, iv 3, rv b125, rv b126, rv b133, iv 2, iv pd, .unset, .unset] [(.ref b187), (.ref b187)])) (fun t k => XS.dup X187.here hx rfl (hb hby at_96) rfl rfl k) ?_
        refine Go.pull (V := T187.setTop (mkF m 99 #[iv ps, iv pe, iv pa, iv pb, iv pd, iv pq, iv 3, rv b125, rv b126, rv b133, iv 2, iv pd, .unset, .unset] [(.ref b125), (.ref b187), (.ref b187)])) (fun t k => XS.aload X187.here hx rfl (hb hby at_97) rfl rfl k) ?_
        refine Go.pull (V := T187.setTop (mkF m 101 #[iv ps, iv pe, iv pa, iv pb, iv pd, iv pq, iv 3, rv b125, rv b126, rv b133, iv 2, iv pd, .unset, .unset] [(.ref b126), (.ref b125), (.ref b187), (.ref b187)])) (fun t k => XS.aload X187.here hx rfl (hb hby at_99) rfl rfl k) ?_
        refine Go.pull (V := T187.setTop (mkF m 102 #[iv ps, iv pe, iv pa, iv pb, iv pd, iv pq, iv 3, rv b125, rv b126, rv b133, iv 2, iv pd, .unset, .unset] [(.long 0), (.ref b126), (.ref b125), (.ref b187), (.ref b187)])) (fun t k => XS.lconst X187.here hx rfl (hb hby at_101) k) ?_
        refine Go.pull (V := T187.setTop (mkF m 104 #[iv ps, iv pe, iv pa, iv pb, iv pd, iv pq, iv 3, rv b125, rv b126, rv b133, iv 2, iv pd, .unset, .unset] [(.ref b133), (.long 0), (.ref b126), (.ref b125), (.ref b187), (.ref b187)])) (fun t k => XS.aload X187.here hx rfl (hb hby at_102) rfl rfl k) ?_
        obtain ⟨_, _, ⟨T192, L192, k192, n192⟩, -, X192, ⟨Lc192, hQ192, l192, y192, z192⟩, st192⟩ := X187.specialBack hx (y := (⟨"com/example/threshold/threshold/PostingList", "<init>", "([I[IJ[I)V"⟩ : MethodName)) rfl hown (mvT hZ (hw _ (List.mem_of_getElem? (i := 4) rfl))) (mvT hZ (hw _ (List.mem_of_getElem? (i := 5) rfl))) (mvT hZ (hw _ (List.mem_of_getElem? (i := 6) rfl))) (by decide) (backOf (W := 1) (rmI l Z a0 hw [] b187 b125 b126 (0 : Int64) b133 .null .null (.long 0) .null h187 n0 (g_b187) A187 F188 F189 F190 F191) hZ (hw _ (List.mem_of_getElem? (i := 6) rfl)) (hw _ (List.mem_of_getElem? (i := 3) rfl)) (by decide) (by decide)) (g := (mkF m 104 #[iv ps, iv pe, iv pa, iv pb, iv pd, iv pq, iv 3, rv b125, rv b126, rv b133, iv 2, iv pd, .unset, .unset] [(.ref b133), (.long 0), (.ref b126), (.ref b125), (.ref b187), (.ref b187)])) rfl (by rw [hml]; rfl) (Steps.refl _) (a := b187) (argsL := [(.ref b125), (.ref b126), (.long 0), (.ref b133)]) (rest := [(.ref b187)]) (lenOf pd_0 rfl) rfl (by show 2 * 0 + _ ≤ _; exact Nat.le_of_eq rfl) (hb hby at_104) (fun _ _ => ⟨rfl, e187, (by decide : 4 + 0 ≤ _), (by decide : 11 + 0 ≤ _)⟩)
        dsimp only [Pt.U, Pt.locs, Pt.cells, Pt.slots] at X192 l192 y192 z192 st192 hQ192
        subst l192 y192 z192
        obtain ⟨rfl, N192q, Kc192, Fc192_0⟩ := hQ192
        have K192 : Keep h0 T192.heap [] := K187.trans Kc192 ((allS (Or.inr sz_b187) all0))
        have N192 := Fr.app N186 N192q
        refine Go.pull (V := T192.setTop (mkF m 107 #[iv ps, iv pe, iv pa, iv pb, iv pd, iv pq, iv 3, rv b125, rv b126, rv b133, iv 2, iv pd, .unset, .unset] [(.ref b187)])) (fun _ k => st192.trans k) ?_
        refine Go.pull (V := T192.setTop (mkF m 109 #[iv ps, iv pe, iv pa, iv pb, iv pd, iv pq, iv 3, rv b125, rv b126, rv b133, iv 2, iv pd, rv b187, .unset] [])) (fun t k => XS.astore X192.here hx rfl (hb hby at_107) rfl rfl (l' := #[iv ps, iv pe, iv pa, iv pb, iv pd, iv pq, iv 3, rv b125, rv b126, rv b133, iv 2, iv pd, rv b187, .unset]) rfl k) ?_
        refine Go.pull (V := T192.setTop (mkF m 111 #[iv ps, iv pe, iv pa, iv pb, iv pd, iv pq, iv 3, rv b125, rv b126, rv b133, iv 2, iv pd, rv b187, .unset] [(.int 2)])) (fun t k => XS.iload X192.here hx rfl (hb hby at_109) rfl  k) ?_
        refine Go.pull (V := T192.setTop (mkF m 113 #[iv ps, iv pe, iv pa, iv pb, iv pd, iv pq, iv 3, rv b125, rv b126, rv b133, iv 2, iv pd, rv b187, .unset] [(.int 3), (.int 2)])) (fun t k => XS.iload X192.here hx rfl (hb hby at_111) rfl  k) ?_
        refine Go.pull (V := T192.setTop (mkF m 122 #[iv ps, iv pe, iv pa, iv pb, iv pd, iv pq, iv 3, rv b125, rv b126, rv b133, iv 2, iv pd, rv b187, .unset] [])) (fun t k => XS.icmpYes X192.here hx rfl (pc0 := 113) (pc' := 122) rfl (hb hby at_113) rfl (XT.ii_lt_t (by decide)) (by decide) (by decide) k) ?_
        refine Go.pull (V := T192.setTop (mkF m 124 #[iv ps, iv pe, iv pa, iv pb, iv pd, iv pq, iv 3, rv b125, rv b126, rv b133, iv 2, iv pd, rv b187, .unset] [(.int 2)])) (fun t k => XS.iload X192.here hx rfl (hb hby at_122) rfl  k) ?_
        refine Go.pull (V := T192.setTop (mkF m 125 #[iv ps, iv pe, iv pa, iv pb, iv pd, iv pq, iv 3, rv b125, rv b126, rv b133, iv 2, iv pd, rv b187, .unset] [(.int pa), (.int 2)])) (fun t k => XS.iloadN X192.here hx rfl (hb hby at_124) rfl  k) ?_
        refine Go.pull (V := T192.setTop (mkF m 126 #[iv ps, iv pe, iv pa, iv pb, iv pd, iv pq, iv 3, rv b125, rv b126, rv b133, iv 2, iv pd, rv b187, .unset] [(.int pb), (.int pa), (.int 2)])) (fun t k => XS.iloadN X192.here hx rfl (hb hby at_125) rfl  k) ?_
        refine Go.pull (V := T192.setTop (mkF m 128 #[iv ps, iv pe, iv pa, iv pb, iv pd, iv pq, iv 3, rv b125, rv b126, rv b133, iv 2, iv pd, rv b187, .unset] [(.int pd), (.int pb), (.int pa), (.int 2)])) (fun t k => XS.iload X192.here hx rfl (hb hby at_126) rfl  k) ?_
        obtain ⟨_, _, ⟨T193, L193, k193, n193⟩, -, X193, ⟨Lc193, hQ193, l193, y193, z193⟩, st193⟩ := Jvm.LawKit.callS X192 hx (y := (⟨"com/example/threshold/threshold/PostingListHoldsAtPinLaw", "at", "(IIII)I"⟩ : MethodName)) hown (mvT hZ (hw _ (List.mem_of_getElem? (i := 23) rfl))) (mvT hZ (hw _ (List.mem_of_getElem? (i := 24) rfl))) (mvT hZ (hw _ (List.mem_of_getElem? (i := 25) rfl))) (mvT hZ (hw _ (List.mem_of_getElem? (i := 26) rfl))) (by decide) (backOf (W := 0) (rmT l Z a0 hw [] (2 : Int32) pa pb pd T192.heap n0 ) hZ (hw _ (List.mem_of_getElem? (i := 26) rfl)) (hw _ (List.mem_of_getElem? (i := 25) rfl)) (by decide) (by decide)) (g := (mkF m 128 #[iv ps, iv pe, iv pa, iv pb, iv pd, iv pq, iv 3, rv b125, rv b126, rv b133, iv 2, iv pd, rv b187, .unset] [(.int pd), (.int pb), (.int pa), (.int 2)])) rfl (by rw [hml]; rfl) (argsL := [(.int 2), (.int pa), (.int pb), (.int pd)]) (rest := []) (lenOf pd_2 rfl) rfl (by show 2 * 0 + _ ≤ _; exact Nat.le_of_eq rfl) (hb hby at_128) (fun _ _ => ⟨rfl, rfl, (by decide : 4 + 0 ≤ _), (by decide : 11 + 0 ≤ _)⟩)
        dsimp only [Pt.U, Pt.locs, Pt.cells, Pt.slots] at X193 l193 y193 z193 st193 hQ193
        subst l193 y193 z193
        obtain ⟨hv193, N193q, e193⟩ := hQ193
        rw [(show (own_at (2 : Int32) pa pb pd) = pd from by rw [own_at, if_neg (by decide), if_neg (by decide)])] at hv193; subst hv193
        have N193 := Fr.app N192 N193q
        refine Go.pull (V := T193.setTop (mkF m 131 #[iv ps, iv pe, iv pa, iv pb, iv pd, iv pq, iv 3, rv b125, rv b126, rv b133, iv 2, iv pd, rv b187, .unset] [(.int pd)])) st193 ?_
        refine Go.pull (V := T193.setTop (mkF m 133 #[iv ps, iv pe, iv pa, iv pb, iv pd, iv pq, iv 3, rv b125, rv b126, rv b133, iv 2, iv pd, rv b187, .unset] [(.int pd), (.int pd)])) (fun t k => XS.iload X193.here hx rfl (hb hby at_131) rfl  k) ?_
        refine Go.pull (V := T193.setTop (mkF m 136 #[iv ps, iv pe, iv pa, iv pb, iv pd, iv pq, iv 3, rv b125, rv b126, rv b133, iv 2, iv pd, rv b187, .unset] [])) (fun t k => XS.icmpNo X193.here hx rfl (hb hby at_133) rfl (XT.ii_ne_f rfl) k) ?_
        refine Go.pull (V := T193.setTop (mkF m 137 #[iv ps, iv pe, iv pa, iv pb, iv pd, iv pq, iv 3, rv b125, rv b126, rv b133, iv 2, iv pd, rv b187, .unset] [(.int 1)])) (fun t k => XS.iconst X193.here hx rfl (hb hby at_136) k) ?_
        refine Go.pull (V := T193.setTop (mkF m 141 #[iv ps, iv pe, iv pa, iv pb, iv pd, iv pq, iv 3, rv b125, rv b126, rv b133, iv 2, iv pd, rv b187, .unset] [(.int 1)])) (fun t k => XS.goto X193.here hx rfl (pc0 := 137) (pc' := 141) rfl (hb hby at_137) (by decide) (by decide) k) ?_
        refine Go.pull (V := T193.setTop (mkF m 143 #[iv ps, iv pe, iv pa, iv pb, iv pd, iv pq, iv 3, rv b125, rv b126, rv b133, iv 2, iv pd, rv b187, iv 1] [])) (fun t k => XS.istore X193.here hx rfl (hb hby at_141) rfl (l' := #[iv ps, iv pe, iv pa, iv pb, iv pd, iv pq, iv 3, rv b125, rv b126, rv b133, iv 2, iv pd, rv b187, iv 1]) rfl k) ?_
        refine Go.pull (V := T193.setTop (mkF m 145 #[iv ps, iv pe, iv pa, iv pb, iv pd, iv pq, iv 3, rv b125, rv b126, rv b133, iv 2, iv pd, rv b187, iv 1] [(.ref b187)])) (fun t k => XS.aload X193.here hx rfl (hb hby at_143) rfl rfl k) ?_
        refine Go.pull (V := T193.setTop (mkF m 147 #[iv ps, iv pe, iv pa, iv pb, iv pd, iv pq, iv 3, rv b125, rv b126, rv b133, iv 2, iv pd, rv b187, iv 1] [(.int 2), (.ref b187)])) (fun t k => XS.iload X193.here hx rfl (hb hby at_145) rfl  k) ?_
        refine Go.pull (V := T193.setTop (mkF m 149 #[iv ps, iv pe, iv pa, iv pb, iv pd, iv pq, iv 3, rv b125, rv b126, rv b133, iv 2, iv pd, rv b187, iv 1] [(.int pd), (.int 2), (.ref b187)])) (fun t k => XS.iload X193.here hx rfl (hb hby at_147) rfl  k) ?_
        obtain ⟨cq194, kq194, q194a, q194b, q194c⟩ := isOf hZ e193 (A187.keep Kc192)
        obtain ⟨_, _, ⟨T194, L194, k194, n194⟩, -, X194, ⟨Lc194, hQ194, l194, y194, z194⟩, st194⟩ := X193.virtualBack hx (y := (⟨"com/example/threshold/threshold/PostingList", "holdsAt", "(II)Z"⟩ : MethodName)) (z := (⟨"com/example/threshold/threshold/PostingList", "holdsAt", "(II)Z"⟩ : MethodName)) hown (mvT hZ (hw _ (List.mem_of_getElem? (i := 18) rfl))) (mvT hZ (hw _ (List.mem_of_getElem? (i := 19) rfl))) (notFace_of_selects (args := #[]) (mvT hZ (hw _ (List.mem_of_getElem? (i := 21) rfl)))) (mvT hZ (hw _ (List.mem_of_getElem? (i := 21) rfl))) (mvT hZ (hw _ (List.mem_of_getElem? (i := 20) rfl))) (by decide) (backOf (W := 0) (rmA l Z a0 hw [] b187 (2 : Int32) pd b125 k125 (3 : Int32) ([(.int pa), (.int pb), (.int pd)] : List Value) pd T192.heap n0 Fc192_0 (((V132.ext E133).ext E187).keep Kc192 (ninS (ne_b125_b187) nin0)) rfl (by decide)) hZ (hw _ (List.mem_of_getElem? (i := 22) rfl)) (hw _ (List.mem_of_getElem? (i := 3) rfl)) (by decide) (by decide)) q194a q194c (g := (mkF m 149 #[iv ps, iv pe, iv pa, iv pb, iv pd, iv pq, iv 3, rv b125, rv b126, rv b133, iv 2, iv pd, rv b187, iv 1] [(.int pd), (.int 2), (.ref b187)])) rfl (by rw [hml]; rfl) (Steps.refl _) (argsL := [(.int 2), (.int pd)]) (rest := []) (lenOf pd_1 rfl) rfl (by show 2 * 0 + _ ≤ _; exact Nat.le_of_eq rfl) (hb hby at_149) (fun _ _ => ⟨rfl, e193, (by decide : 4 + 0 ≤ _), (by decide : 11 + 0 ≤ _)⟩)
        dsimp only [Pt.U, Pt.locs, Pt.cells, Pt.slots] at X194 l194 y194 z194 st194 hQ194
        subst l194 y194 z194
        obtain ⟨hv194, N194q, e194⟩ := hQ194
        rw [(show (own_hold (2 : Int32) (3 : Int32) pd pd) = (1 : Int32) from by rw [own_hold, if_pos (by decide), if_pos rfl])] at hv194; subst hv194
        have N194 := Fr.app N193 N194q
        refine Go.pull (V := T194.setTop (mkF m 152 #[iv ps, iv pe, iv pa, iv pb, iv pd, iv pq, iv 3, rv b125, rv b126, rv b133, iv 2, iv pd, rv b187, iv 1] [(.int 1)])) (fun _ k => st194.trans k) ?_
        refine Go.pull (V := T194.setTop (mkF m 154 #[iv ps, iv pe, iv pa, iv pb, iv pd, iv pq, iv 3, rv b125, rv b126, rv b133, iv 2, iv pd, rv b187, iv 1] [(.int 1), (.int 1)])) (fun t k => XS.iload X194.here hx rfl (hb hby at_152) rfl  k) ?_
        refine Go.pull (V := T194.setTop (mkF m 157 #[iv ps, iv pe, iv pa, iv pb, iv pd, iv pq, iv 3, rv b125, rv b126, rv b133, iv 2, iv pd, rv b187, iv 1] [])) (fun t k => XS.icmpNo X194.here hx rfl (hb hby at_154) rfl (XT.ii_ne_f (by decide)) k) ?_
        refine Go.pull (V := T194.setTop (mkF m 158 #[iv ps, iv pe, iv pa, iv pb, iv pd, iv pq, iv 3, rv b125, rv b126, rv b133, iv 2, iv pd, rv b187, iv 1] [(.int 1)])) (fun t k => XS.iconst X194.here hx rfl (hb hby at_157) k) ?_
        refine Go.pull (V := T194.setTop (mkF m 162 #[iv ps, iv pe, iv pa, iv pb, iv pd, iv pq, iv 3, rv b125, rv b126, rv b133, iv 2, iv pd, rv b187, iv 1] [(.int 1)])) (fun t k => XS.goto X194.here hx rfl (pc0 := 158) (pc' := 162) rfl (hb hby at_158) (by decide) (by decide) k) ?_
        exact Go.retN X194 hx Bd.notSynchronized (t := .boolean) Bd.returns (by simp) (hb hby at_162) ⟨rfl, N194⟩ (by decide) (by decide)
    · subst hv134
      refine Go.pull (V := T133.setTop (mkF m 67 #[iv ps, iv pe, iv pa, iv pb, iv pd, iv pq, iv 3, rv b125, rv b126, rv b133, iv 3, .unset, .unset, .unset] [(.int pq)])) (fun t k => XS.iload X133.here hx rfl (hb hby at_65) rfl  k) ?_
      refine Go.pull (V := T133.setTop (mkF m 69 #[iv ps, iv pe, iv pa, iv pb, iv pd, iv pq, iv 3, rv b125, rv b126, rv b133, iv 3, iv pq, .unset, .unset] [])) (fun t k => XS.istore X133.here hx rfl (hb hby at_67) rfl (l' := #[iv ps, iv pe, iv pa, iv pb, iv pd, iv pq, iv 3, rv b125, rv b126, rv b133, iv 3, iv pq, .unset, .unset]) rfl k) ?_
      refine Go.pull (V := T133.setTop (mkF m 70 #[iv ps, iv pe, iv pa, iv pb, iv pd, iv pq, iv 3, rv b125, rv b126, rv b133, iv 3, iv pq, .unset, .unset] [(.int pe)])) (fun t k => XS.iloadN X133.here hx rfl (hb hby at_69) rfl  k) ?_
      refine Go.pull (V := T133.setTop (mkF m 71 #[iv ps, iv pe, iv pa, iv pb, iv pd, iv pq, iv 3, rv b125, rv b126, rv b133, iv 3, iv pq, .unset, .unset] [(.int 4), (.int pe)])) (fun t k => XS.iconst X133.here hx rfl (hb hby at_70) k) ?_
      refine Go.pull (V := T133.setTop (mkF m 72 #[iv ps, iv pe, iv pa, iv pb, iv pd, iv pq, iv 3, rv b125, rv b126, rv b133, iv 3, iv pq, .unset, .unset] [(.int (pe &&& (4 : Int32)))])) (fun t k => XS.iand X133.here hx rfl (hb hby at_71) rfl k) ?_
      by_cases hc72_195 : (pe &&& (4 : Int32)) = 0
      · skip
        refine Go.pull (V := T133.setTop (mkF m 93 #[iv ps, iv pe, iv pa, iv pb, iv pd, iv pq, iv 3, rv b125, rv b126, rv b133, iv 3, iv pq, .unset, .unset] [])) (fun t k => XS.ifYes X133.here hx rfl (pc0 := 72) (pc' := 93) rfl (hb hby at_72) rfl (XT.i0_eq_t hc72_195) (by decide) (by decide) k) ?_
        obtain ⟨T196, h196, X196, e196, E196, A196, D196, -, st196⟩ := newO X133 hx hZ hown (hw _ (List.mem_of_getElem? (i := 1) rfl)) (hw _ (List.mem_of_getElem? (i := 2) rfl)) (hw _ (List.mem_of_getElem? (i := 3) rfl)) e133 (g := (mkF m 93 #[iv ps, iv pe, iv pa, iv pb, iv pd, iv pq, iv 3, rv b125, rv b126, rv b133, iv 3, iv pq, .unset, .unset] [])) rfl (hb hby at_93) (by decide) (by decide)
        obtain ⟨b196, g196⟩ : ∃ z, z = h133.size := ⟨_, rfl⟩
        rw [← g196] at A196 D196 st196
        have ne_b125_b196 : b125 ≠ b196 := Nat.ne_of_lt (Nat.lt_of_lt_of_le (V132.ext E133).lt (Nat.le_of_eq g196.symm))
        have ne_b126_b196 : b126 ≠ b196 := Nat.ne_of_lt (Nat.lt_of_lt_of_le ((((V126.other W128 (Ne.symm (ne_b125_b126))).other W130 (Ne.symm (ne_b125_b126))).other W132 (Ne.symm (ne_b125_b126))).ext E133).lt (Nat.le_of_eq g196.symm))
        have ne_b133_b196 : b133 ≠ b196 := Nat.ne_of_lt (Nat.lt_of_lt_of_le V133.lt (Nat.le_of_eq g196.symm))
        have sz_b196 : h0.size ≤ b196 := Nat.le_trans (K133).1 (Nat.le_of_eq g196.symm)
        have g_b196 : n0 ≤ b196 := Nat.le_trans Z0 sz_b196
        have K196 : Keep h0 h196 [] := K133.ext E196
        have F197 : Fld Z h196 b196 "com/example/threshold/threshold/PostingList" "documents" "[I" .null := D196 (Or.inr (hw _ (List.mem_of_getElem? (i := 11) rfl))) (ty := (.array .int)) (by decide)
        have F198 : Fld Z h196 b196 "com/example/threshold/threshold/PostingList" "counts" "[I" .null := D196 (Or.inr (hw _ (List.mem_of_getElem? (i := 13) rfl))) (ty := (.array .int)) (by decide)
        have F199 : Fld Z h196 b196 "com/example/threshold/threshold/PostingList" "collectionFrequency" "J" (.long 0) := D196 (Or.inr (hw _ (List.mem_of_getElem? (i := 15) rfl))) (ty := .long) (by decide)
        have F200 : Fld Z h196 b196 "com/example/threshold/threshold/PostingList" "lengths" "[I" .null := D196 (Or.inr (hw _ (List.mem_of_getElem? (i := 17) rfl))) (ty := (.array .int)) (by decide)
        refine Go.pull (V := T196.setTop (mkF m 96 #[iv ps, iv pe, iv pa, iv pb, iv pd, iv pq, iv 3, rv b125, rv b126, rv b133, iv 3, iv pq, .unset, .unset] [(.ref b196)])) st196 ?_
        refine Go.pull (V := T196.setTop (mkF m 97 #[iv ps, iv pe, iv pa, iv pb, iv pd, iv pq, iv 3, rv b125, rv b126, rv b133, iv 3, iv pq, .unset, .unset] [(.ref b196), (.ref b196)])) (fun t k => XS.dup X196.here hx rfl (hb hby at_96) rfl rfl k) ?_
        refine Go.pull (V := T196.setTop (mkF m 99 #[iv ps, iv pe, iv pa, iv pb, iv pd, iv pq, iv 3, rv b125, rv b126, rv b133, iv 3, iv pq, .unset, .unset] [(.ref b125), (.ref b196), (.ref b196)])) (fun t k => XS.aload X196.here hx rfl (hb hby at_97) rfl rfl k) ?_
        refine Go.pull (V := T196.setTop (mkF m 101 #[iv ps, iv pe, iv pa, iv pb, iv pd, iv pq, iv 3, rv b125, rv b126, rv b133, iv 3, iv pq, .unset, .unset] [(.ref b126), (.ref b125), (.ref b196), (.ref b196)])) (fun t k => XS.aload X196.here hx rfl (hb hby at_99) rfl rfl k) ?_
        refine Go.pull (V := T196.setTop (mkF m 102 #[iv ps, iv pe, iv pa, iv pb, iv pd, iv pq, iv 3, rv b125, rv b126, rv b133, iv 3, iv pq, .unset, .unset] [(.long 0), (.ref b126), (.ref b125), (.ref b196), (.ref b196)])) (fun t k => XS.lconst X196.here hx rfl (hb hby at_101) k) ?_
        refine Go.pull (V := T196.setTop (mkF m 104 #[iv ps, iv pe, iv pa, iv pb, iv pd, iv pq, iv 3, rv b125, rv b126, rv b133, iv 3, iv pq, .unset, .unset] [(.ref b133), (.long 0), (.ref b126), (.ref b125), (.ref b196), (.ref b196)])) (fun t k => XS.aload X196.here hx rfl (hb hby at_102) rfl rfl k) ?_
        obtain ⟨_, _, ⟨T201, L201, k201, n201⟩, -, X201, ⟨Lc201, hQ201, l201, y201, z201⟩, st201⟩ := X196.specialBack hx (y := (⟨"com/example/threshold/threshold/PostingList", "<init>", "([I[IJ[I)V"⟩ : MethodName)) rfl hown (mvT hZ (hw _ (List.mem_of_getElem? (i := 4) rfl))) (mvT hZ (hw _ (List.mem_of_getElem? (i := 5) rfl))) (mvT hZ (hw _ (List.mem_of_getElem? (i := 6) rfl))) (by decide) (backOf (W := 1) (rmI l Z a0 hw [] b196 b125 b126 (0 : Int64) b133 .null .null (.long 0) .null h196 n0 (g_b196) A196 F197 F198 F199 F200) hZ (hw _ (List.mem_of_getElem? (i := 6) rfl)) (hw _ (List.mem_of_getElem? (i := 3) rfl)) (by decide) (by decide)) (g := (mkF m 104 #[iv ps, iv pe, iv pa, iv pb, iv pd, iv pq, iv 3, rv b125, rv b126, rv b133, iv 3, iv pq, .unset, .unset] [(.ref b133), (.long 0), (.ref b126), (.ref b125), (.ref b196), (.ref b196)])) rfl (by rw [hml]; rfl) (Steps.refl _) (a := b196) (argsL := [(.ref b125), (.ref b126), (.long 0), (.ref b133)]) (rest := [(.ref b196)]) (lenOf pd_0 rfl) rfl (by show 2 * 0 + _ ≤ _; exact Nat.le_of_eq rfl) (hb hby at_104) (fun _ _ => ⟨rfl, e196, (by decide : 4 + 0 ≤ _), (by decide : 11 + 0 ≤ _)⟩)
        dsimp only [Pt.U, Pt.locs, Pt.cells, Pt.slots] at X201 l201 y201 z201 st201 hQ201
        subst l201 y201 z201
        obtain ⟨rfl, N201q, Kc201, Fc201_0⟩ := hQ201
        have K201 : Keep h0 T201.heap [] := K196.trans Kc201 ((allS (Or.inr sz_b196) all0))
        have N201 := Fr.app N132 N201q
        refine Go.pull (V := T201.setTop (mkF m 107 #[iv ps, iv pe, iv pa, iv pb, iv pd, iv pq, iv 3, rv b125, rv b126, rv b133, iv 3, iv pq, .unset, .unset] [(.ref b196)])) (fun _ k => st201.trans k) ?_
        refine Go.pull (V := T201.setTop (mkF m 109 #[iv ps, iv pe, iv pa, iv pb, iv pd, iv pq, iv 3, rv b125, rv b126, rv b133, iv 3, iv pq, rv b196, .unset] [])) (fun t k => XS.astore X201.here hx rfl (hb hby at_107) rfl rfl (l' := #[iv ps, iv pe, iv pa, iv pb, iv pd, iv pq, iv 3, rv b125, rv b126, rv b133, iv 3, iv pq, rv b196, .unset]) rfl k) ?_
        refine Go.pull (V := T201.setTop (mkF m 111 #[iv ps, iv pe, iv pa, iv pb, iv pd, iv pq, iv 3, rv b125, rv b126, rv b133, iv 3, iv pq, rv b196, .unset] [(.int 3)])) (fun t k => XS.iload X201.here hx rfl (hb hby at_109) rfl  k) ?_
        refine Go.pull (V := T201.setTop (mkF m 113 #[iv ps, iv pe, iv pa, iv pb, iv pd, iv pq, iv 3, rv b125, rv b126, rv b133, iv 3, iv pq, rv b196, .unset] [(.int 3), (.int 3)])) (fun t k => XS.iload X201.here hx rfl (hb hby at_111) rfl  k) ?_
        refine Go.pull (V := T201.setTop (mkF m 116 #[iv ps, iv pe, iv pa, iv pb, iv pd, iv pq, iv 3, rv b125, rv b126, rv b133, iv 3, iv pq, rv b196, .unset] [])) (fun t k => XS.icmpNo X201.here hx rfl (hb hby at_113) rfl (XT.ii_lt_f (by decide)) k) ?_
        refine Go.pull (V := T201.setTop (mkF m 117 #[iv ps, iv pe, iv pa, iv pb, iv pd, iv pq, iv 3, rv b125, rv b126, rv b133, iv 3, iv pq, rv b196, .unset] [(.int 0)])) (fun t k => XS.iconst X201.here hx rfl (hb hby at_116) k) ?_
        refine Go.pull (V := T201.setTop (mkF m 119 #[iv ps, iv pe, iv pa, iv pb, iv pd, iv pq, iv 3, rv b125, rv b126, rv b133, iv 3, iv pq, rv b196, iv 0] [])) (fun t k => XS.istore X201.here hx rfl (hb hby at_117) rfl (l' := #[iv ps, iv pe, iv pa, iv pb, iv pd, iv pq, iv 3, rv b125, rv b126, rv b133, iv 3, iv pq, rv b196, iv 0]) rfl k) ?_
        refine Go.pull (V := T201.setTop (mkF m 143 #[iv ps, iv pe, iv pa, iv pb, iv pd, iv pq, iv 3, rv b125, rv b126, rv b133, iv 3, iv pq, rv b196, iv 0] [])) (fun t k => XS.goto X201.here hx rfl (pc0 := 119) (pc' := 143) rfl (hb hby at_119) (by decide) (by decide) k) ?_
        refine Go.pull (V := T201.setTop (mkF m 145 #[iv ps, iv pe, iv pa, iv pb, iv pd, iv pq, iv 3, rv b125, rv b126, rv b133, iv 3, iv pq, rv b196, iv 0] [(.ref b196)])) (fun t k => XS.aload X201.here hx rfl (hb hby at_143) rfl rfl k) ?_
        refine Go.pull (V := T201.setTop (mkF m 147 #[iv ps, iv pe, iv pa, iv pb, iv pd, iv pq, iv 3, rv b125, rv b126, rv b133, iv 3, iv pq, rv b196, iv 0] [(.int 3), (.ref b196)])) (fun t k => XS.iload X201.here hx rfl (hb hby at_145) rfl  k) ?_
        refine Go.pull (V := T201.setTop (mkF m 149 #[iv ps, iv pe, iv pa, iv pb, iv pd, iv pq, iv 3, rv b125, rv b126, rv b133, iv 3, iv pq, rv b196, iv 0] [(.int pq), (.int 3), (.ref b196)])) (fun t k => XS.iload X201.here hx rfl (hb hby at_147) rfl  k) ?_
        obtain ⟨cq202, kq202, q202a, q202b, q202c⟩ := isOf hZ rfl (A196.keep Kc201)
        obtain ⟨_, _, ⟨T202, L202, k202, n202⟩, -, X202, ⟨Lc202, hQ202, l202, y202, z202⟩, st202⟩ := X201.virtualBack hx (y := (⟨"com/example/threshold/threshold/PostingList", "holdsAt", "(II)Z"⟩ : MethodName)) (z := (⟨"com/example/threshold/threshold/PostingList", "holdsAt", "(II)Z"⟩ : MethodName)) hown (mvT hZ (hw _ (List.mem_of_getElem? (i := 18) rfl))) (mvT hZ (hw _ (List.mem_of_getElem? (i := 19) rfl))) (notFace_of_selects (args := #[]) (mvT hZ (hw _ (List.mem_of_getElem? (i := 21) rfl)))) (mvT hZ (hw _ (List.mem_of_getElem? (i := 21) rfl))) (mvT hZ (hw _ (List.mem_of_getElem? (i := 20) rfl))) (by decide) (backOf (W := 0) (rmA l Z a0 hw [] b196 (3 : Int32) pq b125 k125 (3 : Int32) ([(.int pa), (.int pb), (.int pd)] : List Value) (0 : Int32) T201.heap n0 Fc201_0 (((V132.ext E133).ext E196).keep Kc201 (ninS (ne_b125_b196) nin0)) rfl (by decide)) hZ (hw _ (List.mem_of_getElem? (i := 22) rfl)) (hw _ (List.mem_of_getElem? (i := 3) rfl)) (by decide) (by decide)) q202a q202c (g := (mkF m 149 #[iv ps, iv pe, iv pa, iv pb, iv pd, iv pq, iv 3, rv b125, rv b126, rv b133, iv 3, iv pq, rv b196, iv 0] [(.int pq), (.int 3), (.ref b196)])) rfl (by rw [hml]; rfl) (Steps.refl _) (argsL := [(.int 3), (.int pq)]) (rest := []) (lenOf pd_1 rfl) rfl (by show 2 * 0 + _ ≤ _; exact Nat.le_of_eq rfl) (hb hby at_149) (fun _ _ => ⟨rfl, rfl, (by decide : 4 + 0 ≤ _), (by decide : 11 + 0 ≤ _)⟩)
        dsimp only [Pt.U, Pt.locs, Pt.cells, Pt.slots] at X202 l202 y202 z202 st202 hQ202
        subst l202 y202 z202
        obtain ⟨hv202, N202q, e202⟩ := hQ202
        rw [(show (own_hold (3 : Int32) (3 : Int32) pq (0 : Int32)) = (0 : Int32) from by rw [own_hold, if_neg (by decide)])] at hv202; subst hv202
        have N202 := Fr.app N201 N202q
        refine Go.pull (V := T202.setTop (mkF m 152 #[iv ps, iv pe, iv pa, iv pb, iv pd, iv pq, iv 3, rv b125, rv b126, rv b133, iv 3, iv pq, rv b196, iv 0] [(.int 0)])) (fun _ k => st202.trans k) ?_
        refine Go.pull (V := T202.setTop (mkF m 154 #[iv ps, iv pe, iv pa, iv pb, iv pd, iv pq, iv 3, rv b125, rv b126, rv b133, iv 3, iv pq, rv b196, iv 0] [(.int 0), (.int 0)])) (fun t k => XS.iload X202.here hx rfl (hb hby at_152) rfl  k) ?_
        refine Go.pull (V := T202.setTop (mkF m 157 #[iv ps, iv pe, iv pa, iv pb, iv pd, iv pq, iv 3, rv b125, rv b126, rv b133, iv 3, iv pq, rv b196, iv 0] [])) (fun t k => XS.icmpNo X202.here hx rfl (hb hby at_154) rfl (XT.ii_ne_f (by decide)) k) ?_
        refine Go.pull (V := T202.setTop (mkF m 158 #[iv ps, iv pe, iv pa, iv pb, iv pd, iv pq, iv 3, rv b125, rv b126, rv b133, iv 3, iv pq, rv b196, iv 0] [(.int 1)])) (fun t k => XS.iconst X202.here hx rfl (hb hby at_157) k) ?_
        refine Go.pull (V := T202.setTop (mkF m 162 #[iv ps, iv pe, iv pa, iv pb, iv pd, iv pq, iv 3, rv b125, rv b126, rv b133, iv 3, iv pq, rv b196, iv 0] [(.int 1)])) (fun t k => XS.goto X202.here hx rfl (pc0 := 158) (pc' := 162) rfl (hb hby at_158) (by decide) (by decide) k) ?_
        exact Go.retN X202 hx Bd.notSynchronized (t := .boolean) Bd.returns (by simp) (hb hby at_162) ⟨rfl, N202⟩ (by decide) (by decide)
      · skip
        refine Go.pull (V := T133.setTop (mkF m 75 #[iv ps, iv pe, iv pa, iv pb, iv pd, iv pq, iv 3, rv b125, rv b126, rv b133, iv 3, iv pq, .unset, .unset] [])) (fun t k => XS.ifNo X133.here hx rfl (hb hby at_72) rfl (XT.i0_eq_f hc72_195) k) ?_
        refine Go.pull (V := T133.setTop (mkF m 77 #[iv ps, iv pe, iv pa, iv pb, iv pd, iv pq, iv 3, rv b125, rv b126, rv b133, iv 3, iv pq, .unset, .unset] [(.int 3)])) (fun t k => XS.iload X133.here hx rfl (hb hby at_75) rfl  k) ?_
        refine Go.pull (V := T133.setTop (mkF m 79 #[iv ps, iv pe, iv pa, iv pb, iv pd, iv pq, iv 3, rv b125, rv b126, rv b133, iv 3, iv pq, .unset, .unset] [(.int 3), (.int 3)])) (fun t k => XS.iload X133.here hx rfl (hb hby at_77) rfl  k) ?_
        refine Go.pull (V := T133.setTop (mkF m 93 #[iv ps, iv pe, iv pa, iv pb, iv pd, iv pq, iv 3, rv b125, rv b126, rv b133, iv 3, iv pq, .unset, .unset] [])) (fun t k => XS.icmpYes X133.here hx rfl (pc0 := 79) (pc' := 93) rfl (hb hby at_79) rfl (XT.ii_ge_t (by decide)) (by decide) (by decide) k) ?_
        obtain ⟨T203, h203, X203, e203, E203, A203, D203, -, st203⟩ := newO X133 hx hZ hown (hw _ (List.mem_of_getElem? (i := 1) rfl)) (hw _ (List.mem_of_getElem? (i := 2) rfl)) (hw _ (List.mem_of_getElem? (i := 3) rfl)) e133 (g := (mkF m 93 #[iv ps, iv pe, iv pa, iv pb, iv pd, iv pq, iv 3, rv b125, rv b126, rv b133, iv 3, iv pq, .unset, .unset] [])) rfl (hb hby at_93) (by decide) (by decide)
        obtain ⟨b203, g203⟩ : ∃ z, z = h133.size := ⟨_, rfl⟩
        rw [← g203] at A203 D203 st203
        have ne_b125_b203 : b125 ≠ b203 := Nat.ne_of_lt (Nat.lt_of_lt_of_le (V132.ext E133).lt (Nat.le_of_eq g203.symm))
        have ne_b126_b203 : b126 ≠ b203 := Nat.ne_of_lt (Nat.lt_of_lt_of_le ((((V126.other W128 (Ne.symm (ne_b125_b126))).other W130 (Ne.symm (ne_b125_b126))).other W132 (Ne.symm (ne_b125_b126))).ext E133).lt (Nat.le_of_eq g203.symm))
        have ne_b133_b203 : b133 ≠ b203 := Nat.ne_of_lt (Nat.lt_of_lt_of_le V133.lt (Nat.le_of_eq g203.symm))
        have sz_b203 : h0.size ≤ b203 := Nat.le_trans (K133).1 (Nat.le_of_eq g203.symm)
        have g_b203 : n0 ≤ b203 := Nat.le_trans Z0 sz_b203
        have K203 : Keep h0 h203 [] := K133.ext E203
        have F204 : Fld Z h203 b203 "com/example/threshold/threshold/PostingList" "documents" "[I" .null := D203 (Or.inr (hw _ (List.mem_of_getElem? (i := 11) rfl))) (ty := (.array .int)) (by decide)
        have F205 : Fld Z h203 b203 "com/example/threshold/threshold/PostingList" "counts" "[I" .null := D203 (Or.inr (hw _ (List.mem_of_getElem? (i := 13) rfl))) (ty := (.array .int)) (by decide)
        have F206 : Fld Z h203 b203 "com/example/threshold/threshold/PostingList" "collectionFrequency" "J" (.long 0) := D203 (Or.inr (hw _ (List.mem_of_getElem? (i := 15) rfl))) (ty := .long) (by decide)
        have F207 : Fld Z h203 b203 "com/example/threshold/threshold/PostingList" "lengths" "[I" .null := D203 (Or.inr (hw _ (List.mem_of_getElem? (i := 17) rfl))) (ty := (.array .int)) (by decide)
        refine Go.pull (V := T203.setTop (mkF m 96 #[iv ps, iv pe, iv pa, iv pb, iv pd, iv pq, iv 3, rv b125, rv b126, rv b133, iv 3, iv pq, .unset, .unset] [(.ref b203)])) st203 ?_
        refine Go.pull (V := T203.setTop (mkF m 97 #[iv ps, iv pe, iv pa, iv pb, iv pd, iv pq, iv 3, rv b125, rv b126, rv b133, iv 3, iv pq, .unset, .unset] [(.ref b203), (.ref b203)])) (fun t k => XS.dup X203.here hx rfl (hb hby at_96) rfl rfl k) ?_
        refine Go.pull (V := T203.setTop (mkF m 99 #[iv ps, iv pe, iv pa, iv pb, iv pd, iv pq, iv 3, rv b125, rv b126, rv b133, iv 3, iv pq, .unset, .unset] [(.ref b125), (.ref b203), (.ref b203)])) (fun t k => XS.aload X203.here hx rfl (hb hby at_97) rfl rfl k) ?_
        refine Go.pull (V := T203.setTop (mkF m 101 #[iv ps, iv pe, iv pa, iv pb, iv pd, iv pq, iv 3, rv b125, rv b126, rv b133, iv 3, iv pq, .unset, .unset] [(.ref b126), (.ref b125), (.ref b203), (.ref b203)])) (fun t k => XS.aload X203.here hx rfl (hb hby at_99) rfl rfl k) ?_
        refine Go.pull (V := T203.setTop (mkF m 102 #[iv ps, iv pe, iv pa, iv pb, iv pd, iv pq, iv 3, rv b125, rv b126, rv b133, iv 3, iv pq, .unset, .unset] [(.long 0), (.ref b126), (.ref b125), (.ref b203), (.ref b203)])) (fun t k => XS.lconst X203.here hx rfl (hb hby at_101) k) ?_
        refine Go.pull (V := T203.setTop (mkF m 104 #[iv ps, iv pe, iv pa, iv pb, iv pd, iv pq, iv 3, rv b125, rv b126, rv b133, iv 3, iv pq, .unset, .unset] [(.ref b133), (.long 0), (.ref b126), (.ref b125), (.ref b203), (.ref b203)])) (fun t k => XS.aload X203.here hx rfl (hb hby at_102) rfl rfl k) ?_
        obtain ⟨_, _, ⟨T208, L208, k208, n208⟩, -, X208, ⟨Lc208, hQ208, l208, y208, z208⟩, st208⟩ := X203.specialBack hx (y := (⟨"com/example/threshold/threshold/PostingList", "<init>", "([I[IJ[I)V"⟩ : MethodName)) rfl hown (mvT hZ (hw _ (List.mem_of_getElem? (i := 4) rfl))) (mvT hZ (hw _ (List.mem_of_getElem? (i := 5) rfl))) (mvT hZ (hw _ (List.mem_of_getElem? (i := 6) rfl))) (by decide) (backOf (W := 1) (rmI l Z a0 hw [] b203 b125 b126 (0 : Int64) b133 .null .null (.long 0) .null h203 n0 (g_b203) A203 F204 F205 F206 F207) hZ (hw _ (List.mem_of_getElem? (i := 6) rfl)) (hw _ (List.mem_of_getElem? (i := 3) rfl)) (by decide) (by decide)) (g := (mkF m 104 #[iv ps, iv pe, iv pa, iv pb, iv pd, iv pq, iv 3, rv b125, rv b126, rv b133, iv 3, iv pq, .unset, .unset] [(.ref b133), (.long 0), (.ref b126), (.ref b125), (.ref b203), (.ref b203)])) rfl (by rw [hml]; rfl) (Steps.refl _) (a := b203) (argsL := [(.ref b125), (.ref b126), (.long 0), (.ref b133)]) (rest := [(.ref b203)]) (lenOf pd_0 rfl) rfl (by show 2 * 0 + _ ≤ _; exact Nat.le_of_eq rfl) (hb hby at_104) (fun _ _ => ⟨rfl, e203, (by decide : 4 + 0 ≤ _), (by decide : 11 + 0 ≤ _)⟩)
        dsimp only [Pt.U, Pt.locs, Pt.cells, Pt.slots] at X208 l208 y208 z208 st208 hQ208
        subst l208 y208 z208
        obtain ⟨rfl, N208q, Kc208, Fc208_0⟩ := hQ208
        have K208 : Keep h0 T208.heap [] := K203.trans Kc208 ((allS (Or.inr sz_b203) all0))
        have N208 := Fr.app N132 N208q
        refine Go.pull (V := T208.setTop (mkF m 107 #[iv ps, iv pe, iv pa, iv pb, iv pd, iv pq, iv 3, rv b125, rv b126, rv b133, iv 3, iv pq, .unset, .unset] [(.ref b203)])) (fun _ k => st208.trans k) ?_
        refine Go.pull (V := T208.setTop (mkF m 109 #[iv ps, iv pe, iv pa, iv pb, iv pd, iv pq, iv 3, rv b125, rv b126, rv b133, iv 3, iv pq, rv b203, .unset] [])) (fun t k => XS.astore X208.here hx rfl (hb hby at_107) rfl rfl (l' := #[iv ps, iv pe, iv pa, iv pb, iv pd, iv pq, iv 3, rv b125, rv b126, rv b133, iv 3, iv pq, rv b203, .unset]) rfl k) ?_
        refine Go.pull (V := T208.setTop (mkF m 111 #[iv ps, iv pe, iv pa, iv pb, iv pd, iv pq, iv 3, rv b125, rv b126, rv b133, iv 3, iv pq, rv b203, .unset] [(.int 3)])) (fun t k => XS.iload X208.here hx rfl (hb hby at_109) rfl  k) ?_
        refine Go.pull (V := T208.setTop (mkF m 113 #[iv ps, iv pe, iv pa, iv pb, iv pd, iv pq, iv 3, rv b125, rv b126, rv b133, iv 3, iv pq, rv b203, .unset] [(.int 3), (.int 3)])) (fun t k => XS.iload X208.here hx rfl (hb hby at_111) rfl  k) ?_
        refine Go.pull (V := T208.setTop (mkF m 116 #[iv ps, iv pe, iv pa, iv pb, iv pd, iv pq, iv 3, rv b125, rv b126, rv b133, iv 3, iv pq, rv b203, .unset] [])) (fun t k => XS.icmpNo X208.here hx rfl (hb hby at_113) rfl (XT.ii_lt_f (by decide)) k) ?_
        refine Go.pull (V := T208.setTop (mkF m 117 #[iv ps, iv pe, iv pa, iv pb, iv pd, iv pq, iv 3, rv b125, rv b126, rv b133, iv 3, iv pq, rv b203, .unset] [(.int 0)])) (fun t k => XS.iconst X208.here hx rfl (hb hby at_116) k) ?_
        refine Go.pull (V := T208.setTop (mkF m 119 #[iv ps, iv pe, iv pa, iv pb, iv pd, iv pq, iv 3, rv b125, rv b126, rv b133, iv 3, iv pq, rv b203, iv 0] [])) (fun t k => XS.istore X208.here hx rfl (hb hby at_117) rfl (l' := #[iv ps, iv pe, iv pa, iv pb, iv pd, iv pq, iv 3, rv b125, rv b126, rv b133, iv 3, iv pq, rv b203, iv 0]) rfl k) ?_
        refine Go.pull (V := T208.setTop (mkF m 143 #[iv ps, iv pe, iv pa, iv pb, iv pd, iv pq, iv 3, rv b125, rv b126, rv b133, iv 3, iv pq, rv b203, iv 0] [])) (fun t k => XS.goto X208.here hx rfl (pc0 := 119) (pc' := 143) rfl (hb hby at_119) (by decide) (by decide) k) ?_
        refine Go.pull (V := T208.setTop (mkF m 145 #[iv ps, iv pe, iv pa, iv pb, iv pd, iv pq, iv 3, rv b125, rv b126, rv b133, iv 3, iv pq, rv b203, iv 0] [(.ref b203)])) (fun t k => XS.aload X208.here hx rfl (hb hby at_143) rfl rfl k) ?_
        refine Go.pull (V := T208.setTop (mkF m 147 #[iv ps, iv pe, iv pa, iv pb, iv pd, iv pq, iv 3, rv b125, rv b126, rv b133, iv 3, iv pq, rv b203, iv 0] [(.int 3), (.ref b203)])) (fun t k => XS.iload X208.here hx rfl (hb hby at_145) rfl  k) ?_
        refine Go.pull (V := T208.setTop (mkF m 149 #[iv ps, iv pe, iv pa, iv pb, iv pd, iv pq, iv 3, rv b125, rv b126, rv b133, iv 3, iv pq, rv b203, iv 0] [(.int pq), (.int 3), (.ref b203)])) (fun t k => XS.iload X208.here hx rfl (hb hby at_147) rfl  k) ?_
        obtain ⟨cq209, kq209, q209a, q209b, q209c⟩ := isOf hZ rfl (A203.keep Kc208)
        obtain ⟨_, _, ⟨T209, L209, k209, n209⟩, -, X209, ⟨Lc209, hQ209, l209, y209, z209⟩, st209⟩ := X208.virtualBack hx (y := (⟨"com/example/threshold/threshold/PostingList", "holdsAt", "(II)Z"⟩ : MethodName)) (z := (⟨"com/example/threshold/threshold/PostingList", "holdsAt", "(II)Z"⟩ : MethodName)) hown (mvT hZ (hw _ (List.mem_of_getElem? (i := 18) rfl))) (mvT hZ (hw _ (List.mem_of_getElem? (i := 19) rfl))) (notFace_of_selects (args := #[]) (mvT hZ (hw _ (List.mem_of_getElem? (i := 21) rfl)))) (mvT hZ (hw _ (List.mem_of_getElem? (i := 21) rfl))) (mvT hZ (hw _ (List.mem_of_getElem? (i := 20) rfl))) (by decide) (backOf (W := 0) (rmA l Z a0 hw [] b203 (3 : Int32) pq b125 k125 (3 : Int32) ([(.int pa), (.int pb), (.int pd)] : List Value) (0 : Int32) T208.heap n0 Fc208_0 (((V132.ext E133).ext E203).keep Kc208 (ninS (ne_b125_b203) nin0)) rfl (by decide)) hZ (hw _ (List.mem_of_getElem? (i := 22) rfl)) (hw _ (List.mem_of_getElem? (i := 3) rfl)) (by decide) (by decide)) q209a q209c (g := (mkF m 149 #[iv ps, iv pe, iv pa, iv pb, iv pd, iv pq, iv 3, rv b125, rv b126, rv b133, iv 3, iv pq, rv b203, iv 0] [(.int pq), (.int 3), (.ref b203)])) rfl (by rw [hml]; rfl) (Steps.refl _) (argsL := [(.int 3), (.int pq)]) (rest := []) (lenOf pd_1 rfl) rfl (by show 2 * 0 + _ ≤ _; exact Nat.le_of_eq rfl) (hb hby at_149) (fun _ _ => ⟨rfl, rfl, (by decide : 4 + 0 ≤ _), (by decide : 11 + 0 ≤ _)⟩)
        dsimp only [Pt.U, Pt.locs, Pt.cells, Pt.slots] at X209 l209 y209 z209 st209 hQ209
        subst l209 y209 z209
        obtain ⟨hv209, N209q, e209⟩ := hQ209
        rw [(show (own_hold (3 : Int32) (3 : Int32) pq (0 : Int32)) = (0 : Int32) from by rw [own_hold, if_neg (by decide)])] at hv209; subst hv209
        have N209 := Fr.app N208 N209q
        refine Go.pull (V := T209.setTop (mkF m 152 #[iv ps, iv pe, iv pa, iv pb, iv pd, iv pq, iv 3, rv b125, rv b126, rv b133, iv 3, iv pq, rv b203, iv 0] [(.int 0)])) (fun _ k => st209.trans k) ?_
        refine Go.pull (V := T209.setTop (mkF m 154 #[iv ps, iv pe, iv pa, iv pb, iv pd, iv pq, iv 3, rv b125, rv b126, rv b133, iv 3, iv pq, rv b203, iv 0] [(.int 0), (.int 0)])) (fun t k => XS.iload X209.here hx rfl (hb hby at_152) rfl  k) ?_
        refine Go.pull (V := T209.setTop (mkF m 157 #[iv ps, iv pe, iv pa, iv pb, iv pd, iv pq, iv 3, rv b125, rv b126, rv b133, iv 3, iv pq, rv b203, iv 0] [])) (fun t k => XS.icmpNo X209.here hx rfl (hb hby at_154) rfl (XT.ii_ne_f (by decide)) k) ?_
        refine Go.pull (V := T209.setTop (mkF m 158 #[iv ps, iv pe, iv pa, iv pb, iv pd, iv pq, iv 3, rv b125, rv b126, rv b133, iv 3, iv pq, rv b203, iv 0] [(.int 1)])) (fun t k => XS.iconst X209.here hx rfl (hb hby at_157) k) ?_
        refine Go.pull (V := T209.setTop (mkF m 162 #[iv ps, iv pe, iv pa, iv pb, iv pd, iv pq, iv 3, rv b125, rv b126, rv b133, iv 3, iv pq, rv b203, iv 0] [(.int 1)])) (fun t k => XS.goto X209.here hx rfl (pc0 := 158) (pc' := 162) rfl (hb hby at_158) (by decide) (by decide) k) ?_
        exact Go.retN X209 hx Bd.notSynchronized (t := .boolean) Bd.returns (by simp) (hb hby at_162) ⟨rfl, N209⟩ (by decide) (by decide)
set_option maxRecDepth 65536 in
set_option maxHeartbeats 40000000 in
theorem comes_1 {Post : Tables → Env → Array Value → State → Outcome → State → Prop} (hpost : ∀ tb e args s v u, (limb_1_1.after args s (.returned v) u = true ∧ limb_1_2.after args s (.returned v) u = true ∧ True) → FrameEnd s (.returned v) u (Jvm.fieldLocs frame_1_writes args s ++ Jvm.arrayLocs frame_1_arrays args s ++ Jvm.staticLocs frame_1_statics s) 16 128 → Post tb e args s (.returned v) u) :
    ArmFor flags0 classFile x code maxLocals ret World_1 tables_1 room_1 Calls_1 rest_1 Pre_1 Post := by
  intro l hfl _ _ p e ha hc hk s m args below hf hA hF happ hP
  obtain ⟨hcalls, hrest, hpre⟩ := hP
  obtain ⟨-, -, -, hnamed, -, -, -, hat⟩ := (Spec.applies_iff hf).mp happ
  obtain ⟨hg, hn⟩ := and_e (Cond.before_iff.mp (show (Jvm.Cond.and given_1 narrow_1).before args s = true from hpre))
  obtain ⟨y1, y2⟩ := and_e hg
  obtain ⟨y3, y4⟩ := and_e y2
  obtain ⟨y5, y6⟩ := and_e y4
  obtain ⟨y7, y8⟩ := and_e y6
  obtain ⟨y9, y10⟩ := and_e y8
  obtain ⟨y11, y12⟩ := and_e y10
  obtain ⟨w0, w1, w2, w3, w4, w5, rfl⟩ : ∃ w0 w1 w2 w3 w4 w5 : Value, args = #[w0, w1, w2, w3, w4, w5] := by
    have hs : args.size = 6 := by simpa [Cond.value, given_1] using y1
    obtain ⟨L⟩ := args
    match L, hs with
    | [w0, w1, w2, w3, w4, w5], _ => exact ⟨w0, w1, w2, w3, w4, w5, rfl⟩
  have hw := fun d (hd : d ∈ tables_1) => atoms_spec (ws := Jvm.Cond.code x code maxLocals ret :: tables_1) hat d (List.mem_cons_of_mem _ hd)
  have hfit : Fit s := fun {y c} hc i hi => by
    obtain ⟨ha, rfl⟩ := Array.getElem?_eq_some_iff.mp hc
    have q := List.all_eq_true.mp ((Array.all_eq_true_iff_forall_mem.mp hF) _ (Array.getElem_mem ha)) i (List.mem_range.mpr hi)
    simpa [Array.getElem?_eq_getElem hi] using q
  obtain ⟨i0, ei0⟩ := is_v y3
  obtain rfl : w0 = (.int i0) := Option.some.inj ei0
  obtain ⟨i1, ei1⟩ := is_v y5
  obtain rfl : w1 = (.int i1) := Option.some.inj ei1
  obtain ⟨i2, ei2⟩ := is_v y7
  obtain rfl : w2 = (.int i2) := Option.some.inj ei2
  obtain ⟨i3, ei3⟩ := is_v y9
  obtain rfl : w3 = (.int i3) := Option.some.inj ei3
  obtain ⟨i4, ei4⟩ := is_v y11
  obtain rfl : w4 = (.int i4) := Option.some.inj ei4
  obtain ⟨i5, ei5⟩ := is_v y12
  obtain rfl : w5 = (.int i5) := Option.some.inj ei5
  obtain ⟨n, o, h1, h2, h3, _, L, rfl, ⟨rfl, N⟩, hq⟩ := rm0 l s _ hw tables_1 i0 i1 i2 i3 i4 i5 s.heap s.heap.size (Nat.le_refl _)  p e ha hc hk s m _ below hf ((Spec.applies_iff_loose hf).mp happ).1 ⟨rfl, State.Warmed39.refl s, rfl⟩ trivial
  refine ⟨n, _, h1, h2, h3, hpost _ _ _ _ _ _ ⟨Cond.after_iff.mpr rfl, Cond.after_iff.mpr (eq_i res_at (Term.int_eval (1)) rfl), trivial⟩ ⟨hq.1, hq.2.1, (hq.2.2.sift fun y hy => Or.inr (N y hy)).mono (by decide) (by decide)⟩⟩
theorem main_1_1 : Claimed_1_1 := comes_1 fun _ _ _ _ _ _ h hF => ⟨h.1, hF⟩
theorem main_1_2 : Claimed_1_2 := comes_1 fun _ _ _ _ _ _ h hF => ⟨h.2.1, hF⟩
end Jvm.Pilot.@@N@@
namespace Jvm.Pilot.@@N@@
open Jvm Jvm.ClassFile Sem Op Lib Jvm.Free Jvm.Stand Jvm.Pilot.@@N@@.Jvm.D
/-! MADE BY PROGRAM (witnessworld.py) out of the Statement's table words and the real class files: 9 classes; the members and pool entries that the words name. The judged class is class 1, her method 1. -/
namespace start1
open Jvm.ClassFile
def u (s : String) : CpInfo := .utf8 (stringToUtf16 s)
/-- a pool by its gaps: so many unusable entries, then the entry; so many at the end -/
def gap : Nat → List CpInfo → List CpInfo
  | 0, r => r
  | n + 1, r => .unusable :: gap n r
def poolList (es : List (Nat × CpInfo)) (last : Nat) : List CpInfo := es.foldr (fun e r => gap e.1 (e.2 :: r)) (gap last [])
def pool (es : List (Nat × CpInfo)) (last : Nat) : Array CpInfo := ⟨poolList es last⟩
def fileOf (pool : Array CpInfo) (this : Nat) (attrs : Array Attribute := #[]) (ms : Array MethodInfo := #[]) (fl : Nat := 33) (sup : Nat := 0) (ifs : Array Nat := #[]) (fds : Array FieldInfo := #[]) : ClassFile where
  minorVersion := 0
  majorVersion := 65
  constantPool := pool
  accessFlags := fl
  thisClass := this
  superClass := sup
  interfaces := ifs
  fields := fds
  methods := ms
  attributes := attrs
def plain (name : String) (sup : Option ClassId) : Class where
  name := name
  kind := .ordinary
  loader := none
  accessFlags := 33
  super := sup
  interfaces := #[]
  cf := none
  fields := #[]
  methods := #[]
  instanceTypes := #[]
  staticTypes := #[]
  resolved := #[]
  callSites := []
  init := .initialized
  statics := none
  mirror := none

def pool0 : Array CpInfo := pool [(5, u "<init>"), (0, u "()V"), (1, .class_ 10), (1, u "java/lang/Object")] 113

def k0c0 : Code := { maxStack := 0, maxLocals := 1, code := object_method_1_code, exceptionTable := #[], attributes := #[] }
def k0m0 : Method := { name := "<init>", desc := "()V", sig := { parameters := [], returnType := none }, accessFlags := 1, code := some k0c0 }
/-- java/lang/Object -/
def k0 : Class := { plain "java/lang/Object" none with
  accessFlags := 33
  interfaces := #[]
  cf := some (fileOf pool0 8 #[] #[{ accessFlags := 1, nameIndex := 5, descriptorIndex := 6, attributes := #[] }] 33 0 #[] #[])
  fields := #[]
  methods := #[k0m0]
  instanceTypes := #[]
  staticTypes := #[]
  resolved := Array.replicate 124 none
  statics := none }

def pool1 : Array CpInfo := pool [(2, .class_ 4), (1, u "java/lang/Object"), (0, u "<init>"), (0, u "()V"), (0, .methodref 8 9), (0, .class_ 10), (0, .nameAndType 11 12), (0, u "com/example/threshold/threshold/PostingListHoldsAtPinLaw"), (0, u "at"), (0, u "(IIII)I"), (0, .class_ 14), (0, u "com/example/threshold/threshold/PostingList"), (0, .methodref 13 16), (0, .nameAndType 5 17), (0, u "([I[IJ[I)V"), (0, .methodref 13 19), (0, .nameAndType 20 21), (0, u "holdsAt"), (0, u "(II)Z"), (2, u "law"), (0, u "(IIIIII)Z")] 5

def k1m0 : Method := { name := "<init>", desc := "()V", sig := { parameters := [], returnType := none }, accessFlags := 1, code := none }
def k1c1 : Code := { maxStack := 7, maxLocals := 14, code := code, exceptionTable := #[], attributes := #[] }
def k1m1 : Method := { name := "law", desc := "(IIIIII)Z", sig := { parameters := [.int, .int, .int, .int, .int, .int], returnType := some .boolean }, accessFlags := 9, code := some k1c1 }
def k1c2 : Code := { maxStack := 2, maxLocals := 4, code := method_3_code, exceptionTable := #[], attributes := #[] }
def k1m2 : Method := { name := "at", desc := "(IIII)I", sig := { parameters := [.int, .int, .int, .int], returnType := some .int }, accessFlags := 10, code := some k1c2 }
/-- com/example/threshold/threshold/PostingListHoldsAtPinLaw -/
def k1 : Class := { plain "com/example/threshold/threshold/PostingListHoldsAtPinLaw" (some 0) with
  accessFlags := 49
  interfaces := #[]
  cf := some (fileOf pool1 8 #[] #[{ accessFlags := 1, nameIndex := 5, descriptorIndex := 6, attributes := #[] }, { accessFlags := 9, nameIndex := 24, descriptorIndex := 25, attributes := #[] }, { accessFlags := 10, nameIndex := 11, descriptorIndex := 12, attributes := #[] }] 49 2 #[] #[])
  fields := #[]
  methods := #[k1m0, k1m1, k1m2]
  instanceTypes := #[]
  staticTypes := #[]
  resolved := Array.replicate 31 none
  statics := none }

def pool2 : Array CpInfo := pool [(1, .methodref 2 3), (0, .class_ 4), (0, .nameAndType 5 6), (0, u "java/lang/Object"), (0, u "<init>"), (0, u "()V"), (0, .fieldref 8 9), (0, .class_ 10), (0, .nameAndType 11 12), (0, u "com/example/threshold/threshold/PostingList"), (0, u "documents"), (0, u "[I"), (0, .fieldref 8 14), (0, .nameAndType 15 12), (0, u "counts"), (0, .fieldref 8 17), (0, .nameAndType 18 19), (0, u "collectionFrequency"), (0, u "J"), (0, .fieldref 8 21), (0, .nameAndType 22 12), (0, u "lengths"), (8, u "lengthsByCount"), (0, u "Lcom/example/threshold/threshold/PostingList$LengthsByCount;"), (8, .class_ 42), (0, u "com/example/threshold/threshold/PostingList$LengthsByCount"), (3, u "([I[IJ[I)V"), (7, u "holdsAt"), (0, u "(II)Z")] 12

def k2c0 : Code := { maxStack := 3, maxLocals := 6, code := prog_13_method_1_code, exceptionTable := #[], attributes := #[] }
def k2m0 : Method := { name := "<init>", desc := "([I[IJ[I)V", sig := { parameters := [(.array .int), (.array .int), .long, (.array .int)], returnType := none }, accessFlags := 0, code := some k2c0 }
def k2c1 : Code := { maxStack := 2, maxLocals := 3, code := prog_13_method_5_code, exceptionTable := #[], attributes := #[] }
def k2m1 : Method := { name := "holdsAt", desc := "(II)Z", sig := { parameters := [.int, .int], returnType := some .boolean }, accessFlags := 1, code := some k2c1 }
/-- com/example/threshold/threshold/PostingList -/
def k2 : Class := { plain "com/example/threshold/threshold/PostingList" (some 0) with
  accessFlags := 49
  interfaces := #[]
  cf := some (fileOf pool2 8 #[.nestMembers #[41]] #[{ accessFlags := 0, nameIndex := 5, descriptorIndex := 46, attributes := #[] }, { accessFlags := 1, nameIndex := 54, descriptorIndex := 55, attributes := #[] }] 49 2 #[] #[{ accessFlags := 18, nameIndex := 11, descriptorIndex := 12, attributes := #[] }, { accessFlags := 18, nameIndex := 15, descriptorIndex := 12, attributes := #[] }, { accessFlags := 18, nameIndex := 18, descriptorIndex := 19, attributes := #[] }, { accessFlags := 18, nameIndex := 22, descriptorIndex := 12, attributes := #[] }, { accessFlags := 66, nameIndex := 31, descriptorIndex := 32, attributes := #[] }])
  fields := #[{ name := "documents", type := (.array .int), accessFlags := 18, slot := 0, constantValue := 0 }, { name := "counts", type := (.array .int), accessFlags := 18, slot := 1, constantValue := 0 }, { name := "collectionFrequency", type := .long, accessFlags := 18, slot := 2, constantValue := 0 }, { name := "lengths", type := (.array .int), accessFlags := 18, slot := 3, constantValue := 0 }, { name := "lengthsByCount", type := (.object "com/example/threshold/threshold/PostingList$LengthsByCount"), accessFlags := 66, slot := 4, constantValue := 0 }]
  methods := #[k2m0, k2m1]
  instanceTypes := #[(.array .int), (.array .int), .long, (.array .int), (.object "com/example/threshold/threshold/PostingList$LengthsByCount")]
  staticTypes := #[]
  resolved := Array.replicate 68 none
  statics := none }

def pool3 : Array CpInfo := pool [(1, u "java/lang/Cloneable"), (0, .class_ 1), (0, u "java/lang/Object"), (0, .class_ 3)] 3

/-- java/lang/Cloneable -/
def k3 : Class := { plain "java/lang/Cloneable" (some 0) with
  accessFlags := 1537
  interfaces := #[]
  cf := some (fileOf pool3 2 #[] #[] 1537 4 #[] #[])
  fields := #[]
  methods := #[]
  instanceTypes := #[]
  staticTypes := #[]
  resolved := Array.replicate 8 none
  statics := none }

def pool4 : Array CpInfo := pool [(1, u "java/io/Serializable"), (0, .class_ 1), (0, u "java/lang/Object"), (0, .class_ 3)] 3

/-- java/io/Serializable -/
def k4 : Class := { plain "java/io/Serializable" (some 0) with
  accessFlags := 1537
  interfaces := #[]
  cf := some (fileOf pool4 2 #[] #[] 1537 4 #[] #[])
  fields := #[]
  methods := #[]
  instanceTypes := #[]
  staticTypes := #[]
  resolved := Array.replicate 8 none
  statics := none }

/-- the primitive byte -/
def k5 : Class := { plain "byte" none with kind := .primitive 'B', accessFlags := 0x411 }
/-- [B -/
def k6 : Class := { plain "[B" (some 0) with kind := .array 5 .byte, interfaces := #[3, 4], accessFlags := 1041 }

/-- the primitive int -/
def k7 : Class := { plain "int" none with kind := .primitive 'I', accessFlags := 0x411 }
/-- [I -/
def k8 : Class := { plain "[I" (some 0) with kind := .array 7 .int, interfaces := #[3, 4], accessFlags := 1041 }

def heap : Heap := #[]
def classes : Array Class := #[k0, k1, k2, k3, k4, k5, k6, k7, k8]
def interned : List (Array UInt16 × Addr) := []
def slotsUsed : Nat := 0
def theMethod : MethodId := ⟨1, 1⟩
def args0 : Array Value := #[.int 2, .int 1, .int 3, .int 4, .int 5, .int 4]
def aboutOver (below : List Frame) : State where
  vm := { classes := classes, interned := interned.toArray }
  heap := heap
  slotsUsed := slotsUsed
  threads := #[{ frames := .invoking theMethod args0 :: below }]
def below0 : List Frame := [.native { method := ⟨0, 0⟩, args := #[] }]
def about1 : State := aboutOver below0
def p0 : Program := .bare "" "" ""
def e0 : Env := launch0.env 0 0 0
theorem w_frames : about1.frames = Frame.invoking theMethod args0 :: below0 := rfl
set_option maxRecDepth 65536 in
theorem w_args : argsFit about1.vm theMethod args0 = true := by decide +kernel
set_option maxRecDepth 65536 in
theorem w_heap : heapFits about1 = true := by decide +kernel
set_option maxRecDepth 65536 in
theorem w_runnable : about1.curStatus? = some .runnable := by decide +kernel
set_option maxRecDepth 65536 in
theorem w_alone : about1.alone = true := by decide +kernel
set_option maxRecDepth 65536 in
theorem w_named : about1.methodNamed? x = some theMethod := by decide +kernel
set_option maxRecDepth 65536 in
theorem w_hears : about1.hears theMethod below0 = true := by decide +kernel
set_option maxRecDepth 65536 in
theorem w_ripe : about1.ripe theMethod args0 below0 = true := by decide +kernel
theorem w_running : about1.status = .running := rfl
set_option maxRecDepth 65536 in
theorem w_room : about1.hasRoom e0.platform room_1 = true :=
  launch0.hasRoom_least _ room_1 (by decide +kernel) (by decide +kernel) (by decide +kernel) (by decide +kernel) (by decide +kernel) (by decide +kernel)
theorem allAtoms_all (ts : List Jvm.Cond) (a : Array Jvm.Value) (st : Jvm.State) : (allAtoms ts).before a st = ts.all (fun c => c.before a st) := by
  induction ts with
  | nil => rfl
  | cons c t ih =>
    show (Jvm.Cond.and c (allAtoms t)).before a st = _
    rw [Jvm.Cond.before_and, ih, List.all_cons]
def words1 : List Jvm.Cond := Jvm.Cond.code x code maxLocals ret :: tables_1
/-- a 'code' word, met by the world's own term for the bytes: nothing is compared byte by byte -/
theorem code_word {y : MethodName} {bytes : ByteArray} {mx : Nat} {rt : Option FieldType} {a : Array Value} {s : State} {m : MethodId} {meth : Method} {c : Code} (h1 : s.methodNamed? y = some m) (h2 : s.vm.method? m = some meth) (h3 : meth.code = some c) (h4 : c.code = bytes)
    (h5 : (c.maxLocals == mx && c.exceptionTable.isEmpty && decide (c.maxStack ≤ mostOperands) && decide (meth.sig.returnType = rt) && !meth.locks && decide (parseMethodDescriptor y.desc = some meth.sig)) = true) : (Jvm.Cond.code y bytes mx rt).before a s = true := by
  simp only [Bool.and_eq_true, beq_iff_eq, Bool.not_eq_true', decide_eq_true_eq] at h5
  obtain ⟨⟨⟨⟨⟨g1, g2⟩, g3⟩, g4⟩, g5⟩, g6⟩ := h5
  simp [Cond.before, Cond.holds, Cond.value, h1, h2, h3, h4, g1, g2, g3, g4, g5, g6]
def isCode : Jvm.Cond → Bool
  | .code _ _ _ _ => true
  | _ => false
theorem all_split {L : List Jvm.Cond} {P : Jvm.Cond → Bool} (h1 : L.all (fun c => isCode c || P c) = true) (h2 : ∀ c ∈ L.filter isCode, P c = true) : L.all P = true := by
  refine List.all_eq_true.mpr fun c hc => ?_
  have h := List.all_eq_true.mp h1 c hc
  rcases Bool.eq_false_or_eq_true (isCode c) with hi | hi
  · exact h2 c (List.mem_filter.mpr ⟨hc, hi⟩)
  · simpa [hi] using h
set_option maxRecDepth 65536 in
theorem w_c0 : (Jvm.Cond.code x code maxLocals ret).before args0 about1 = true := code_word (m := ⟨1, 1⟩) (meth := k1m1) (c := k1c1) (by decide +kernel) rfl rfl rfl (by decide +kernel)
set_option maxRecDepth 65536 in
theorem w_c1 : (Jvm.Cond.code ({ cls := "com/example/threshold/threshold/PostingList", name := "<init>", desc := "([I[IJ[I)V" } : Jvm.MethodName) prog_13_method_1_code (6 : Nat) (Option.none : Option Jvm.ClassFile.FieldType)).before args0 about1 = true := code_word (m := ⟨2, 0⟩) (meth := k2m0) (c := k2c0) (by decide +kernel) rfl rfl rfl (by decide +kernel)
set_option maxRecDepth 65536 in
theorem w_c2 : (Jvm.Cond.code ({ cls := "java/lang/Object", name := "<init>", desc := "()V" } : Jvm.MethodName) object_method_1_code (1 : Nat) (Option.none : Option Jvm.ClassFile.FieldType)).before args0 about1 = true := code_word (m := ⟨0, 0⟩) (meth := k0m0) (c := k0c0) (by decide +kernel) rfl rfl rfl (by decide +kernel)
set_option maxRecDepth 65536 in
theorem w_c3 : (Jvm.Cond.code ({ cls := "com/example/threshold/threshold/PostingList", name := "holdsAt", desc := "(II)Z" } : Jvm.MethodName) prog_13_method_5_code (3 : Nat) (Option.some Jvm.ClassFile.FieldType.boolean)).before args0 about1 = true := code_word (m := ⟨2, 1⟩) (meth := k2m1) (c := k2c1) (by decide +kernel) rfl rfl rfl (by decide +kernel)
set_option maxRecDepth 65536 in
theorem w_c4 : (Jvm.Cond.code ({ cls := "com/example/threshold/threshold/PostingListHoldsAtPinLaw", name := "at", desc := "(IIII)I" } : Jvm.MethodName) method_3_code (4 : Nat) (Option.some Jvm.ClassFile.FieldType.int)).before args0 about1 = true := code_word (m := ⟨1, 2⟩) (meth := k1m2) (c := k1c2) (by decide +kernel) rfl rfl rfl (by decide +kernel)
def codes1 : List Jvm.Cond := [Jvm.Cond.code x code maxLocals ret, Jvm.Cond.code ({ cls := "com/example/threshold/threshold/PostingList", name := "<init>", desc := "([I[IJ[I)V" } : Jvm.MethodName) prog_13_method_1_code (6 : Nat) (Option.none : Option Jvm.ClassFile.FieldType), Jvm.Cond.code ({ cls := "java/lang/Object", name := "<init>", desc := "()V" } : Jvm.MethodName) object_method_1_code (1 : Nat) (Option.none : Option Jvm.ClassFile.FieldType), Jvm.Cond.code ({ cls := "com/example/threshold/threshold/PostingList", name := "holdsAt", desc := "(II)Z" } : Jvm.MethodName) prog_13_method_5_code (3 : Nat) (Option.some Jvm.ClassFile.FieldType.boolean), Jvm.Cond.code ({ cls := "com/example/threshold/threshold/PostingListHoldsAtPinLaw", name := "at", desc := "(IIII)I" } : Jvm.MethodName) method_3_code (4 : Nat) (Option.some Jvm.ClassFile.FieldType.int)]
set_option maxRecDepth 65536 in
theorem codes_eq : words1.filter isCode = codes1 := rfl
theorem w_codes : ∀ c ∈ words1.filter isCode, c.before args0 about1 = true := by
  rw [codes_eq]
  intro c hc
  simp only [codes1, List.mem_cons, List.not_mem_nil, or_false] at hc
  rcases hc with rfl | rfl | rfl | rfl | rfl
  · exact w_c0
  · exact w_c1
  · exact w_c2
  · exact w_c3
  · exact w_c4
set_option maxRecDepth 65536 in
theorem w_t1 : (words1.take 24).all (fun c => isCode c || c.before args0 about1) = true := by decide +kernel
set_option maxRecDepth 65536 in
theorem w_t2 : (words1.drop 24).all (fun c => isCode c || c.before args0 about1) = true := by decide +kernel
theorem w_tables : (allAtoms (Jvm.Cond.code x code maxLocals ret :: tables_1)).before args0 about1 = true := by
  rw [allAtoms_all]
  show words1.all (fun c => c.before args0 about1) = true
  refine all_split ?_ w_codes
  rw [← List.take_append_drop 24 words1, List.all_append, w_t1, w_t2]
  rfl
set_option maxRecDepth 65536 in
theorem w_case : (Jvm.Cond.and given_1 narrow_1).before args0 about1 = true := by decide +kernel
theorem w_applies : (headSpec (Jvm.Cond.code x code maxLocals ret :: tables_1) room_1).applies x e0.platform about1 = true :=
  (Spec.applies_iff w_frames).mpr ⟨w_running, w_runnable, w_alone, w_named, w_hears, w_ripe, w_room, w_tables⟩
theorem atStart : AtStart classFile x code maxLocals ret World_1 tables_1 room_1 Calls_1 rest_1 Pre_1 launch0 p0 e0 about1 theMethod args0 below0 :=
  ⟨lists_1, trivial, launch0.admits_env _ _ _, launch0.least_env, fairChoices_fair.cas, fairChoices_fair.clock, w_frames, w_args, w_heap, w_applies, trivial, trivial, w_case⟩
end start1
theorem witness_1 : WitnessClaimed_1 := ⟨start1.p0, start1.e0, start1.about1, start1.theMethod, start1.args0, start1.below0, start1.atStart⟩
end Jvm.Pilot.@@N@@
