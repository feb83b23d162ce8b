import JvmDerived
import JvmDerived.Pilot.@@N@@Statement
import JvmDerived.Pilot.@@N@@Code
set_option linter.unusedVariables false
set_option linter.unusedSimpArgs false
namespace Jvm.Pilot.@@N@@
open Jvm Jvm.ClassFile Sem Op Lib Jvm.Free Jvm.Stand Jvm.LawKit Jvm.RoadKit Bundle Jvm.Pilot.@@N@@.Jvm.D
section Own
variable {p : Program} {l : Launch} {e : Env} {R : Room} {s : State} {m : MethodId} {args : Array Value} {below : List Frame} {meth : Method} {c : Code} {T : State} {locs : List Loc} {cells slots : Nat} {P : Option Value → Heap → List Loc → Prop} {kk nn : Nat}
/-- from U a run comes to an end at which P holds, within kk cells and nn slots -/
def Go (p : Program) (e : Env) (below : List Frame) (s : State) (P : Option Value → Heap → List Loc → Prop) (kk nn : Nat) (U : State) : Prop :=
  ∃ s₂ o, Steps p.tables e below U s₂ ∧ s₂.status = .running ∧ Ended s₂ below o ∧ ∃ v L, o = .returned v ∧ P v s₂.heap L ∧ FrameEnd s o s₂ L kk nn
theorem Go.pull {U V : State} (h : ∀ t, Steps p.tables e below V t → Steps p.tables e below U t) (g : Go p e below s P kk nn V) : Go p e below s P kk nn U := by
  obtain ⟨s2, o, h1, h2⟩ := g
  exact ⟨s2, o, h _ h1, h2⟩
theorem Go.fin (X : Stand p l e R s m args below meth c T locs cells slots) {f : JFrame} {v : Option Value} (hlk : meth.locks = false) (hv : meth.sig.returnType = none → v = none)
    (hs : ∀ fs, (∀ (f : JFrame) (acts : List Action), f.method = m → f.locked = none → f.entered = [] → (doReturn e (T.setTop f) acts v).1 = T.setFrames fs) → Steps p.tables e below (T.setTop f) (T.setFrames fs))
    (hP : P v T.heap locs) (hk : cells ≤ kk) (hn : slots ≤ nn) : Go p e below s P kk nn (T.setTop f) := by
  obtain ⟨fs, hr, hrun, hended, hW, hsame⟩ := X.leave (v := v) hv hlk
  exact ⟨_, _, hs fs hr, hrun, hended, _, _, rfl, hP, ⟨_, rfl⟩, hW, hsame.mono hk hn⟩
theorem Go.retN (X : Stand p l e R s m args below meth c T locs cells slots) (hx : p.tables.exec = Jvm.exec) (hlk : meth.locks = false) {pc : Nat} {Ls : Array Slot} {z : Int32} {t : FieldType} {rest : List Value} (hret : meth.sig.returnType = some t) (ht : t = .boolean ∨ t = .byte ∨ t = .char ∨ t = .short)
    (hd : decode c.code pc = .ok (.ireturn, 1)) (hP : P (some (.int (nar t z))) T.heap locs) (hk : cells ≤ kk) (hn : slots ≤ nn) : Go p e below s P kk nn (T.setTop (mkF m pc Ls (.int z :: rest))) :=
  Go.fin X hlk (fun h => by rw [hret] at h; cases h) (fun fs hr => RoadKit.retN X hx hret ht hd hr) hP hk hn
theorem Go.retI (X : Stand p l e R s m args below meth c T locs cells slots) (hx : p.tables.exec = Jvm.exec) (hlk : meth.locks = false) {pc : Nat} {Ls : Array Slot} {z : Int32} {rest : List Value} (hret : meth.sig.returnType = some .int)
    (hd : decode c.code pc = .ok (.ireturn, 1)) (hP : P (some (.int z)) T.heap locs) (hk : cells ≤ kk) (hn : slots ≤ nn) : Go p e below s P kk nn (T.setTop (mkF m pc Ls (.int z :: rest))) :=
  Go.fin X hlk (fun h => by rw [hret] at h; cases h) (fun fs hr => retOut X hx hret rfl (Or.inl ⟨rfl, Or.inl rfl, z, rfl⟩) hd hr) hP hk hn
theorem Go.retJ (X : Stand p l e R s m args below meth c T locs cells slots) (hx : p.tables.exec = Jvm.exec) (hlk : meth.locks = false) {pc : Nat} {Ls : Array Slot} {z : Int64} {rest : List Value} (hret : meth.sig.returnType = some .long)
    (hd : decode c.code pc = .ok (.lreturn, 1)) (hP : P (some (.long z)) T.heap locs) (hk : cells ≤ kk) (hn : slots ≤ nn) : Go p e below s P kk nn (T.setTop (mkF m pc Ls (.long z :: rest))) :=
  Go.fin X hlk (fun h => by rw [hret] at h; cases h) (fun fs hr => retOut X hx hret rfl (Or.inr (Or.inl ⟨rfl, rfl, z, rfl⟩)) hd hr) hP hk hn
theorem Go.retR (X : Stand p l e R s m args below meth c T locs cells slots) (hx : p.tables.exec = Jvm.exec) (hlk : meth.locks = false) {pc : Nat} {Ls : Array Slot} {w : Value} {t : FieldType} {rest : List Value} (hret : meth.sig.returnType = some t) (hna : narrow t w = w) (ht : t.isReference = true) (hw : w.isRef = true)
    (hd : decode c.code pc = .ok (.areturn, 1)) (hP : P (some w) T.heap locs) (hk : cells ≤ kk) (hn : slots ≤ nn) : Go p e below s P kk nn (T.setTop (mkF m pc Ls (w :: rest))) :=
  Go.fin X hlk (fun h => by rw [hret] at h; cases h) (fun fs hr => retOut X hx hret hna (Or.inr (Or.inr (Or.inr (Or.inr ⟨rfl, ht, hw⟩)))) hd hr) hP hk hn
theorem Go.ret0 (X : Stand p l e R s m args below meth c T locs cells slots) (hx : p.tables.exec = Jvm.exec) (hlk : meth.locks = false) {pc : Nat} {Ls : Array Slot} (hret : meth.sig.returnType = none)
    (hd : decode c.code pc = .ok (.return_, 1)) (hP : P none T.heap locs) (hk : cells ≤ kk) (hn : slots ≤ nn) : Go p e below s P kk nn (T.setTop (mkF m pc Ls [])) :=
  Go.fin X hlk (fun _ => rfl) (fun fs hr => X.returnOut hx hret hd hr) hP hk hn
theorem own_lsw {tb : Tables} [Ours tb] {e : Env} {below : List Frame} {T target : State} {m : MethodId} {c : Code} {g : JFrame} (h : At T m c below) (hx : tb.exec = Jvm.exec) (hg : g.method = m) {dflt : Int} {prs : Array (Int × Int)} {len : Nat} {o : Int} {pc0 pc' : Nat} (hpc : g.pc = pc0)
    (hd : decode c.code g.pc = .ok (.lookupswitch dflt prs, len)) {i : Int32} {rest : List Value} (hs : g.stack = .int i :: rest) (hord : (prs.toList.zip (prs.toList.drop 1)).all (fun (a, next) => a.1 < next.1) = true) (hoff : lookupswitch.offset prs.toList dflt i.toInt = o)
    (ho : 0 ≤ (pc0 : Int) + o) (hp : ((pc0 : Int) + o).toNat = pc') (hr : Steps tb e below (T.setTop { g with pc := pc', stack := rest }) target) : Steps tb e below (T.setTop g) target := by
  subst hg hpc hp hoff
  jvm_step h [h.top, hx, hd, hs, ho, lookupswitch.wp_chain]
  exact ⟨by simpa using hord, hr⟩
theorem own_eq_i {t : Term} {n : Int32} {first : State} {o : Option Outcome} {idx : List Nat} (h : (Cond.eq t (.int n)).value args first o s idx = some true) : t.eval args first o idx s = some (.int n) := by
  obtain ⟨x, y, e1, e2, k1, k2⟩ := cmp_v (Or.inl h)
  cases (Term.int_eval n).symm.trans e2
  obtain ⟨z, rfl⟩ : ∃ z, x = .int z := k2
  rw [e1, gotT (Cond.eq_ints e1 e2) h]
theorem own_eq_l {t : Term} {n : Int64} {first : State} {o : Option Outcome} {idx : List Nat} (h : (Cond.eq t (.long n)).value args first o s idx = some true) : t.eval args first o idx s = some (.long n) := by
  obtain ⟨x, y, e1, e2, k1, k2⟩ := cmp_v (Or.inl h)
  have e3 : (Term.long n).eval args first o idx s = some (.long n) := rfl
  cases e3.symm.trans e2
  obtain ⟨z, rfl⟩ : ∃ z, x = .long z := k2
  rw [e1, gotT (eq_L e1 e2) h]
theorem own_eq_r {t u : Term} {a : Addr} {first : State} {o : Option Outcome} {idx : List Nat} (hu : u.eval args first o idx s = some (.ref a)) (h : (Cond.eq t u).value args first o s idx = some true) : t.eval args first o idx s = some (.ref a) := by
  obtain ⟨x, y, e1, e2, k1, k2⟩ := cmp_v (Or.inl h)
  cases hu.symm.trans e2
  have k3 : (Value.ref a).isRef = true ∧ x.isRef = true := k2
  rw [e1, gotT (eq_R e1 e2 k3.2 rfl) h]
theorem own_sta_keep {Z : State} {h h' : Heap} {C n d : String} {w : Value} {ws : List Addr} (F : Sta Z h C n d w) (K : Keep h h' ws) (q : ∀ x ∈ ws, ∃ c : Cell, h[x]? = some c ∧ ∀ q, c.vm ≠ .statics q) : Sta Z h' C n d w := by
  obtain ⟨cf, i, k, f, st, cell, h1, h2, h3, h4, h5, h6, h7⟩ := F
  refine ⟨cf, i, k, f, st, cell, h1, h2, h3, h4, K.2.1 st cell h5 (fun hm => ?_), h6, h7⟩
  obtain ⟨c, hc, hq⟩ := q st hm
  cases h5.symm.trans hc
  cases hv : cell.vm with
  | statics r => exact hq r hv
  | _ => rw [hv] at h6; cases h6
end Own
theorem pd_0 : parseMethodDescriptor "(I)C" = some ⟨[.int], some .char⟩ := by decide +kernel
theorem pd_1 : parseMethodDescriptor "(C)I" = some ⟨[.char], some .int⟩ := by decide +kernel
theorem pd_2 : parseMethodDescriptor "(I)I" = some ⟨[.int], some .int⟩ := by decide +kernel
def own_letter (i : Int32) : Int32 := if i = 0 then 117 else if i = 1 then 103 else if i = 2 then 111 else 97
def own_expected (i : Int32) : Int32 := if i = 0 then 448 else if i = 1 then 56 else if i = 2 then 519 else 1023
def own_part (i : Int32) : Int32 := if i = 117 then 448 else if i = 103 then 56 else if i = 111 then 519 else 1023
theorem own_and3 (x : Int32) {v : Int32} (h : (x &&& (3 : Int32)) = v) : v = 0 ∨ v = 1 ∨ v = 2 ∨ v = 3 := by
  subst h
  have h1 : (x &&& (3 : Int32)).toInt = x.toInt % (2 ^ 2 : Nat) := c_mask x 3 2 (by decide) (by decide)
  have h2 : x.toInt % (2 ^ 2 : Nat) = 0 ∨ x.toInt % (2 ^ 2 : Nat) = 1 ∨ x.toInt % (2 ^ 2 : Nat) = 2 ∨ x.toInt % (2 ^ 2 : Nat) = 3 := by omega
  rcases h2 with h2 | h2 | h2 | h2
  · exact (Or.inl (Int32.toInt_inj.mp (by rw [h1, h2] <;> rfl)))
  · exact (Or.inr (Or.inl (Int32.toInt_inj.mp (by rw [h1, h2] <;> rfl))))
  · exact (Or.inr (Or.inr (Or.inl (Int32.toInt_inj.mp (by rw [h1, h2] <;> rfl)))))
  · exact (Or.inr (Or.inr (Or.inr (Int32.toInt_inj.mp (by rw [h1, h2] <;> rfl)))))
theorem dL_0 : decode method_2_code 0 = .ok (.iload_n 0, 1) := by decide +kernel
theorem dL_1 : decode method_2_code 1 = .ok (.ifCond .ne 6, 3) := by decide +kernel
theorem dL_4 : decode method_2_code 4 = .ok (.bipush 117, 2) := by decide +kernel
theorem dL_6 : decode method_2_code 6 = .ok (.ireturn, 1) := by decide +kernel
theorem dL_7 : decode method_2_code 7 = .ok (.iload_n 0, 1) := by decide +kernel
theorem dL_8 : decode method_2_code 8 = .ok (.iconst 1, 1) := by decide +kernel
theorem dL_9 : decode method_2_code 9 = .ok (.if_icmp .ne 6, 3) := by decide +kernel
theorem dL_12 : decode method_2_code 12 = .ok (.bipush 103, 2) := by decide +kernel
theorem dL_14 : decode method_2_code 14 = .ok (.ireturn, 1) := by decide +kernel
theorem dL_15 : decode method_2_code 15 = .ok (.iload_n 0, 1) := by decide +kernel
theorem dL_16 : decode method_2_code 16 = .ok (.iconst 2, 1) := by decide +kernel
theorem dL_17 : decode method_2_code 17 = .ok (.if_icmp .ne 6, 3) := by decide +kernel
theorem dL_20 : decode method_2_code 20 = .ok (.bipush 111, 2) := by decide +kernel
theorem dL_22 : decode method_2_code 22 = .ok (.ireturn, 1) := by decide +kernel
theorem dL_23 : decode method_2_code 23 = .ok (.bipush 97, 2) := by decide +kernel
theorem dL_25 : decode method_2_code 25 = .ok (.ireturn, 1) := by decide +kernel
theorem efL (m : MethodId) (x0 : Int32) : entryFrame m #[(.int x0)] 1 = mkF m 0 #[iv x0] [] := by first | (simp [entryFrame, mkF, argsToLocals, Value.category]; done) | rfl
theorem pn_com_example_facl_facl_ModeSpecPartPinLaw : plainName "com/example/facl/facl/ModeSpecPartPinLaw" = true := by first | (simp [plainName, overriddenIn]; done) | decide +kernel
def QL (Z : State) (i : Int32) (h0 : Heap) (n0 : Nat) (v : Option Value) (h : Heap) (L : List Loc) : Prop := v = some (.int (own_letter i)) ∧ Fr n0 L ∧ h = h0
set_option maxRecDepth 65536 in
set_option maxHeartbeats 40000000 in
theorem rmL (l : Launch) (Z : State) (a0 : Array Value) (hw : ∀ d ∈ tables_1, d.before a0 Z = true) (ws : List Jvm.Cond) (i : Int32) (h0 : Heap) (n0 : Nat) :
    MetFree l (⟨"com/example/facl/facl/ModeSpecPartPinLaw", "letter", "(I)C"⟩ : MethodName) (head1 (Jvm.Cond.code (⟨"com/example/facl/facl/ModeSpecPartPinLaw", "letter", "(I)C"⟩ : MethodName) method_2_code 1 (some .char) :: ws) ({ frames := 0, cells := 0, slots := 0, locals := 0 } : Room)) (fun as' U => as' = #[(.int i)] ∧ Z.Warmed39 U.vm ∧ U.heap = h0) (fun _ _ _ _ _ => True) (fun _ U o U' => ∃ v L, o = .returned v ∧ QL Z i h0 n0 v U'.heap L ∧ FrameEnd U o U' L ({ frames := 0, cells := 0, slots := 0, locals := 0 } : Room).cells ({ frames := 0, cells := 0, slots := 0, locals := 0 } : Room).slots) := by
  refine MetFree.of_bodySF (plainFor_of_name pn_com_example_facl_facl_ModeSpecPartPinLaw) hisR ?_
  intro p e s m args below meth c s₁ Bd hml0 hP hK
  obtain ⟨rfl, hZ, hh⟩ := hP
  have hx := Bd.exec
  have hby := Bd.bytes
  have hml : c.maxLocals = 1 := hml0
  have hown : s.vm.findClass "com/example/facl/facl/ModeSpecPartPinLaw" = some m.cls := findClass_of_methodNamed Bd.named
  have hnm := (name_of_methodNamed Bd.named Bd.method).1
  have X0 : Stand p l e ({ frames := 0, cells := 0, slots := 0, locals := 0 } : Room) s m #[(.int i)] below meth c s₁ [] 0 0 := Stand.of_body Bd
  have e0 : s₁.heap = h0 := by rw [← hh, Bd.state]; rfl
  have N0 := Fr.nil n0
  show Go p e below s (fun v h L => QL Z i h0 n0 v h L) 0 0 _
  refine Go.pull (V := s₁.setTop (mkF m 0 #[iv i] [])) (fun t k => castTop (efL m i) k) ?_
  refine Go.pull (V := s₁.setTop (mkF m 1 #[iv i] [(.int i)])) (fun t k => XS.iloadN X0.here hx rfl (hb hby dL_0) rfl  k) ?_
  by_cases hc1_1 : i = 0
  · skip
    refine Go.pull (V := s₁.setTop (mkF m 4 #[iv i] [])) (fun t k => XS.ifNo X0.here hx rfl (hb hby dL_1) rfl (XT.i0_ne_f hc1_1) k) ?_
    refine Go.pull (V := s₁.setTop (mkF m 6 #[iv i] [(.int 117)])) (fun t k => XS.bipush X0.here hx rfl (hb hby dL_4) k) ?_
    exact Go.retN X0 hx Bd.notSynchronized (t := .char) Bd.returns (by simp) (hb hby dL_6) ⟨(by rw [own_letter, if_pos hc1_1] <;> rfl), N0, e0⟩ (by decide) (by decide)
  · skip
    refine Go.pull (V := s₁.setTop (mkF m 7 #[iv i] [])) (fun t k => XS.ifYes X0.here hx rfl (pc0 := 1) (pc' := 7) rfl (hb hby dL_1) rfl (XT.i0_ne_t hc1_1) (by decide) (by decide) k) ?_
    refine Go.pull (V := s₁.setTop (mkF m 8 #[iv i] [(.int i)])) (fun t k => XS.iloadN X0.here hx rfl (hb hby dL_7) rfl  k) ?_
    refine Go.pull (V := s₁.setTop (mkF m 9 #[iv i] [(.int 1), (.int i)])) (fun t k => XS.iconst X0.here hx rfl (hb hby dL_8) k) ?_
    by_cases hc9_2 : i = (1 : Int32)
    · skip
      refine Go.pull (V := s₁.setTop (mkF m 12 #[iv i] [])) (fun t k => XS.icmpNo X0.here hx rfl (hb hby dL_9) rfl (XT.ii_ne_f hc9_2) k) ?_
      refine Go.pull (V := s₁.setTop (mkF m 14 #[iv i] [(.int 103)])) (fun t k => XS.bipush X0.here hx rfl (hb hby dL_12) k) ?_
      exact Go.retN X0 hx Bd.notSynchronized (t := .char) Bd.returns (by simp) (hb hby dL_14) ⟨(by rw [own_letter, if_neg hc1_1, if_pos hc9_2] <;> rfl), N0, e0⟩ (by decide) (by decide)
    · skip
      refine Go.pull (V := s₁.setTop (mkF m 15 #[iv i] [])) (fun t k => XS.icmpYes X0.here hx rfl (pc0 := 9) (pc' := 15) rfl (hb hby dL_9) rfl (XT.ii_ne_t hc9_2) (by decide) (by decide) k) ?_
      refine Go.pull (V := s₁.setTop (mkF m 16 #[iv i] [(.int i)])) (fun t k => XS.iloadN X0.here hx rfl (hb hby dL_15) rfl  k) ?_
      refine Go.pull (V := s₁.setTop (mkF m 17 #[iv i] [(.int 2), (.int i)])) (fun t k => XS.iconst X0.here hx rfl (hb hby dL_16) k) ?_
      by_cases hc17_3 : i = (2 : Int32)
      · skip
        refine Go.pull (V := s₁.setTop (mkF m 20 #[iv i] [])) (fun t k => XS.icmpNo X0.here hx rfl (hb hby dL_17) rfl (XT.ii_ne_f hc17_3) k) ?_
        refine Go.pull (V := s₁.setTop (mkF m 22 #[iv i] [(.int 111)])) (fun t k => XS.bipush X0.here hx rfl (hb hby dL_20) k) ?_
        exact Go.retN X0 hx Bd.notSynchronized (t := .char) Bd.returns (by simp) (hb hby dL_22) ⟨(by rw [own_letter, if_neg hc1_1, if_neg hc9_2, if_pos hc17_3] <;> rfl), N0, e0⟩ (by decide) (by decide)
      · skip
        refine Go.pull (V := s₁.setTop (mkF m 23 #[iv i] [])) (fun t k => XS.icmpYes X0.here hx rfl (pc0 := 17) (pc' := 23) rfl (hb hby dL_17) rfl (XT.ii_ne_t hc17_3) (by decide) (by decide) k) ?_
        refine Go.pull (V := s₁.setTop (mkF m 25 #[iv i] [(.int 97)])) (fun t k => XS.bipush X0.here hx rfl (hb hby dL_23) k) ?_
        exact Go.retN X0 hx Bd.notSynchronized (t := .char) Bd.returns (by simp) (hb hby dL_25) ⟨(by rw [own_letter, if_neg hc1_1, if_neg hc9_2, if_neg hc17_3] <;> rfl), N0, e0⟩ (by decide) (by decide)
theorem dX_0 : decode method_3_code 0 = .ok (.iload_n 0, 1) := by decide +kernel
theorem dX_1 : decode method_3_code 1 = .ok (.ifCond .ne 7, 3) := by decide +kernel
theorem dX_4 : decode method_3_code 4 = .ok (.sipush 448, 3) := by decide +kernel
theorem dX_7 : decode method_3_code 7 = .ok (.ireturn, 1) := by decide +kernel
theorem dX_8 : decode method_3_code 8 = .ok (.iload_n 0, 1) := by decide +kernel
theorem dX_9 : decode method_3_code 9 = .ok (.iconst 1, 1) := by decide +kernel
theorem dX_10 : decode method_3_code 10 = .ok (.if_icmp .ne 6, 3) := by decide +kernel
theorem dX_13 : decode method_3_code 13 = .ok (.bipush 56, 2) := by decide +kernel
theorem dX_15 : decode method_3_code 15 = .ok (.ireturn, 1) := by decide +kernel
theorem dX_16 : decode method_3_code 16 = .ok (.iload_n 0, 1) := by decide +kernel
theorem dX_17 : decode method_3_code 17 = .ok (.iconst 2, 1) := by decide +kernel
theorem dX_18 : decode method_3_code 18 = .ok (.if_icmp .ne 7, 3) := by decide +kernel
theorem dX_21 : decode method_3_code 21 = .ok (.sipush 519, 3) := by decide +kernel
theorem dX_24 : decode method_3_code 24 = .ok (.ireturn, 1) := by decide +kernel
theorem dX_25 : decode method_3_code 25 = .ok (.sipush 1023, 3) := by decide +kernel
theorem dX_28 : decode method_3_code 28 = .ok (.ireturn, 1) := by decide +kernel
theorem efX (m : MethodId) (x0 : Int32) : entryFrame m #[(.int x0)] 1 = mkF m 0 #[iv x0] [] := by first | (simp [entryFrame, mkF, argsToLocals, Value.category]; done) | rfl
def QX (Z : State) (i : Int32) (h0 : Heap) (n0 : Nat) (v : Option Value) (h : Heap) (L : List Loc) : Prop := v = some (.int (own_expected i)) ∧ Fr n0 L ∧ h = h0
set_option maxRecDepth 65536 in
set_option maxHeartbeats 40000000 in
theorem rmX (l : Launch) (Z : State) (a0 : Array Value) (hw : ∀ d ∈ tables_1, d.before a0 Z = true) (ws : List Jvm.Cond) (i : Int32) (h0 : Heap) (n0 : Nat) :
    MetFree l (⟨"com/example/facl/facl/ModeSpecPartPinLaw", "expected", "(I)I"⟩ : MethodName) (head1 (Jvm.Cond.code (⟨"com/example/facl/facl/ModeSpecPartPinLaw", "expected", "(I)I"⟩ : MethodName) method_3_code 1 (some .int) :: ws) ({ frames := 0, cells := 0, slots := 0, locals := 0 } : Room)) (fun as' U => as' = #[(.int i)] ∧ Z.Warmed39 U.vm ∧ U.heap = h0) (fun _ _ _ _ _ => True) (fun _ U o U' => ∃ v L, o = .returned v ∧ QX Z i h0 n0 v U'.heap L ∧ FrameEnd U o U' L ({ frames := 0, cells := 0, slots := 0, locals := 0 } : Room).cells ({ frames := 0, cells := 0, slots := 0, locals := 0 } : Room).slots) := by
  refine MetFree.of_bodySF (plainFor_of_name pn_com_example_facl_facl_ModeSpecPartPinLaw) hisR ?_
  intro p e s m args below meth c s₁ Bd hml0 hP hK
  obtain ⟨rfl, hZ, hh⟩ := hP
  have hx := Bd.exec
  have hby := Bd.bytes
  have hml : c.maxLocals = 1 := hml0
  have hown : s.vm.findClass "com/example/facl/facl/ModeSpecPartPinLaw" = some m.cls := findClass_of_methodNamed Bd.named
  have hnm := (name_of_methodNamed Bd.named Bd.method).1
  have X0 : Stand p l e ({ frames := 0, cells := 0, slots := 0, locals := 0 } : Room) s m #[(.int i)] below meth c s₁ [] 0 0 := Stand.of_body Bd
  have e0 : s₁.heap = h0 := by rw [← hh, Bd.state]; rfl
  have N0 := Fr.nil n0
  show Go p e below s (fun v h L => QX Z i h0 n0 v h L) 0 0 _
  refine Go.pull (V := s₁.setTop (mkF m 0 #[iv i] [])) (fun t k => castTop (efX m i) k) ?_
  refine Go.pull (V := s₁.setTop (mkF m 1 #[iv i] [(.int i)])) (fun t k => XS.iloadN X0.here hx rfl (hb hby dX_0) rfl  k) ?_
  by_cases hc1_1 : i = 0
  · skip
    refine Go.pull (V := s₁.setTop (mkF m 4 #[iv i] [])) (fun t k => XS.ifNo X0.here hx rfl (hb hby dX_1) rfl (XT.i0_ne_f hc1_1) k) ?_
    refine Go.pull (V := s₁.setTop (mkF m 7 #[iv i] [(.int 448)])) (fun t k => XS.sipush X0.here hx rfl (hb hby dX_4) k) ?_
    exact Go.retI X0 hx Bd.notSynchronized Bd.returns (hb hby dX_7) ⟨(by rw [own_expected, if_pos hc1_1] <;> rfl), N0, e0⟩ (by decide) (by decide)
  · skip
    refine Go.pull (V := s₁.setTop (mkF m 8 #[iv i] [])) (fun t k => XS.ifYes X0.here hx rfl (pc0 := 1) (pc' := 8) rfl (hb hby dX_1) rfl (XT.i0_ne_t hc1_1) (by decide) (by decide) k) ?_
    refine Go.pull (V := s₁.setTop (mkF m 9 #[iv i] [(.int i)])) (fun t k => XS.iloadN X0.here hx rfl (hb hby dX_8) rfl  k) ?_
    refine Go.pull (V := s₁.setTop (mkF m 10 #[iv i] [(.int 1), (.int i)])) (fun t k => XS.iconst X0.here hx rfl (hb hby dX_9) k) ?_
    by_cases hc10_2 : i = (1 : Int32)
    · skip
      refine Go.pull (V := s₁.setTop (mkF m 13 #[iv i] [])) (fun t k => XS.icmpNo X0.here hx rfl (hb hby dX_10) rfl (XT.ii_ne_f hc10_2) k) ?_
      refine Go.pull (V := s₁.setTop (mkF m 15 #[iv i] [(.int 56)])) (fun t k => XS.bipush X0.here hx rfl (hb hby dX_13) k) ?_
      exact Go.retI X0 hx Bd.notSynchronized Bd.returns (hb hby dX_15) ⟨(by rw [own_expected, if_neg hc1_1, if_pos hc10_2] <;> rfl), N0, e0⟩ (by decide) (by decide)
    · skip
      refine Go.pull (V := s₁.setTop (mkF m 16 #[iv i] [])) (fun t k => XS.icmpYes X0.here hx rfl (pc0 := 10) (pc' := 16) rfl (hb hby dX_10) rfl (XT.ii_ne_t hc10_2) (by decide) (by decide) k) ?_
      refine Go.pull (V := s₁.setTop (mkF m 17 #[iv i] [(.int i)])) (fun t k => XS.iloadN X0.here hx rfl (hb hby dX_16) rfl  k) ?_
      refine Go.pull (V := s₁.setTop (mkF m 18 #[iv i] [(.int 2), (.int i)])) (fun t k => XS.iconst X0.here hx rfl (hb hby dX_17) k) ?_
      by_cases hc18_3 : i = (2 : Int32)
      · skip
        refine Go.pull (V := s₁.setTop (mkF m 21 #[iv i] [])) (fun t k => XS.icmpNo X0.here hx rfl (hb hby dX_18) rfl (XT.ii_ne_f hc18_3) k) ?_
        refine Go.pull (V := s₁.setTop (mkF m 24 #[iv i] [(.int 519)])) (fun t k => XS.sipush X0.here hx rfl (hb hby dX_21) k) ?_
        exact Go.retI X0 hx Bd.notSynchronized Bd.returns (hb hby dX_24) ⟨(by rw [own_expected, if_neg hc1_1, if_neg hc10_2, if_pos hc18_3] <;> rfl), N0, e0⟩ (by decide) (by decide)
      · skip
        refine Go.pull (V := s₁.setTop (mkF m 25 #[iv i] [])) (fun t k => XS.icmpYes X0.here hx rfl (pc0 := 18) (pc' := 25) rfl (hb hby dX_18) rfl (XT.ii_ne_t hc18_3) (by decide) (by decide) k) ?_
        refine Go.pull (V := s₁.setTop (mkF m 28 #[iv i] [(.int 1023)])) (fun t k => XS.sipush X0.here hx rfl (hb hby dX_25) k) ?_
        exact Go.retI X0 hx Bd.notSynchronized Bd.returns (hb hby dX_28) ⟨(by rw [own_expected, if_neg hc1_1, if_neg hc10_2, if_neg hc18_3] <;> rfl), N0, e0⟩ (by decide) (by decide)
theorem dP_0 : decode prog_28_method_5_code 0 = .ok (.iload_n 0, 1) := by decide +kernel
theorem dP_1 : decode prog_28_method_5_code 1 = .ok (.lookupswitch 52 #[(103, 41), (111, 46), (117, 35)], 35) := by decide +kernel
theorem dP_36 : decode prog_28_method_5_code 36 = .ok (.sipush 448, 3) := by decide +kernel
theorem dP_39 : decode prog_28_method_5_code 39 = .ok (.goto 17, 3) := by decide +kernel
theorem dP_42 : decode prog_28_method_5_code 42 = .ok (.bipush 56, 2) := by decide +kernel
theorem dP_44 : decode prog_28_method_5_code 44 = .ok (.goto 12, 3) := by decide +kernel
theorem dP_47 : decode prog_28_method_5_code 47 = .ok (.sipush 519, 3) := by decide +kernel
theorem dP_50 : decode prog_28_method_5_code 50 = .ok (.goto 6, 3) := by decide +kernel
theorem dP_53 : decode prog_28_method_5_code 53 = .ok (.sipush 1023, 3) := by decide +kernel
theorem dP_56 : decode prog_28_method_5_code 56 = .ok (.ireturn, 1) := by decide +kernel
theorem efP (m : MethodId) (x0 : Int32) : entryFrame m #[(.int x0)] 1 = mkF m 0 #[iv x0] [] := by first | (simp [entryFrame, mkF, argsToLocals, Value.category]; done) | rfl
theorem pn_com_example_facl_facl_ModeSpec : plainName "com/example/facl/facl/ModeSpec" = true := by first | (simp [plainName, overriddenIn]; done) | decide +kernel
def QP (Z : State) (i : Int32) (h0 : Heap) (n0 : Nat) (v : Option Value) (h : Heap) (L : List Loc) : Prop := v = some (.int (own_part i)) ∧ Fr n0 L ∧ h = h0
set_option maxRecDepth 65536 in
set_option maxHeartbeats 40000000 in
theorem rmP (l : Launch) (Z : State) (a0 : Array Value) (hw : ∀ d ∈ tables_1, d.before a0 Z = true) (ws : List Jvm.Cond) (i : Int32) (h0 : Heap) (n0 : Nat) (hi : i = 117 ∨ i = 103 ∨ i = 111 ∨ i = 97) :
    MetFree l (⟨"com/example/facl/facl/ModeSpec", "part", "(C)I"⟩ : MethodName) (head1 (Jvm.Cond.code (⟨"com/example/facl/facl/ModeSpec", "part", "(C)I"⟩ : MethodName) prog_28_method_5_code 1 (some .int) :: ws) ({ frames := 0, cells := 0, slots := 0, locals := 0 } : Room)) (fun as' U => as' = #[(.int i)] ∧ Z.Warmed39 U.vm ∧ U.heap = h0) (fun _ _ _ _ _ => True) (fun _ U o U' => ∃ v L, o = .returned v ∧ QP Z i h0 n0 v U'.heap L ∧ FrameEnd U o U' L ({ frames := 0, cells := 0, slots := 0, locals := 0 } : Room).cells ({ frames := 0, cells := 0, slots := 0, locals := 0 } : Room).slots) := by
  refine MetFree.of_bodySF (plainFor_of_name pn_com_example_facl_facl_ModeSpec) hisR ?_
  intro p e s m args below meth c s₁ Bd hml0 hP hK
  obtain ⟨rfl, hZ, hh⟩ := hP
  have hx := Bd.exec
  have hby := Bd.bytes
  have hml : c.maxLocals = 1 := hml0
  have hown : s.vm.findClass "com/example/facl/facl/ModeSpec" = some m.cls := findClass_of_methodNamed Bd.named
  have hnm := (name_of_methodNamed Bd.named Bd.method).1
  have X0 : Stand p l e ({ frames := 0, cells := 0, slots := 0, locals := 0 } : Room) s m #[(.int i)] below meth c s₁ [] 0 0 := Stand.of_body Bd
  have e0 : s₁.heap = h0 := by rw [← hh, Bd.state]; rfl
  have N0 := Fr.nil n0
  show Go p e below s (fun v h L => QP Z i h0 n0 v h L) 0 0 _
  refine Go.pull (V := s₁.setTop (mkF m 0 #[iv i] [])) (fun t k => castTop (efP m i) k) ?_
  rcases hi with rfl | rfl | rfl | rfl
  · skip
    refine Go.pull (V := s₁.setTop (mkF m 1 #[iv 117] [(.int 117)])) (fun t k => XS.iloadN X0.here hx rfl (hb hby dP_0) rfl  k) ?_
    refine Go.pull (V := s₁.setTop (mkF m 36 #[iv 117] [])) (fun t k => own_lsw X0.here hx rfl (pc0 := 1) (pc' := 36) (o := 35) rfl (hb hby dP_1) rfl (by decide) (by decide) (by decide) (by decide) k) ?_
    refine Go.pull (V := s₁.setTop (mkF m 39 #[iv 117] [(.int 448)])) (fun t k => XS.sipush X0.here hx rfl (hb hby dP_36) k) ?_
    refine Go.pull (V := s₁.setTop (mkF m 56 #[iv 117] [(.int 448)])) (fun t k => XS.goto X0.here hx rfl (pc0 := 39) (pc' := 56) rfl (hb hby dP_39) (by decide) (by decide) k) ?_
    exact Go.retI X0 hx Bd.notSynchronized Bd.returns (hb hby dP_56) ⟨(by decide), N0, e0⟩ (by decide) (by decide)
  · skip
    refine Go.pull (V := s₁.setTop (mkF m 1 #[iv 103] [(.int 103)])) (fun t k => XS.iloadN X0.here hx rfl (hb hby dP_0) rfl  k) ?_
    refine Go.pull (V := s₁.setTop (mkF m 42 #[iv 103] [])) (fun t k => own_lsw X0.here hx rfl (pc0 := 1) (pc' := 42) (o := 41) rfl (hb hby dP_1) rfl (by decide) (by decide) (by decide) (by decide) k) ?_
    refine Go.pull (V := s₁.setTop (mkF m 44 #[iv 103] [(.int 56)])) (fun t k => XS.bipush X0.here hx rfl (hb hby dP_42) k) ?_
    refine Go.pull (V := s₁.setTop (mkF m 56 #[iv 103] [(.int 56)])) (fun t k => XS.goto X0.here hx rfl (pc0 := 44) (pc' := 56) rfl (hb hby dP_44) (by decide) (by decide) k) ?_
    exact Go.retI X0 hx Bd.notSynchronized Bd.returns (hb hby dP_56) ⟨(by decide), N0, e0⟩ (by decide) (by decide)
  · skip
    refine Go.pull (V := s₁.setTop (mkF m 1 #[iv 111] [(.int 111)])) (fun t k => XS.iloadN X0.here hx rfl (hb hby dP_0) rfl  k) ?_
    refine Go.pull (V := s₁.setTop (mkF m 47 #[iv 111] [])) (fun t k => own_lsw X0.here hx rfl (pc0 := 1) (pc' := 47) (o := 46) rfl (hb hby dP_1) rfl (by decide) (by decide) (by decide) (by decide) k) ?_
    refine Go.pull (V := s₁.setTop (mkF m 50 #[iv 111] [(.int 519)])) (fun t k => XS.sipush X0.here hx rfl (hb hby dP_47) k) ?_
    refine Go.pull (V := s₁.setTop (mkF m 56 #[iv 111] [(.int 519)])) (fun t k => XS.goto X0.here hx rfl (pc0 := 50) (pc' := 56) rfl (hb hby dP_50) (by decide) (by decide) k) ?_
    exact Go.retI X0 hx Bd.notSynchronized Bd.returns (hb hby dP_56) ⟨(by decide), N0, e0⟩ (by decide) (by decide)
  · skip
    refine Go.pull (V := s₁.setTop (mkF m 1 #[iv 97] [(.int 97)])) (fun t k => XS.iloadN X0.here hx rfl (hb hby dP_0) rfl  k) ?_
    refine Go.pull (V := s₁.setTop (mkF m 53 #[iv 97] [])) (fun t k => own_lsw X0.here hx rfl (pc0 := 1) (pc' := 53) (o := 52) rfl (hb hby dP_1) rfl (by decide) (by decide) (by decide) (by decide) k) ?_
    refine Go.pull (V := s₁.setTop (mkF m 56 #[iv 97] [(.int 1023)])) (fun t k => XS.sipush X0.here hx rfl (hb hby dP_53) k) ?_
    exact Go.retI X0 hx Bd.notSynchronized Bd.returns (hb hby dP_56) ⟨(by decide), N0, e0⟩ (by decide) (by decide)
theorem ef0 (m : MethodId) (x0 : Int32) (x1 : Int32) : entryFrame m #[(.int x0), (.int x1)] maxLocals = mkF m 0 #[iv x0, iv x1, .unset, .unset, .unset, .unset, .unset, .unset, .unset, .unset] [] := by first | (simp [entryFrame, mkF, argsToLocals, Value.category, maxLocals]; done) | rfl
def Q0 (Z : State) (pa : Int32) (pb : Int32) (h0 : Heap) (n0 : Nat) (v : Option Value) (h : Heap) (L : List Loc) : Prop := v = some (.int 1) ∧ Fr n0 L
set_option maxRecDepth 65536 in
set_option maxHeartbeats 40000000 in
theorem rm0 (l : Launch) (Z : State) (a0 : Array Value) (hw : ∀ d ∈ tables_1, d.before a0 Z = true) (ws : List Jvm.Cond) (pa : Int32) (pb : Int32) (h0 : Heap) (n0 : Nat) (Z0 : n0 ≤ h0.size) :
    MetFree l x (head1 (Jvm.Cond.code x code maxLocals ret :: ws) room_1) (fun as' U => as' = #[(.int pa), (.int pb)] ∧ Z.Warmed39 U.vm ∧ U.heap = h0) (fun _ _ _ _ _ => True) (fun _ U o U' => ∃ v L, o = .returned v ∧ Q0 Z pa pb h0 n0 v U'.heap L ∧ FrameEnd U o U' L 0 0) := by
  refine MetFree.of_bodySF (plainFor_of_name pn_com_example_facl_facl_ModeSpecPartPinLaw) hisR ?_
  intro p e s m args below meth c s₁ Bd hml0 hP hK
  obtain ⟨rfl, hZ, hh⟩ := hP
  have hx := Bd.exec
  have hby := Bd.bytes
  have hml : c.maxLocals = 10 := hml0
  have hown : s.vm.findClass "com/example/facl/facl/ModeSpecPartPinLaw" = some m.cls := findClass_of_methodNamed Bd.named
  have hnm := (name_of_methodNamed Bd.named Bd.method).1
  have X0 : Stand p l e room_1 s m #[(.int pa), (.int pb)] below meth c s₁ [] 0 0 := Stand.of_body Bd
  have e0 : s₁.heap = h0 := by rw [← hh, Bd.state]; rfl
  have N0 := Fr.nil n0
  show Go p e below s (fun v h L => Q0 Z pa pb h0 n0 v h L) 0 0 _
  refine Go.pull (V := s₁.setTop (mkF m 0 #[iv pa, iv pb, .unset, .unset, .unset, .unset, .unset, .unset, .unset, .unset] [])) (fun t k => castTop (ef0 m pa pb) k) ?_
  refine Go.pull (V := s₁.setTop (mkF m 1 #[iv pa, iv pb, .unset, .unset, .unset, .unset, .unset, .unset, .unset, .unset] [(.int pa)])) (fun t k => XS.iloadN X0.here hx rfl (hb hby at_0) rfl  k) ?_
  refine Go.pull (V := s₁.setTop (mkF m 2 #[iv pa, iv pb, .unset, .unset, .unset, .unset, .unset, .unset, .unset, .unset] [(.int 3), (.int pa)])) (fun t k => XS.iconst X0.here hx rfl (hb hby at_1) k) ?_
  refine Go.pull (V := s₁.setTop (mkF m 3 #[iv pa, iv pb, .unset, .unset, .unset, .unset, .unset, .unset, .unset, .unset] [(.int (pa &&& (3 : Int32)))])) (fun t k => XS.iand X0.here hx rfl (hb hby at_2) rfl k) ?_
  refine Go.pull (V := s₁.setTop (mkF m 4 #[iv pa, iv pb, iv (pa &&& (3 : Int32)), .unset, .unset, .unset, .unset, .unset, .unset, .unset] [])) (fun t k => XS.istoreN X0.here hx rfl (hb hby at_3) rfl (l' := #[iv pa, iv pb, iv (pa &&& (3 : Int32)), .unset, .unset, .unset, .unset, .unset, .unset, .unset]) rfl k) ?_
  generalize gv1 : (pa &&& (3 : Int32)) = v1
  obtain hv1 | hv1 | hv1 | hv1 := own_and3 _ gv1
  · subst hv1
    refine Go.pull (V := s₁.setTop (mkF m 5 #[iv pa, iv pb, iv 0, .unset, .unset, .unset, .unset, .unset, .unset, .unset] [(.int pb)])) (fun t k => XS.iloadN X0.here hx rfl (hb hby at_4) rfl  k) ?_
    refine Go.pull (V := s₁.setTop (mkF m 6 #[iv pa, iv pb, iv 0, .unset, .unset, .unset, .unset, .unset, .unset, .unset] [(.int 3), (.int pb)])) (fun t k => XS.iconst X0.here hx rfl (hb hby at_5) k) ?_
    refine Go.pull (V := s₁.setTop (mkF m 7 #[iv pa, iv pb, iv 0, .unset, .unset, .unset, .unset, .unset, .unset, .unset] [(.int (pb &&& (3 : Int32)))])) (fun t k => XS.iand X0.here hx rfl (hb hby at_6) rfl k) ?_
    refine Go.pull (V := s₁.setTop (mkF m 8 #[iv pa, iv pb, iv 0, iv (pb &&& (3 : Int32)), .unset, .unset, .unset, .unset, .unset, .unset] [])) (fun t k => XS.istoreN X0.here hx rfl (hb hby at_7) rfl (l' := #[iv pa, iv pb, iv 0, iv (pb &&& (3 : Int32)), .unset, .unset, .unset, .unset, .unset, .unset]) rfl k) ?_
    generalize gv2 : (pb &&& (3 : Int32)) = v2
    obtain hv2 | hv2 | hv2 | hv2 := own_and3 _ gv2
    · subst hv2
      refine Go.pull (V := s₁.setTop (mkF m 9 #[iv pa, iv pb, iv 0, iv 0, .unset, .unset, .unset, .unset, .unset, .unset] [(.int 0)])) (fun t k => XS.iloadN X0.here hx rfl (hb hby at_8) rfl  k) ?_
      obtain ⟨_, _, ⟨T3, L3, k3, n3⟩, -, X3, ⟨Lc3, hQ3, l3, y3, z3⟩, st3⟩ := Jvm.LawKit.callS X0 hx (y := (⟨"com/example/facl/facl/ModeSpecPartPinLaw", "letter", "(I)C"⟩ : MethodName)) hown (mvT hZ (hw _ (List.mem_of_getElem? (i := 0) rfl))) (mvT hZ (hw _ (List.mem_of_getElem? (i := 1) rfl))) (mvT hZ (hw _ (List.mem_of_getElem? (i := 2) rfl))) (mvT hZ (hw _ (List.mem_of_getElem? (i := 3) rfl))) (by decide) (backOf (W := 0) (rmL l Z a0 hw [] (0 : Int32) h0 n0 ) hZ (hw _ (List.mem_of_getElem? (i := 3) rfl)) (hw _ (List.mem_of_getElem? (i := 2) rfl)) (by decide) (by decide)) (g := (mkF m 9 #[iv pa, iv pb, iv 0, iv 0, .unset, .unset, .unset, .unset, .unset, .unset] [(.int 0)])) rfl (by rw [hml]; rfl) (argsL := [(.int 0)]) (rest := []) (lenOf pd_0 rfl) rfl (by show 2 * 0 + _ ≤ _; exact Nat.le_of_eq rfl) (hb hby at_9) (fun _ _ => ⟨rfl, e0, (by decide : 0 + 0 ≤ _), (by decide : 0 + 0 ≤ _)⟩)
      dsimp only [Pt.U, Pt.locs, Pt.cells, Pt.slots] at X3 l3 y3 z3 st3 hQ3
      subst l3 y3 z3
      obtain ⟨hv3, N3q, e3⟩ := hQ3
      rw [(show (own_letter (0 : Int32)) = (117 : Int32) from by decide)] at hv3; subst hv3
      have N3 := Fr.app N0 N3q
      refine Go.pull (V := T3.setTop (mkF m 12 #[iv pa, iv pb, iv 0, iv 0, .unset, .unset, .unset, .unset, .unset, .unset] [(.int 117)])) st3 ?_
      obtain ⟨_, _, ⟨T4, L4, k4, n4⟩, -, X4, ⟨Lc4, hQ4, l4, y4, z4⟩, st4⟩ := Jvm.LawKit.callS X3 hx (y := (⟨"com/example/facl/facl/ModeSpec", "part", "(C)I"⟩ : MethodName)) hown (mvT hZ (hw _ (List.mem_of_getElem? (i := 4) rfl))) (mvT hZ (hw _ (List.mem_of_getElem? (i := 5) rfl))) (mvT hZ (hw _ (List.mem_of_getElem? (i := 6) rfl))) (mvT hZ (hw _ (List.mem_of_getElem? (i := 7) rfl))) (by decide) (backOf (W := 0) (rmP l Z a0 hw [] (117 : Int32) h0 n0 (by decide)) hZ (hw _ (List.mem_of_getElem? (i := 7) rfl)) (hw _ (List.mem_of_getElem? (i := 6) rfl)) (by decide) (by decide)) (g := (mkF m 12 #[iv pa, iv pb, iv 0, iv 0, .unset, .unset, .unset, .unset, .unset, .unset] [(.int 117)])) rfl (by rw [hml]; rfl) (argsL := [(.int 117)]) (rest := []) (lenOf pd_1 rfl) rfl (by show 2 * 0 + _ ≤ _; exact Nat.le_of_eq rfl) (hb hby at_12) (fun _ _ => ⟨rfl, e3, (by decide : 0 + 0 ≤ _), (by decide : 0 + 0 ≤ _)⟩)
      dsimp only [Pt.U, Pt.locs, Pt.cells, Pt.slots] at X4 l4 y4 z4 st4 hQ4
      subst l4 y4 z4
      obtain ⟨hv4, N4q, e4⟩ := hQ4
      rw [(show (own_part (117 : Int32)) = (448 : Int32) from by decide)] at hv4; subst hv4
      have N4 := Fr.app N3 N4q
      refine Go.pull (V := T4.setTop (mkF m 15 #[iv pa, iv pb, iv 0, iv 0, .unset, .unset, .unset, .unset, .unset, .unset] [(.int 448)])) st4 ?_
      refine Go.pull (V := T4.setTop (mkF m 17 #[iv pa, iv pb, iv 0, iv 0, iv 448, .unset, .unset, .unset, .unset, .unset] [])) (fun t k => XS.istore X4.here hx rfl (hb hby at_15) rfl (l' := #[iv pa, iv pb, iv 0, iv 0, iv 448, .unset, .unset, .unset, .unset, .unset]) rfl k) ?_
      refine Go.pull (V := T4.setTop (mkF m 18 #[iv pa, iv pb, iv 0, iv 0, iv 448, .unset, .unset, .unset, .unset, .unset] [(.int 0)])) (fun t k => XS.iloadN X4.here hx rfl (hb hby at_17) rfl  k) ?_
      obtain ⟨_, _, ⟨T5, L5, k5, n5⟩, -, X5, ⟨Lc5, hQ5, l5, y5, z5⟩, st5⟩ := Jvm.LawKit.callS X4 hx (y := (⟨"com/example/facl/facl/ModeSpecPartPinLaw", "letter", "(I)C"⟩ : MethodName)) hown (mvT hZ (hw _ (List.mem_of_getElem? (i := 0) rfl))) (mvT hZ (hw _ (List.mem_of_getElem? (i := 1) rfl))) (mvT hZ (hw _ (List.mem_of_getElem? (i := 2) rfl))) (mvT hZ (hw _ (List.mem_of_getElem? (i := 3) rfl))) (by decide) (backOf (W := 0) (rmL l Z a0 hw [] (0 : Int32) h0 n0 ) hZ (hw _ (List.mem_of_getElem? (i := 3) rfl)) (hw _ (List.mem_of_getElem? (i := 2) rfl)) (by decide) (by decide)) (g := (mkF m 18 #[iv pa, iv pb, iv 0, iv 0, iv 448, .unset, .unset, .unset, .unset, .unset] [(.int 0)])) rfl (by rw [hml]; rfl) (argsL := [(.int 0)]) (rest := []) (lenOf pd_0 rfl) rfl (by show 2 * 0 + _ ≤ _; exact Nat.le_of_eq rfl) (hb hby at_18) (fun _ _ => ⟨rfl, e4, (by decide : 0 + 0 ≤ _), (by decide : 0 + 0 ≤ _)⟩)
      dsimp only [Pt.U, Pt.locs, Pt.cells, Pt.slots] at X5 l5 y5 z5 st5 hQ5
      subst l5 y5 z5
      obtain ⟨hv5, N5q, e5⟩ := hQ5
      rw [(show (own_letter (0 : Int32)) = (117 : Int32) from by decide)] at hv5; subst hv5
      have N5 := Fr.app N4 N5q
      refine Go.pull (V := T5.setTop (mkF m 21 #[iv pa, iv pb, iv 0, iv 0, iv 448, .unset, .unset, .unset, .unset, .unset] [(.int 117)])) st5 ?_
      obtain ⟨_, _, ⟨T6, L6, k6, n6⟩, -, X6, ⟨Lc6, hQ6, l6, y6, z6⟩, st6⟩ := Jvm.LawKit.callS X5 hx (y := (⟨"com/example/facl/facl/ModeSpec", "part", "(C)I"⟩ : MethodName)) hown (mvT hZ (hw _ (List.mem_of_getElem? (i := 4) rfl))) (mvT hZ (hw _ (List.mem_of_getElem? (i := 5) rfl))) (mvT hZ (hw _ (List.mem_of_getElem? (i := 6) rfl))) (mvT hZ (hw _ (List.mem_of_getElem? (i := 7) rfl))) (by decide) (backOf (W := 0) (rmP l Z a0 hw [] (117 : Int32) h0 n0 (by decide)) hZ (hw _ (List.mem_of_getElem? (i := 7) rfl)) (hw _ (List.mem_of_getElem? (i := 6) rfl)) (by decide) (by decide)) (g := (mkF m 21 #[iv pa, iv pb, iv 0, iv 0, iv 448, .unset, .unset, .unset, .unset, .unset] [(.int 117)])) rfl (by rw [hml]; rfl) (argsL := [(.int 117)]) (rest := []) (lenOf pd_1 rfl) rfl (by show 2 * 0 + _ ≤ _; exact Nat.le_of_eq rfl) (hb hby at_21) (fun _ _ => ⟨rfl, e5, (by decide : 0 + 0 ≤ _), (by decide : 0 + 0 ≤ _)⟩)
      dsimp only [Pt.U, Pt.locs, Pt.cells, Pt.slots] at X6 l6 y6 z6 st6 hQ6
      subst l6 y6 z6
      obtain ⟨hv6, N6q, e6⟩ := hQ6
      rw [(show (own_part (117 : Int32)) = (448 : Int32) from by decide)] at hv6; subst hv6
      have N6 := Fr.app N5 N6q
      refine Go.pull (V := T6.setTop (mkF m 24 #[iv pa, iv pb, iv 0, iv 0, iv 448, .unset, .unset, .unset, .unset, .unset] [(.int 448)])) st6 ?_
      refine Go.pull (V := T6.setTop (mkF m 26 #[iv pa, iv pb, iv 0, iv 0, iv 448, iv 448, .unset, .unset, .unset, .unset] [])) (fun t k => XS.istore X6.here hx rfl (hb hby at_24) rfl (l' := #[iv pa, iv pb, iv 0, iv 0, iv 448, iv 448, .unset, .unset, .unset, .unset]) rfl k) ?_
      refine Go.pull (V := T6.setTop (mkF m 28 #[iv pa, iv pb, iv 0, iv 0, iv 448, iv 448, .unset, .unset, .unset, .unset] [(.int 117)])) (fun t k => XS.bipush X6.here hx rfl (hb hby at_26) k) ?_
      obtain ⟨_, _, ⟨T7, L7, k7, n7⟩, -, X7, ⟨Lc7, hQ7, l7, y7, z7⟩, st7⟩ := Jvm.LawKit.callS X6 hx (y := (⟨"com/example/facl/facl/ModeSpec", "part", "(C)I"⟩ : MethodName)) hown (mvT hZ (hw _ (List.mem_of_getElem? (i := 4) rfl))) (mvT hZ (hw _ (List.mem_of_getElem? (i := 5) rfl))) (mvT hZ (hw _ (List.mem_of_getElem? (i := 6) rfl))) (mvT hZ (hw _ (List.mem_of_getElem? (i := 7) rfl))) (by decide) (backOf (W := 0) (rmP l Z a0 hw [] (117 : Int32) h0 n0 (by decide)) hZ (hw _ (List.mem_of_getElem? (i := 7) rfl)) (hw _ (List.mem_of_getElem? (i := 6) rfl)) (by decide) (by decide)) (g := (mkF m 28 #[iv pa, iv pb, iv 0, iv 0, iv 448, iv 448, .unset, .unset, .unset, .unset] [(.int 117)])) rfl (by rw [hml]; rfl) (argsL := [(.int 117)]) (rest := []) (lenOf pd_1 rfl) rfl (by show 2 * 0 + _ ≤ _; exact Nat.le_of_eq rfl) (hb hby at_28) (fun _ _ => ⟨rfl, e6, (by decide : 0 + 0 ≤ _), (by decide : 0 + 0 ≤ _)⟩)
      dsimp only [Pt.U, Pt.locs, Pt.cells, Pt.slots] at X7 l7 y7 z7 st7 hQ7
      subst l7 y7 z7
      obtain ⟨hv7, N7q, e7⟩ := hQ7
      rw [(show (own_part (117 : Int32)) = (448 : Int32) from by decide)] at hv7; subst hv7
      have N7 := Fr.app N6 N7q
      refine Go.pull (V := T7.setTop (mkF m 31 #[iv pa, iv pb, iv 0, iv 0, iv 448, iv 448, .unset, .unset, .unset, .unset] [(.int 448)])) st7 ?_
      refine Go.pull (V := T7.setTop (mkF m 33 #[iv pa, iv pb, iv 0, iv 0, iv 448, iv 448, iv 448, .unset, .unset, .unset] [])) (fun t k => XS.istore X7.here hx rfl (hb hby at_31) rfl (l' := #[iv pa, iv pb, iv 0, iv 0, iv 448, iv 448, iv 448, .unset, .unset, .unset]) rfl k) ?_
      refine Go.pull (V := T7.setTop (mkF m 35 #[iv pa, iv pb, iv 0, iv 0, iv 448, iv 448, iv 448, .unset, .unset, .unset] [(.int 103)])) (fun t k => XS.bipush X7.here hx rfl (hb hby at_33) k) ?_
      obtain ⟨_, _, ⟨T8, L8, k8, n8⟩, -, X8, ⟨Lc8, hQ8, l8, y8, z8⟩, st8⟩ := Jvm.LawKit.callS X7 hx (y := (⟨"com/example/facl/facl/ModeSpec", "part", "(C)I"⟩ : MethodName)) hown (mvT hZ (hw _ (List.mem_of_getElem? (i := 4) rfl))) (mvT hZ (hw _ (List.mem_of_getElem? (i := 5) rfl))) (mvT hZ (hw _ (List.mem_of_getElem? (i := 6) rfl))) (mvT hZ (hw _ (List.mem_of_getElem? (i := 7) rfl))) (by decide) (backOf (W := 0) (rmP l Z a0 hw [] (103 : Int32) h0 n0 (by decide)) hZ (hw _ (List.mem_of_getElem? (i := 7) rfl)) (hw _ (List.mem_of_getElem? (i := 6) rfl)) (by decide) (by decide)) (g := (mkF m 35 #[iv pa, iv pb, iv 0, iv 0, iv 448, iv 448, iv 448, .unset, .unset, .unset] [(.int 103)])) rfl (by rw [hml]; rfl) (argsL := [(.int 103)]) (rest := []) (lenOf pd_1 rfl) rfl (by show 2 * 0 + _ ≤ _; exact Nat.le_of_eq rfl) (hb hby at_35) (fun _ _ => ⟨rfl, e7, (by decide : 0 + 0 ≤ _), (by decide : 0 + 0 ≤ _)⟩)
      dsimp only [Pt.U, Pt.locs, Pt.cells, Pt.slots] at X8 l8 y8 z8 st8 hQ8
      subst l8 y8 z8
      obtain ⟨hv8, N8q, e8⟩ := hQ8
      rw [(show (own_part (103 : Int32)) = (56 : Int32) from by decide)] at hv8; subst hv8
      have N8 := Fr.app N7 N8q
      refine Go.pull (V := T8.setTop (mkF m 38 #[iv pa, iv pb, iv 0, iv 0, iv 448, iv 448, iv 448, .unset, .unset, .unset] [(.int 56)])) st8 ?_
      refine Go.pull (V := T8.setTop (mkF m 40 #[iv pa, iv pb, iv 0, iv 0, iv 448, iv 448, iv 448, iv 56, .unset, .unset] [])) (fun t k => XS.istore X8.here hx rfl (hb hby at_38) rfl (l' := #[iv pa, iv pb, iv 0, iv 0, iv 448, iv 448, iv 448, iv 56, .unset, .unset]) rfl k) ?_
      refine Go.pull (V := T8.setTop (mkF m 42 #[iv pa, iv pb, iv 0, iv 0, iv 448, iv 448, iv 448, iv 56, .unset, .unset] [(.int 111)])) (fun t k => XS.bipush X8.here hx rfl (hb hby at_40) k) ?_
      obtain ⟨_, _, ⟨T9, L9, k9, n9⟩, -, X9, ⟨Lc9, hQ9, l9, y9, z9⟩, st9⟩ := Jvm.LawKit.callS X8 hx (y := (⟨"com/example/facl/facl/ModeSpec", "part", "(C)I"⟩ : MethodName)) hown (mvT hZ (hw _ (List.mem_of_getElem? (i := 4) rfl))) (mvT hZ (hw _ (List.mem_of_getElem? (i := 5) rfl))) (mvT hZ (hw _ (List.mem_of_getElem? (i := 6) rfl))) (mvT hZ (hw _ (List.mem_of_getElem? (i := 7) rfl))) (by decide) (backOf (W := 0) (rmP l Z a0 hw [] (111 : Int32) h0 n0 (by decide)) hZ (hw _ (List.mem_of_getElem? (i := 7) rfl)) (hw _ (List.mem_of_getElem? (i := 6) rfl)) (by decide) (by decide)) (g := (mkF m 42 #[iv pa, iv pb, iv 0, iv 0, iv 448, iv 448, iv 448, iv 56, .unset, .unset] [(.int 111)])) rfl (by rw [hml]; rfl) (argsL := [(.int 111)]) (rest := []) (lenOf pd_1 rfl) rfl (by show 2 * 0 + _ ≤ _; exact Nat.le_of_eq rfl) (hb hby at_42) (fun _ _ => ⟨rfl, e8, (by decide : 0 + 0 ≤ _), (by decide : 0 + 0 ≤ _)⟩)
      dsimp only [Pt.U, Pt.locs, Pt.cells, Pt.slots] at X9 l9 y9 z9 st9 hQ9
      subst l9 y9 z9
      obtain ⟨hv9, N9q, e9⟩ := hQ9
      rw [(show (own_part (111 : Int32)) = (519 : Int32) from by decide)] at hv9; subst hv9
      have N9 := Fr.app N8 N9q
      refine Go.pull (V := T9.setTop (mkF m 45 #[iv pa, iv pb, iv 0, iv 0, iv 448, iv 448, iv 448, iv 56, .unset, .unset] [(.int 519)])) st9 ?_
      refine Go.pull (V := T9.setTop (mkF m 47 #[iv pa, iv pb, iv 0, iv 0, iv 448, iv 448, iv 448, iv 56, iv 519, .unset] [])) (fun t k => XS.istore X9.here hx rfl (hb hby at_45) rfl (l' := #[iv pa, iv pb, iv 0, iv 0, iv 448, iv 448, iv 448, iv 56, iv 519, .unset]) rfl k) ?_
      refine Go.pull (V := T9.setTop (mkF m 49 #[iv pa, iv pb, iv 0, iv 0, iv 448, iv 448, iv 448, iv 56, iv 519, .unset] [(.int 97)])) (fun t k => XS.bipush X9.here hx rfl (hb hby at_47) k) ?_
      obtain ⟨_, _, ⟨T10, L10, k10, n10⟩, -, X10, ⟨Lc10, hQ10, l10, y10, z10⟩, st10⟩ := Jvm.LawKit.callS X9 hx (y := (⟨"com/example/facl/facl/ModeSpec", "part", "(C)I"⟩ : MethodName)) hown (mvT hZ (hw _ (List.mem_of_getElem? (i := 4) rfl))) (mvT hZ (hw _ (List.mem_of_getElem? (i := 5) rfl))) (mvT hZ (hw _ (List.mem_of_getElem? (i := 6) rfl))) (mvT hZ (hw _ (List.mem_of_getElem? (i := 7) rfl))) (by decide) (backOf (W := 0) (rmP l Z a0 hw [] (97 : Int32) h0 n0 (by decide)) hZ (hw _ (List.mem_of_getElem? (i := 7) rfl)) (hw _ (List.mem_of_getElem? (i := 6) rfl)) (by decide) (by decide)) (g := (mkF m 49 #[iv pa, iv pb, iv 0, iv 0, iv 448, iv 448, iv 448, iv 56, iv 519, .unset] [(.int 97)])) rfl (by rw [hml]; rfl) (argsL := [(.int 97)]) (rest := []) (lenOf pd_1 rfl) rfl (by show 2 * 0 + _ ≤ _; exact Nat.le_of_eq rfl) (hb hby at_49) (fun _ _ => ⟨rfl, e9, (by decide : 0 + 0 ≤ _), (by decide : 0 + 0 ≤ _)⟩)
      dsimp only [Pt.U, Pt.locs, Pt.cells, Pt.slots] at X10 l10 y10 z10 st10 hQ10
      subst l10 y10 z10
      obtain ⟨hv10, N10q, e10⟩ := hQ10
      rw [(show (own_part (97 : Int32)) = (1023 : Int32) from by decide)] at hv10; subst hv10
      have N10 := Fr.app N9 N10q
      refine Go.pull (V := T10.setTop (mkF m 52 #[iv pa, iv pb, iv 0, iv 0, iv 448, iv 448, iv 448, iv 56, iv 519, .unset] [(.int 1023)])) st10 ?_
      refine Go.pull (V := T10.setTop (mkF m 54 #[iv pa, iv pb, iv 0, iv 0, iv 448, iv 448, iv 448, iv 56, iv 519, iv 1023] [])) (fun t k => XS.istore X10.here hx rfl (hb hby at_52) rfl (l' := #[iv pa, iv pb, iv 0, iv 0, iv 448, iv 448, iv 448, iv 56, iv 519, iv 1023]) rfl k) ?_
      refine Go.pull (V := T10.setTop (mkF m 56 #[iv pa, iv pb, iv 0, iv 0, iv 448, iv 448, iv 448, iv 56, iv 519, iv 1023] [(.int 448)])) (fun t k => XS.iload X10.here hx rfl (hb hby at_54) rfl  k) ?_
      refine Go.pull (V := T10.setTop (mkF m 57 #[iv pa, iv pb, iv 0, iv 0, iv 448, iv 448, iv 448, iv 56, iv 519, iv 1023] [(.int 0), (.int 448)])) (fun t k => XS.iloadN X10.here hx rfl (hb hby at_56) rfl  k) ?_
      obtain ⟨_, _, ⟨T11, L11, k11, n11⟩, -, X11, ⟨Lc11, hQ11, l11, y11, z11⟩, st11⟩ := Jvm.LawKit.callS X10 hx (y := (⟨"com/example/facl/facl/ModeSpecPartPinLaw", "expected", "(I)I"⟩ : MethodName)) hown (mvT hZ (hw _ (List.mem_of_getElem? (i := 8) rfl))) (mvT hZ (hw _ (List.mem_of_getElem? (i := 9) rfl))) (mvT hZ (hw _ (List.mem_of_getElem? (i := 2) rfl))) (mvT hZ (hw _ (List.mem_of_getElem? (i := 10) rfl))) (by decide) (backOf (W := 1) (rmX l Z a0 hw [] (0 : Int32) h0 n0 ) hZ (hw _ (List.mem_of_getElem? (i := 10) rfl)) (hw _ (List.mem_of_getElem? (i := 2) rfl)) (by decide) (by decide)) (g := (mkF m 57 #[iv pa, iv pb, iv 0, iv 0, iv 448, iv 448, iv 448, iv 56, iv 519, iv 1023] [(.int 0), (.int 448)])) rfl (by rw [hml]; rfl) (argsL := [(.int 0)]) (rest := [(.int 448)]) (lenOf pd_2 rfl) rfl (by show 2 * 0 + _ ≤ _; exact Nat.le_of_eq rfl) (hb hby at_57) (fun _ _ => ⟨rfl, e10, (by decide : 0 + 0 ≤ _), (by decide : 0 + 0 ≤ _)⟩)
      dsimp only [Pt.U, Pt.locs, Pt.cells, Pt.slots] at X11 l11 y11 z11 st11 hQ11
      subst l11 y11 z11
      obtain ⟨hv11, N11q, e11⟩ := hQ11
      rw [(show (own_expected (0 : Int32)) = (448 : Int32) from by decide)] at hv11; subst hv11
      have N11 := Fr.app N10 N11q
      refine Go.pull (V := T11.setTop (mkF m 60 #[iv pa, iv pb, iv 0, iv 0, iv 448, iv 448, iv 448, iv 56, iv 519, iv 1023] [(.int 448), (.int 448)])) st11 ?_
      refine Go.pull (V := T11.setTop (mkF m 63 #[iv pa, iv pb, iv 0, iv 0, iv 448, iv 448, iv 448, iv 56, iv 519, iv 1023] [])) (fun t k => XS.icmpNo X11.here hx rfl (hb hby at_60) rfl (XT.ii_ne_f (by decide)) k) ?_
      refine Go.pull (V := T11.setTop (mkF m 65 #[iv pa, iv pb, iv 0, iv 0, iv 448, iv 448, iv 448, iv 56, iv 519, iv 1023] [(.int 448)])) (fun t k => XS.iload X11.here hx rfl (hb hby at_63) rfl  k) ?_
      refine Go.pull (V := T11.setTop (mkF m 66 #[iv pa, iv pb, iv 0, iv 0, iv 448, iv 448, iv 448, iv 56, iv 519, iv 1023] [(.int 0), (.int 448)])) (fun t k => XS.iloadN X11.here hx rfl (hb hby at_65) rfl  k) ?_
      obtain ⟨_, _, ⟨T12, L12, k12, n12⟩, -, X12, ⟨Lc12, hQ12, l12, y12, z12⟩, st12⟩ := Jvm.LawKit.callS X11 hx (y := (⟨"com/example/facl/facl/ModeSpecPartPinLaw", "expected", "(I)I"⟩ : MethodName)) hown (mvT hZ (hw _ (List.mem_of_getElem? (i := 8) rfl))) (mvT hZ (hw _ (List.mem_of_getElem? (i := 9) rfl))) (mvT hZ (hw _ (List.mem_of_getElem? (i := 2) rfl))) (mvT hZ (hw _ (List.mem_of_getElem? (i := 10) rfl))) (by decide) (backOf (W := 1) (rmX l Z a0 hw [] (0 : Int32) h0 n0 ) hZ (hw _ (List.mem_of_getElem? (i := 10) rfl)) (hw _ (List.mem_of_getElem? (i := 2) rfl)) (by decide) (by decide)) (g := (mkF m 66 #[iv pa, iv pb, iv 0, iv 0, iv 448, iv 448, iv 448, iv 56, iv 519, iv 1023] [(.int 0), (.int 448)])) rfl (by rw [hml]; rfl) (argsL := [(.int 0)]) (rest := [(.int 448)]) (lenOf pd_2 rfl) rfl (by show 2 * 0 + _ ≤ _; exact Nat.le_of_eq rfl) (hb hby at_66) (fun _ _ => ⟨rfl, e11, (by decide : 0 + 0 ≤ _), (by decide : 0 + 0 ≤ _)⟩)
      dsimp only [Pt.U, Pt.locs, Pt.cells, Pt.slots] at X12 l12 y12 z12 st12 hQ12
      subst l12 y12 z12
      obtain ⟨hv12, N12q, e12⟩ := hQ12
      rw [(show (own_expected (0 : Int32)) = (448 : Int32) from by decide)] at hv12; subst hv12
      have N12 := Fr.app N11 N12q
      refine Go.pull (V := T12.setTop (mkF m 69 #[iv pa, iv pb, iv 0, iv 0, iv 448, iv 448, iv 448, iv 56, iv 519, iv 1023] [(.int 448), (.int 448)])) st12 ?_
      refine Go.pull (V := T12.setTop (mkF m 74 #[iv pa, iv pb, iv 0, iv 0, iv 448, iv 448, iv 448, iv 56, iv 519, iv 1023] [])) (fun t k => XS.icmpYes X12.here hx rfl (pc0 := 69) (pc' := 74) rfl (hb hby at_69) rfl (XT.ii_eq_t (by decide)) (by decide) (by decide) k) ?_
      refine Go.pull (V := T12.setTop (mkF m 76 #[iv pa, iv pb, iv 0, iv 0, iv 448, iv 448, iv 448, iv 56, iv 519, iv 1023] [(.int 448)])) (fun t k => XS.iload X12.here hx rfl (hb hby at_74) rfl  k) ?_
      refine Go.pull (V := T12.setTop (mkF m 79 #[iv pa, iv pb, iv 0, iv 0, iv 448, iv 448, iv 448, iv 56, iv 519, iv 1023] [(.int (-1024)), (.int 448)])) (fun t k => XS.sipush X12.here hx rfl (hb hby at_76) k) ?_
      refine Go.pull (V := T12.setTop (mkF m 80 #[iv pa, iv pb, iv 0, iv 0, iv 448, iv 448, iv 448, iv 56, iv 519, iv 1023] [(.int 0)])) (fun t k => XS.iand X12.here hx rfl (hb hby at_79) rfl k) ?_
      refine Go.pull (V := T12.setTop (mkF m 83 #[iv pa, iv pb, iv 0, iv 0, iv 448, iv 448, iv 448, iv 56, iv 519, iv 1023] [])) (fun t k => XS.ifNo X12.here hx rfl (hb hby at_80) rfl (XT.i0_ne_f (by decide)) k) ?_
      refine Go.pull (V := T12.setTop (mkF m 85 #[iv pa, iv pb, iv 0, iv 0, iv 448, iv 448, iv 448, iv 56, iv 519, iv 1023] [(.int 448)])) (fun t k => XS.iload X12.here hx rfl (hb hby at_83) rfl  k) ?_
      refine Go.pull (V := T12.setTop (mkF m 88 #[iv pa, iv pb, iv 0, iv 0, iv 448, iv 448, iv 448, iv 56, iv 519, iv 1023] [(.int (-1024)), (.int 448)])) (fun t k => XS.sipush X12.here hx rfl (hb hby at_85) k) ?_
      refine Go.pull (V := T12.setTop (mkF m 89 #[iv pa, iv pb, iv 0, iv 0, iv 448, iv 448, iv 448, iv 56, iv 519, iv 1023] [(.int 0)])) (fun t k => XS.iand X12.here hx rfl (hb hby at_88) rfl k) ?_
      refine Go.pull (V := T12.setTop (mkF m 94 #[iv pa, iv pb, iv 0, iv 0, iv 448, iv 448, iv 448, iv 56, iv 519, iv 1023] [])) (fun t k => XS.ifYes X12.here hx rfl (pc0 := 89) (pc' := 94) rfl (hb hby at_89) rfl (XT.i0_eq_t (by decide)) (by decide) (by decide) k) ?_
      refine Go.pull (V := T12.setTop (mkF m 96 #[iv pa, iv pb, iv 0, iv 0, iv 448, iv 448, iv 448, iv 56, iv 519, iv 1023] [(.int 1023)])) (fun t k => XS.iload X12.here hx rfl (hb hby at_94) rfl  k) ?_
      refine Go.pull (V := T12.setTop (mkF m 99 #[iv pa, iv pb, iv 0, iv 0, iv 448, iv 448, iv 448, iv 56, iv 519, iv 1023] [(.int 1023), (.int 1023)])) (fun t k => XS.sipush X12.here hx rfl (hb hby at_96) k) ?_
      refine Go.pull (V := T12.setTop (mkF m 102 #[iv pa, iv pb, iv 0, iv 0, iv 448, iv 448, iv 448, iv 56, iv 519, iv 1023] [])) (fun t k => XS.icmpNo X12.here hx rfl (hb hby at_99) rfl (XT.ii_ne_f (by decide)) k) ?_
      refine Go.pull (V := T12.setTop (mkF m 104 #[iv pa, iv pb, iv 0, iv 0, iv 448, iv 448, iv 448, iv 56, iv 519, iv 1023] [(.int 448)])) (fun t k => XS.iload X12.here hx rfl (hb hby at_102) rfl  k) ?_
      refine Go.pull (V := T12.setTop (mkF m 106 #[iv pa, iv pb, iv 0, iv 0, iv 448, iv 448, iv 448, iv 56, iv 519, iv 1023] [(.int 56), (.int 448)])) (fun t k => XS.iload X12.here hx rfl (hb hby at_104) rfl  k) ?_
      refine Go.pull (V := T12.setTop (mkF m 107 #[iv pa, iv pb, iv 0, iv 0, iv 448, iv 448, iv 448, iv 56, iv 519, iv 1023] [(.int 504)])) (fun t k => XS.ior X12.here hx rfl (hb hby at_106) rfl k) ?_
      refine Go.pull (V := T12.setTop (mkF m 109 #[iv pa, iv pb, iv 0, iv 0, iv 448, iv 448, iv 448, iv 56, iv 519, iv 1023] [(.int 519), (.int 504)])) (fun t k => XS.iload X12.here hx rfl (hb hby at_107) rfl  k) ?_
      refine Go.pull (V := T12.setTop (mkF m 110 #[iv pa, iv pb, iv 0, iv 0, iv 448, iv 448, iv 448, iv 56, iv 519, iv 1023] [(.int 1023)])) (fun t k => XS.ior X12.here hx rfl (hb hby at_109) rfl k) ?_
      refine Go.pull (V := T12.setTop (mkF m 112 #[iv pa, iv pb, iv 0, iv 0, iv 448, iv 448, iv 448, iv 56, iv 519, iv 1023] [(.int 1023), (.int 1023)])) (fun t k => XS.iload X12.here hx rfl (hb hby at_110) rfl  k) ?_
      refine Go.pull (V := T12.setTop (mkF m 117 #[iv pa, iv pb, iv 0, iv 0, iv 448, iv 448, iv 448, iv 56, iv 519, iv 1023] [])) (fun t k => XS.icmpYes X12.here hx rfl (pc0 := 112) (pc' := 117) rfl (hb hby at_112) rfl (XT.ii_eq_t (by decide)) (by decide) (by decide) k) ?_
      refine Go.pull (V := T12.setTop (mkF m 119 #[iv pa, iv pb, iv 0, iv 0, iv 448, iv 448, iv 448, iv 56, iv 519, iv 1023] [(.int 448)])) (fun t k => XS.iload X12.here hx rfl (hb hby at_117) rfl  k) ?_
      refine Go.pull (V := T12.setTop (mkF m 121 #[iv pa, iv pb, iv 0, iv 0, iv 448, iv 448, iv 448, iv 56, iv 519, iv 1023] [(.int 56), (.int 448)])) (fun t k => XS.iload X12.here hx rfl (hb hby at_119) rfl  k) ?_
      refine Go.pull (V := T12.setTop (mkF m 122 #[iv pa, iv pb, iv 0, iv 0, iv 448, iv 448, iv 448, iv 56, iv 519, iv 1023] [(.int 0)])) (fun t k => XS.iand X12.here hx rfl (hb hby at_121) rfl k) ?_
      refine Go.pull (V := T12.setTop (mkF m 125 #[iv pa, iv pb, iv 0, iv 0, iv 448, iv 448, iv 448, iv 56, iv 519, iv 1023] [])) (fun t k => XS.ifNo X12.here hx rfl (hb hby at_122) rfl (XT.i0_ne_f (by decide)) k) ?_
      refine Go.pull (V := T12.setTop (mkF m 127 #[iv pa, iv pb, iv 0, iv 0, iv 448, iv 448, iv 448, iv 56, iv 519, iv 1023] [(.int 448)])) (fun t k => XS.iload X12.here hx rfl (hb hby at_125) rfl  k) ?_
      refine Go.pull (V := T12.setTop (mkF m 129 #[iv pa, iv pb, iv 0, iv 0, iv 448, iv 448, iv 448, iv 56, iv 519, iv 1023] [(.int 519), (.int 448)])) (fun t k => XS.iload X12.here hx rfl (hb hby at_127) rfl  k) ?_
      refine Go.pull (V := T12.setTop (mkF m 130 #[iv pa, iv pb, iv 0, iv 0, iv 448, iv 448, iv 448, iv 56, iv 519, iv 1023] [(.int 0)])) (fun t k => XS.iand X12.here hx rfl (hb hby at_129) rfl k) ?_
      refine Go.pull (V := T12.setTop (mkF m 133 #[iv pa, iv pb, iv 0, iv 0, iv 448, iv 448, iv 448, iv 56, iv 519, iv 1023] [])) (fun t k => XS.ifNo X12.here hx rfl (hb hby at_130) rfl (XT.i0_ne_f (by decide)) k) ?_
      refine Go.pull (V := T12.setTop (mkF m 135 #[iv pa, iv pb, iv 0, iv 0, iv 448, iv 448, iv 448, iv 56, iv 519, iv 1023] [(.int 56)])) (fun t k => XS.iload X12.here hx rfl (hb hby at_133) rfl  k) ?_
      refine Go.pull (V := T12.setTop (mkF m 137 #[iv pa, iv pb, iv 0, iv 0, iv 448, iv 448, iv 448, iv 56, iv 519, iv 1023] [(.int 519), (.int 56)])) (fun t k => XS.iload X12.here hx rfl (hb hby at_135) rfl  k) ?_
      refine Go.pull (V := T12.setTop (mkF m 138 #[iv pa, iv pb, iv 0, iv 0, iv 448, iv 448, iv 448, iv 56, iv 519, iv 1023] [(.int 0)])) (fun t k => XS.iand X12.here hx rfl (hb hby at_137) rfl k) ?_
      refine Go.pull (V := T12.setTop (mkF m 143 #[iv pa, iv pb, iv 0, iv 0, iv 448, iv 448, iv 448, iv 56, iv 519, iv 1023] [])) (fun t k => XS.ifYes X12.here hx rfl (pc0 := 138) (pc' := 143) rfl (hb hby at_138) rfl (XT.i0_eq_t (by decide)) (by decide) (by decide) k) ?_
      refine Go.pull (V := T12.setTop (mkF m 144 #[iv pa, iv pb, iv 0, iv 0, iv 448, iv 448, iv 448, iv 56, iv 519, iv 1023] [(.int 0)])) (fun t k => XS.iloadN X12.here hx rfl (hb hby at_143) rfl  k) ?_
      refine Go.pull (V := T12.setTop (mkF m 145 #[iv pa, iv pb, iv 0, iv 0, iv 448, iv 448, iv 448, iv 56, iv 519, iv 1023] [(.int 0), (.int 0)])) (fun t k => XS.iloadN X12.here hx rfl (hb hby at_144) rfl  k) ?_
      refine Go.pull (V := T12.setTop (mkF m 168 #[iv pa, iv pb, iv 0, iv 0, iv 448, iv 448, iv 448, iv 56, iv 519, iv 1023] [])) (fun t k => XS.icmpYes X12.here hx rfl (pc0 := 145) (pc' := 168) rfl (hb hby at_145) rfl (XT.ii_eq_t (by decide)) (by decide) (by decide) k) ?_
      refine Go.pull (V := T12.setTop (mkF m 170 #[iv pa, iv pb, iv 0, iv 0, iv 448, iv 448, iv 448, iv 56, iv 519, iv 1023] [(.int 519)])) (fun t k => XS.iload X12.here hx rfl (hb hby at_168) rfl  k) ?_
      refine Go.pull (V := T12.setTop (mkF m 173 #[iv pa, iv pb, iv 0, iv 0, iv 448, iv 448, iv 448, iv 56, iv 519, iv 1023] [(.int 512), (.int 519)])) (fun t k => XS.sipush X12.here hx rfl (hb hby at_170) k) ?_
      refine Go.pull (V := T12.setTop (mkF m 174 #[iv pa, iv pb, iv 0, iv 0, iv 448, iv 448, iv 448, iv 56, iv 519, iv 1023] [(.int 512)])) (fun t k => XS.iand X12.here hx rfl (hb hby at_173) rfl k) ?_
      refine Go.pull (V := T12.setTop (mkF m 177 #[iv pa, iv pb, iv 0, iv 0, iv 448, iv 448, iv 448, iv 56, iv 519, iv 1023] [])) (fun t k => XS.ifNo X12.here hx rfl (hb hby at_174) rfl (XT.i0_eq_f (by decide)) k) ?_
      refine Go.pull (V := T12.setTop (mkF m 179 #[iv pa, iv pb, iv 0, iv 0, iv 448, iv 448, iv 448, iv 56, iv 519, iv 1023] [(.int 448)])) (fun t k => XS.iload X12.here hx rfl (hb hby at_177) rfl  k) ?_
      refine Go.pull (V := T12.setTop (mkF m 181 #[iv pa, iv pb, iv 0, iv 0, iv 448, iv 448, iv 448, iv 56, iv 519, iv 1023] [(.int 56), (.int 448)])) (fun t k => XS.iload X12.here hx rfl (hb hby at_179) rfl  k) ?_
      refine Go.pull (V := T12.setTop (mkF m 182 #[iv pa, iv pb, iv 0, iv 0, iv 448, iv 448, iv 448, iv 56, iv 519, iv 1023] [(.int 504)])) (fun t k => XS.ior X12.here hx rfl (hb hby at_181) rfl k) ?_
      refine Go.pull (V := T12.setTop (mkF m 185 #[iv pa, iv pb, iv 0, iv 0, iv 448, iv 448, iv 448, iv 56, iv 519, iv 1023] [(.int 512), (.int 504)])) (fun t k => XS.sipush X12.here hx rfl (hb hby at_182) k) ?_
      refine Go.pull (V := T12.setTop (mkF m 186 #[iv pa, iv pb, iv 0, iv 0, iv 448, iv 448, iv 448, iv 56, iv 519, iv 1023] [(.int 0)])) (fun t k => XS.iand X12.here hx rfl (hb hby at_185) rfl k) ?_
      refine Go.pull (V := T12.setTop (mkF m 191 #[iv pa, iv pb, iv 0, iv 0, iv 448, iv 448, iv 448, iv 56, iv 519, iv 1023] [])) (fun t k => XS.ifYes X12.here hx rfl (pc0 := 186) (pc' := 191) rfl (hb hby at_186) rfl (XT.i0_eq_t (by decide)) (by decide) (by decide) k) ?_
      refine Go.pull (V := T12.setTop (mkF m 192 #[iv pa, iv pb, iv 0, iv 0, iv 448, iv 448, iv 448, iv 56, iv 519, iv 1023] [(.int 1)])) (fun t k => XS.iconst X12.here hx rfl (hb hby at_191) k) ?_
      exact Go.retN X12 hx Bd.notSynchronized (t := .boolean) Bd.returns (by simp) (hb hby at_192) ⟨rfl, N12⟩ (by decide) (by decide)
    · subst hv2
      refine Go.pull (V := s₁.setTop (mkF m 9 #[iv pa, iv pb, iv 0, iv 1, .unset, .unset, .unset, .unset, .unset, .unset] [(.int 0)])) (fun t k => XS.iloadN X0.here hx rfl (hb hby at_8) rfl  k) ?_
      obtain ⟨_, _, ⟨T13, L13, k13, n13⟩, -, X13, ⟨Lc13, hQ13, l13, y13, z13⟩, st13⟩ := Jvm.LawKit.callS X0 hx (y := (⟨"com/example/facl/facl/ModeSpecPartPinLaw", "letter", "(I)C"⟩ : MethodName)) hown (mvT hZ (hw _ (List.mem_of_getElem? (i := 0) rfl))) (mvT hZ (hw _ (List.mem_of_getElem? (i := 1) rfl))) (mvT hZ (hw _ (List.mem_of_getElem? (i := 2) rfl))) (mvT hZ (hw _ (List.mem_of_getElem? (i := 3) rfl))) (by decide) (backOf (W := 0) (rmL l Z a0 hw [] (0 : Int32) h0 n0 ) hZ (hw _ (List.mem_of_getElem? (i := 3) rfl)) (hw _ (List.mem_of_getElem? (i := 2) rfl)) (by decide) (by decide)) (g := (mkF m 9 #[iv pa, iv pb, iv 0, iv 1, .unset, .unset, .unset, .unset, .unset, .unset] [(.int 0)])) rfl (by rw [hml]; rfl) (argsL := [(.int 0)]) (rest := []) (lenOf pd_0 rfl) rfl (by show 2 * 0 + _ ≤ _; exact Nat.le_of_eq rfl) (hb hby at_9) (fun _ _ => ⟨rfl, e0, (by decide : 0 + 0 ≤ _), (by decide : 0 + 0 ≤ _)⟩)
      dsimp only [Pt.U, Pt.locs, Pt.cells, Pt.slots] at X13 l13 y13 z13 st13 hQ13
      subst l13 y13 z13
      obtain ⟨hv13, N13q, e13⟩ := hQ13
      rw [(show (own_letter (0 : Int32)) = (117 : Int32) from by decide)] at hv13; subst hv13
      have N13 := Fr.app N0 N13q
      refine Go.pull (V := T13.setTop (mkF m 12 #[iv pa, iv pb, iv 0, iv 1, .unset, .unset, .unset, .unset, .unset, .unset] [(.int 117)])) st13 ?_
      obtain ⟨_, _, ⟨T14, L14, k14, n14⟩, -, X14, ⟨Lc14, hQ14, l14, y14, z14⟩, st14⟩ := Jvm.LawKit.callS X13 hx (y := (⟨"com/example/facl/facl/ModeSpec", "part", "(C)I"⟩ : MethodName)) hown (mvT hZ (hw _ (List.mem_of_getElem? (i := 4) rfl))) (mvT hZ (hw _ (List.mem_of_getElem? (i := 5) rfl))) (mvT hZ (hw _ (List.mem_of_getElem? (i := 6) rfl))) (mvT hZ (hw _ (List.mem_of_getElem? (i := 7) rfl))) (by decide) (backOf (W := 0) (rmP l Z a0 hw [] (117 : Int32) h0 n0 (by decide)) hZ (hw _ (List.mem_of_getElem? (i := 7) rfl)) (hw _ (List.mem_of_getElem? (i := 6) rfl)) (by decide) (by decide)) (g := (mkF m 12 #[iv pa, iv pb, iv 0, iv 1, .unset, .unset, .unset, .unset, .unset, .unset] [(.int 117)])) rfl (by rw [hml]; rfl) (argsL := [(.int 117)]) (rest := []) (lenOf pd_1 rfl) rfl (by show 2 * 0 + _ ≤ _; exact Nat.le_of_eq rfl) (hb hby at_12) (fun _ _ => ⟨rfl, e13, (by decide : 0 + 0 ≤ _), (by decide : 0 + 0 ≤ _)⟩)
      dsimp only [Pt.U, Pt.locs, Pt.cells, Pt.slots] at X14 l14 y14 z14 st14 hQ14
      subst l14 y14 z14
      obtain ⟨hv14, N14q, e14⟩ := hQ14
      rw [(show (own_part (117 : Int32)) = (448 : Int32) from by decide)] at hv14; subst hv14
      have N14 := Fr.app N13 N14q
      refine Go.pull (V := T14.setTop (mkF m 15 #[iv pa, iv pb, iv 0, iv 1, .unset, .unset, .unset, .unset, .unset, .unset] [(.int 448)])) st14 ?_
      refine Go.pull (V := T14.setTop (mkF m 17 #[iv pa, iv pb, iv 0, iv 1, iv 448, .unset, .unset, .unset, .unset, .unset] [])) (fun t k => XS.istore X14.here hx rfl (hb hby at_15) rfl (l' := #[iv pa, iv pb, iv 0, iv 1, iv 448, .unset, .unset, .unset, .unset, .unset]) rfl k) ?_
      refine Go.pull (V := T14.setTop (mkF m 18 #[iv pa, iv pb, iv 0, iv 1, iv 448, .unset, .unset, .unset, .unset, .unset] [(.int 1)])) (fun t k => XS.iloadN X14.here hx rfl (hb hby at_17) rfl  k) ?_
      obtain ⟨_, _, ⟨T15, L15, k15, n15⟩, -, X15, ⟨Lc15, hQ15, l15, y15, z15⟩, st15⟩ := Jvm.LawKit.callS X14 hx (y := (⟨"com/example/facl/facl/ModeSpecPartPinLaw", "letter", "(I)C"⟩ : MethodName)) hown (mvT hZ (hw _ (List.mem_of_getElem? (i := 0) rfl))) (mvT hZ (hw _ (List.mem_of_getElem? (i := 1) rfl))) (mvT hZ (hw _ (List.mem_of_getElem? (i := 2) rfl))) (mvT hZ (hw _ (List.mem_of_getElem? (i := 3) rfl))) (by decide) (backOf (W := 0) (rmL l Z a0 hw [] (1 : Int32) h0 n0 ) hZ (hw _ (List.mem_of_getElem? (i := 3) rfl)) (hw _ (List.mem_of_getElem? (i := 2) rfl)) (by decide) (by decide)) (g := (mkF m 18 #[iv pa, iv pb, iv 0, iv 1, iv 448, .unset, .unset, .unset, .unset, .unset] [(.int 1)])) rfl (by rw [hml]; rfl) (argsL := [(.int 1)]) (rest := []) (lenOf pd_0 rfl) rfl (by show 2 * 0 + _ ≤ _; exact Nat.le_of_eq rfl) (hb hby at_18) (fun _ _ => ⟨rfl, e14, (by decide : 0 + 0 ≤ _), (by decide : 0 + 0 ≤ _)⟩)
      dsimp only [Pt.U, Pt.locs, Pt.cells, Pt.slots] at X15 l15 y15 z15 st15 hQ15
      subst l15 y15 z15
      obtain ⟨hv15, N15q, e15⟩ := hQ15
      rw [(show (own_letter (1 : Int32)) = (103 : Int32) from by decide)] at hv15; subst hv15
      have N15 := Fr.app N14 N15q
      refine Go.pull (V := T15.setTop (mkF m 21 #[iv pa, iv pb, iv 0, iv 1, iv 448, .unset, .unset, .unset, .unset, .unset] [(.int 103)])) st15 ?_
      obtain ⟨_, _, ⟨T16, L16, k16, n16⟩, -, X16, ⟨Lc16, hQ16, l16, y16, z16⟩, st16⟩ := Jvm.LawKit.callS X15 hx (y := (⟨"com/example/facl/facl/ModeSpec", "part", "(C)I"⟩ : MethodName)) hown (mvT hZ (hw _ (List.mem_of_getElem? (i := 4) rfl))) (mvT hZ (hw _ (List.mem_of_getElem? (i := 5) rfl))) (mvT hZ (hw _ (List.mem_of_getElem? (i := 6) rfl))) (mvT hZ (hw _ (List.mem_of_getElem? (i := 7) rfl))) (by decide) (backOf (W := 0) (rmP l Z a0 hw [] (103 : Int32) h0 n0 (by decide)) hZ (hw _ (List.mem_of_getElem? (i := 7) rfl)) (hw _ (List.mem_of_getElem? (i := 6) rfl)) (by decide) (by decide)) (g := (mkF m 21 #[iv pa, iv pb, iv 0, iv 1, iv 448, .unset, .unset, .unset, .unset, .unset] [(.int 103)])) rfl (by rw [hml]; rfl) (argsL := [(.int 103)]) (rest := []) (lenOf pd_1 rfl) rfl (by show 2 * 0 + _ ≤ _; exact Nat.le_of_eq rfl) (hb hby at_21) (fun _ _ => ⟨rfl, e15, (by decide : 0 + 0 ≤ _), (by decide : 0 + 0 ≤ _)⟩)
      dsimp only [Pt.U, Pt.locs, Pt.cells, Pt.slots] at X16 l16 y16 z16 st16 hQ16
      subst l16 y16 z16
      obtain ⟨hv16, N16q, e16⟩ := hQ16
      rw [(show (own_part (103 : Int32)) = (56 : Int32) from by decide)] at hv16; subst hv16
      have N16 := Fr.app N15 N16q
      refine Go.pull (V := T16.setTop (mkF m 24 #[iv pa, iv pb, iv 0, iv 1, iv 448, .unset, .unset, .unset, .unset, .unset] [(.int 56)])) st16 ?_
      refine Go.pull (V := T16.setTop (mkF m 26 #[iv pa, iv pb, iv 0, iv 1, iv 448, iv 56, .unset, .unset, .unset, .unset] [])) (fun t k => XS.istore X16.here hx rfl (hb hby at_24) rfl (l' := #[iv pa, iv pb, iv 0, iv 1, iv 448, iv 56, .unset, .unset, .unset, .unset]) rfl k) ?_
      refine Go.pull (V := T16.setTop (mkF m 28 #[iv pa, iv pb, iv 0, iv 1, iv 448, iv 56, .unset, .unset, .unset, .unset] [(.int 117)])) (fun t k => XS.bipush X16.here hx rfl (hb hby at_26) k) ?_
      obtain ⟨_, _, ⟨T17, L17, k17, n17⟩, -, X17, ⟨Lc17, hQ17, l17, y17, z17⟩, st17⟩ := Jvm.LawKit.callS X16 hx (y := (⟨"com/example/facl/facl/ModeSpec", "part", "(C)I"⟩ : MethodName)) hown (mvT hZ (hw _ (List.mem_of_getElem? (i := 4) rfl))) (mvT hZ (hw _ (List.mem_of_getElem? (i := 5) rfl))) (mvT hZ (hw _ (List.mem_of_getElem? (i := 6) rfl))) (mvT hZ (hw _ (List.mem_of_getElem? (i := 7) rfl))) (by decide) (backOf (W := 0) (rmP l Z a0 hw [] (117 : Int32) h0 n0 (by decide)) hZ (hw _ (List.mem_of_getElem? (i := 7) rfl)) (hw _ (List.mem_of_getElem? (i := 6) rfl)) (by decide) (by decide)) (g := (mkF m 28 #[iv pa, iv pb, iv 0, iv 1, iv 448, iv 56, .unset, .unset, .unset, .unset] [(.int 117)])) rfl (by rw [hml]; rfl) (argsL := [(.int 117)]) (rest := []) (lenOf pd_1 rfl) rfl (by show 2 * 0 + _ ≤ _; exact Nat.le_of_eq rfl) (hb hby at_28) (fun _ _ => ⟨rfl, e16, (by decide : 0 + 0 ≤ _), (by decide : 0 + 0 ≤ _)⟩)
      dsimp only [Pt.U, Pt.locs, Pt.cells, Pt.slots] at X17 l17 y17 z17 st17 hQ17
      subst l17 y17 z17
      obtain ⟨hv17, N17q, e17⟩ := hQ17
      rw [(show (own_part (117 : Int32)) = (448 : Int32) from by decide)] at hv17; subst hv17
      have N17 := Fr.app N16 N17q
      refine Go.pull (V := T17.setTop (mkF m 31 #[iv pa, iv pb, iv 0, iv 1, iv 448, iv 56, .unset, .unset, .unset, .unset] [(.int 448)])) st17 ?_
      refine Go.pull (V := T17.setTop (mkF m 33 #[iv pa, iv pb, iv 0, iv 1, iv 448, iv 56, iv 448, .unset, .unset, .unset] [])) (fun t k => XS.istore X17.here hx rfl (hb hby at_31) rfl (l' := #[iv pa, iv pb, iv 0, iv 1, iv 448, iv 56, iv 448, .unset, .unset, .unset]) rfl k) ?_
      refine Go.pull (V := T17.setTop (mkF m 35 #[iv pa, iv pb, iv 0, iv 1, iv 448, iv 56, iv 448, .unset, .unset, .unset] [(.int 103)])) (fun t k => XS.bipush X17.here hx rfl (hb hby at_33) k) ?_
      obtain ⟨_, _, ⟨T18, L18, k18, n18⟩, -, X18, ⟨Lc18, hQ18, l18, y18, z18⟩, st18⟩ := Jvm.LawKit.callS X17 hx (y := (⟨"com/example/facl/facl/ModeSpec", "part", "(C)I"⟩ : MethodName)) hown (mvT hZ (hw _ (List.mem_of_getElem? (i := 4) rfl))) (mvT hZ (hw _ (List.mem_of_getElem? (i := 5) rfl))) (mvT hZ (hw _ (List.mem_of_getElem? (i := 6) rfl))) (mvT hZ (hw _ (List.mem_of_getElem? (i := 7) rfl))) (by decide) (backOf (W := 0) (rmP l Z a0 hw [] (103 : Int32) h0 n0 (by decide)) hZ (hw _ (List.mem_of_getElem? (i := 7) rfl)) (hw _ (List.mem_of_getElem? (i := 6) rfl)) (by decide) (by decide)) (g := (mkF m 35 #[iv pa, iv pb, iv 0, iv 1, iv 448, iv 56, iv 448, .unset, .unset, .unset] [(.int 103)])) rfl (by rw [hml]; rfl) (argsL := [(.int 103)]) (rest := []) (lenOf pd_1 rfl) rfl (by show 2 * 0 + _ ≤ _; exact Nat.le_of_eq rfl) (hb hby at_35) (fun _ _ => ⟨rfl, e17, (by decide : 0 + 0 ≤ _), (by decide : 0 + 0 ≤ _)⟩)
      dsimp only [Pt.U, Pt.locs, Pt.cells, Pt.slots] at X18 l18 y18 z18 st18 hQ18
      subst l18 y18 z18
      obtain ⟨hv18, N18q, e18⟩ := hQ18
      rw [(show (own_part (103 : Int32)) = (56 : Int32) from by decide)] at hv18; subst hv18
      have N18 := Fr.app N17 N18q
      refine Go.pull (V := T18.setTop (mkF m 38 #[iv pa, iv pb, iv 0, iv 1, iv 448, iv 56, iv 448, .unset, .unset, .unset] [(.int 56)])) st18 ?_
      refine Go.pull (V := T18.setTop (mkF m 40 #[iv pa, iv pb, iv 0, iv 1, iv 448, iv 56, iv 448, iv 56, .unset, .unset] [])) (fun t k => XS.istore X18.here hx rfl (hb hby at_38) rfl (l' := #[iv pa, iv pb, iv 0, iv 1, iv 448, iv 56, iv 448, iv 56, .unset, .unset]) rfl k) ?_
      refine Go.pull (V := T18.setTop (mkF m 42 #[iv pa, iv pb, iv 0, iv 1, iv 448, iv 56, iv 448, iv 56, .unset, .unset] [(.int 111)])) (fun t k => XS.bipush X18.here hx rfl (hb hby at_40) k) ?_
      obtain ⟨_, _, ⟨T19, L19, k19, n19⟩, -, X19, ⟨Lc19, hQ19, l19, y19, z19⟩, st19⟩ := Jvm.LawKit.callS X18 hx (y := (⟨"com/example/facl/facl/ModeSpec", "part", "(C)I"⟩ : MethodName)) hown (mvT hZ (hw _ (List.mem_of_getElem? (i := 4) rfl))) (mvT hZ (hw _ (List.mem_of_getElem? (i := 5) rfl))) (mvT hZ (hw _ (List.mem_of_getElem? (i := 6) rfl))) (mvT hZ (hw _ (List.mem_of_getElem? (i := 7) rfl))) (by decide) (backOf (W := 0) (rmP l Z a0 hw [] (111 : Int32) h0 n0 (by decide)) hZ (hw _ (List.mem_of_getElem? (i := 7) rfl)) (hw _ (List.mem_of_getElem? (i := 6) rfl)) (by decide) (by decide)) (g := (mkF m 42 #[iv pa, iv pb, iv 0, iv 1, iv 448, iv 56, iv 448, iv 56, .unset, .unset] [(.int 111)])) rfl (by rw [hml]; rfl) (argsL := [(.int 111)]) (rest := []) (lenOf pd_1 rfl) rfl (by show 2 * 0 + _ ≤ _; exact Nat.le_of_eq rfl) (hb hby at_42) (fun _ _ => ⟨rfl, e18, (by decide : 0 + 0 ≤ _), (by decide : 0 + 0 ≤ _)⟩)
      dsimp only [Pt.U, Pt.locs, Pt.cells, Pt.slots] at X19 l19 y19 z19 st19 hQ19
      subst l19 y19 z19
      obtain ⟨hv19, N19q, e19⟩ := hQ19
      rw [(show (own_part (111 : Int32)) = (519 : Int32) from by decide)] at hv19; subst hv19
      have N19 := Fr.app N18 N19q
      refine Go.pull (V := T19.setTop (mkF m 45 #[iv pa, iv pb, iv 0, iv 1, iv 448, iv 56, iv 448, iv 56, .unset, .unset] [(.int 519)])) st19 ?_
      refine Go.pull (V := T19.setTop (mkF m 47 #[iv pa, iv pb, iv 0, iv 1, iv 448, iv 56, iv 448, iv 56, iv 519, .unset] [])) (fun t k => XS.istore X19.here hx rfl (hb hby at_45) rfl (l' := #[iv pa, iv pb, iv 0, iv 1, iv 448, iv 56, iv 448, iv 56, iv 519, .unset]) rfl k) ?_
      refine Go.pull (V := T19.setTop (mkF m 49 #[iv pa, iv pb, iv 0, iv 1, iv 448, iv 56, iv 448, iv 56, iv 519, .unset] [(.int 97)])) (fun t k => XS.bipush X19.here hx rfl (hb hby at_47) k) ?_
      obtain ⟨_, _, ⟨T20, L20, k20, n20⟩, -, X20, ⟨Lc20, hQ20, l20, y20, z20⟩, st20⟩ := Jvm.LawKit.callS X19 hx (y := (⟨"com/example/facl/facl/ModeSpec", "part", "(C)I"⟩ : MethodName)) hown (mvT hZ (hw _ (List.mem_of_getElem? (i := 4) rfl))) (mvT hZ (hw _ (List.mem_of_getElem? (i := 5) rfl))) (mvT hZ (hw _ (List.mem_of_getElem? (i := 6) rfl))) (mvT hZ (hw _ (List.mem_of_getElem? (i := 7) rfl))) (by decide) (backOf (W := 0) (rmP l Z a0 hw [] (97 : Int32) h0 n0 (by decide)) hZ (hw _ (List.mem_of_getElem? (i := 7) rfl)) (hw _ (List.mem_of_getElem? (i := 6) rfl)) (by decide) (by decide)) (g := (mkF m 49 #[iv pa, iv pb, iv 0, iv 1, iv 448, iv 56, iv 448, iv 56, iv 519, .unset] [(.int 97)])) rfl (by rw [hml]; rfl) (argsL := [(.int 97)]) (rest := []) (lenOf pd_1 rfl) rfl (by show 2 * 0 + _ ≤ _; exact Nat.le_of_eq rfl) (hb hby at_49) (fun _ _ => ⟨rfl, e19, (by decide : 0 + 0 ≤ _), (by decide : 0 + 0 ≤ _)⟩)
      dsimp only [Pt.U, Pt.locs, Pt.cells, Pt.slots] at X20 l20 y20 z20 st20 hQ20
      subst l20 y20 z20
      obtain ⟨hv20, N20q, e20⟩ := hQ20
      rw [(show (own_part (97 : Int32)) = (1023 : Int32) from by decide)] at hv20; subst hv20
      have N20 := Fr.app N19 N20q
      refine Go.pull (V := T20.setTop (mkF m 52 #[iv pa, iv pb, iv 0, iv 1, iv 448, iv 56, iv 448, iv 56, iv 519, .unset] [(.int 1023)])) st20 ?_
      refine Go.pull (V := T20.setTop (mkF m 54 #[iv pa, iv pb, iv 0, iv 1, iv 448, iv 56, iv 448, iv 56, iv 519, iv 1023] [])) (fun t k => XS.istore X20.here hx rfl (hb hby at_52) rfl (l' := #[iv pa, iv pb, iv 0, iv 1, iv 448, iv 56, iv 448, iv 56, iv 519, iv 1023]) rfl k) ?_
      refine Go.pull (V := T20.setTop (mkF m 56 #[iv pa, iv pb, iv 0, iv 1, iv 448, iv 56, iv 448, iv 56, iv 519, iv 1023] [(.int 448)])) (fun t k => XS.iload X20.here hx rfl (hb hby at_54) rfl  k) ?_
      refine Go.pull (V := T20.setTop (mkF m 57 #[iv pa, iv pb, iv 0, iv 1, iv 448, iv 56, iv 448, iv 56, iv 519, iv 1023] [(.int 0), (.int 448)])) (fun t k => XS.iloadN X20.here hx rfl (hb hby at_56) rfl  k) ?_
      obtain ⟨_, _, ⟨T21, L21, k21, n21⟩, -, X21, ⟨Lc21, hQ21, l21, y21, z21⟩, st21⟩ := Jvm.LawKit.callS X20 hx (y := (⟨"com/example/facl/facl/ModeSpecPartPinLaw", "expected", "(I)I"⟩ : MethodName)) hown (mvT hZ (hw _ (List.mem_of_getElem? (i := 8) rfl))) (mvT hZ (hw _ (List.mem_of_getElem? (i := 9) rfl))) (mvT hZ (hw _ (List.mem_of_getElem? (i := 2) rfl))) (mvT hZ (hw _ (List.mem_of_getElem? (i := 10) rfl))) (by decide) (backOf (W := 1) (rmX l Z a0 hw [] (0 : Int32) h0 n0 ) hZ (hw _ (List.mem_of_getElem? (i := 10) rfl)) (hw _ (List.mem_of_getElem? (i := 2) rfl)) (by decide) (by decide)) (g := (mkF m 57 #[iv pa, iv pb, iv 0, iv 1, iv 448, iv 56, iv 448, iv 56, iv 519, iv 1023] [(.int 0), (.int 448)])) rfl (by rw [hml]; rfl) (argsL := [(.int 0)]) (rest := [(.int 448)]) (lenOf pd_2 rfl) rfl (by show 2 * 0 + _ ≤ _; exact Nat.le_of_eq rfl) (hb hby at_57) (fun _ _ => ⟨rfl, e20, (by decide : 0 + 0 ≤ _), (by decide : 0 + 0 ≤ _)⟩)
      dsimp only [Pt.U, Pt.locs, Pt.cells, Pt.slots] at X21 l21 y21 z21 st21 hQ21
      subst l21 y21 z21
      obtain ⟨hv21, N21q, e21⟩ := hQ21
      rw [(show (own_expected (0 : Int32)) = (448 : Int32) from by decide)] at hv21; subst hv21
      have N21 := Fr.app N20 N21q
      refine Go.pull (V := T21.setTop (mkF m 60 #[iv pa, iv pb, iv 0, iv 1, iv 448, iv 56, iv 448, iv 56, iv 519, iv 1023] [(.int 448), (.int 448)])) st21 ?_
      refine Go.pull (V := T21.setTop (mkF m 63 #[iv pa, iv pb, iv 0, iv 1, iv 448, iv 56, iv 448, iv 56, iv 519, iv 1023] [])) (fun t k => XS.icmpNo X21.here hx rfl (hb hby at_60) rfl (XT.ii_ne_f (by decide)) k) ?_
      refine Go.pull (V := T21.setTop (mkF m 65 #[iv pa, iv pb, iv 0, iv 1, iv 448, iv 56, iv 448, iv 56, iv 519, iv 1023] [(.int 56)])) (fun t k => XS.iload X21.here hx rfl (hb hby at_63) rfl  k) ?_
      refine Go.pull (V := T21.setTop (mkF m 66 #[iv pa, iv pb, iv 0, iv 1, iv 448, iv 56, iv 448, iv 56, iv 519, iv 1023] [(.int 1), (.int 56)])) (fun t k => XS.iloadN X21.here hx rfl (hb hby at_65) rfl  k) ?_
      obtain ⟨_, _, ⟨T22, L22, k22, n22⟩, -, X22, ⟨Lc22, hQ22, l22, y22, z22⟩, st22⟩ := Jvm.LawKit.callS X21 hx (y := (⟨"com/example/facl/facl/ModeSpecPartPinLaw", "expected", "(I)I"⟩ : MethodName)) hown (mvT hZ (hw _ (List.mem_of_getElem? (i := 8) rfl))) (mvT hZ (hw _ (List.mem_of_getElem? (i := 9) rfl))) (mvT hZ (hw _ (List.mem_of_getElem? (i := 2) rfl))) (mvT hZ (hw _ (List.mem_of_getElem? (i := 10) rfl))) (by decide) (backOf (W := 1) (rmX l Z a0 hw [] (1 : Int32) h0 n0 ) hZ (hw _ (List.mem_of_getElem? (i := 10) rfl)) (hw _ (List.mem_of_getElem? (i := 2) rfl)) (by decide) (by decide)) (g := (mkF m 66 #[iv pa, iv pb, iv 0, iv 1, iv 448, iv 56, iv 448, iv 56, iv 519, iv 1023] [(.int 1), (.int 56)])) rfl (by rw [hml]; rfl) (argsL := [(.int 1)]) (rest := [(.int 56)]) (lenOf pd_2 rfl) rfl (by show 2 * 0 + _ ≤ _; exact Nat.le_of_eq rfl) (hb hby at_66) (fun _ _ => ⟨rfl, e21, (by decide : 0 + 0 ≤ _), (by decide : 0 + 0 ≤ _)⟩)
      dsimp only [Pt.U, Pt.locs, Pt.cells, Pt.slots] at X22 l22 y22 z22 st22 hQ22
      subst l22 y22 z22
      obtain ⟨hv22, N22q, e22⟩ := hQ22
      rw [(show (own_expected (1 : Int32)) = (56 : Int32) from by decide)] at hv22; subst hv22
      have N22 := Fr.app N21 N22q
      refine Go.pull (V := T22.setTop (mkF m 69 #[iv pa, iv pb, iv 0, iv 1, iv 448, iv 56, iv 448, iv 56, iv 519, iv 1023] [(.int 56), (.int 56)])) st22 ?_
      refine Go.pull (V := T22.setTop (mkF m 74 #[iv pa, iv pb, iv 0, iv 1, iv 448, iv 56, iv 448, iv 56, iv 519, iv 1023] [])) (fun t k => XS.icmpYes X22.here hx rfl (pc0 := 69) (pc' := 74) rfl (hb hby at_69) rfl (XT.ii_eq_t (by decide)) (by decide) (by decide) k) ?_
      refine Go.pull (V := T22.setTop (mkF m 76 #[iv pa, iv pb, iv 0, iv 1, iv 448, iv 56, iv 448, iv 56, iv 519, iv 1023] [(.int 448)])) (fun t k => XS.iload X22.here hx rfl (hb hby at_74) rfl  k) ?_
      refine Go.pull (V := T22.setTop (mkF m 79 #[iv pa, iv pb, iv 0, iv 1, iv 448, iv 56, iv 448, iv 56, iv 519, iv 1023] [(.int (-1024)), (.int 448)])) (fun t k => XS.sipush X22.here hx rfl (hb hby at_76) k) ?_
      refine Go.pull (V := T22.setTop (mkF m 80 #[iv pa, iv pb, iv 0, iv 1, iv 448, iv 56, iv 448, iv 56, iv 519, iv 1023] [(.int 0)])) (fun t k => XS.iand X22.here hx rfl (hb hby at_79) rfl k) ?_
      refine Go.pull (V := T22.setTop (mkF m 83 #[iv pa, iv pb, iv 0, iv 1, iv 448, iv 56, iv 448, iv 56, iv 519, iv 1023] [])) (fun t k => XS.ifNo X22.here hx rfl (hb hby at_80) rfl (XT.i0_ne_f (by decide)) k) ?_
      refine Go.pull (V := T22.setTop (mkF m 85 #[iv pa, iv pb, iv 0, iv 1, iv 448, iv 56, iv 448, iv 56, iv 519, iv 1023] [(.int 56)])) (fun t k => XS.iload X22.here hx rfl (hb hby at_83) rfl  k) ?_
      refine Go.pull (V := T22.setTop (mkF m 88 #[iv pa, iv pb, iv 0, iv 1, iv 448, iv 56, iv 448, iv 56, iv 519, iv 1023] [(.int (-1024)), (.int 56)])) (fun t k => XS.sipush X22.here hx rfl (hb hby at_85) k) ?_
      refine Go.pull (V := T22.setTop (mkF m 89 #[iv pa, iv pb, iv 0, iv 1, iv 448, iv 56, iv 448, iv 56, iv 519, iv 1023] [(.int 0)])) (fun t k => XS.iand X22.here hx rfl (hb hby at_88) rfl k) ?_
      refine Go.pull (V := T22.setTop (mkF m 94 #[iv pa, iv pb, iv 0, iv 1, iv 448, iv 56, iv 448, iv 56, iv 519, iv 1023] [])) (fun t k => XS.ifYes X22.here hx rfl (pc0 := 89) (pc' := 94) rfl (hb hby at_89) rfl (XT.i0_eq_t (by decide)) (by decide) (by decide) k) ?_
      refine Go.pull (V := T22.setTop (mkF m 96 #[iv pa, iv pb, iv 0, iv 1, iv 448, iv 56, iv 448, iv 56, iv 519, iv 1023] [(.int 1023)])) (fun t k => XS.iload X22.here hx rfl (hb hby at_94) rfl  k) ?_
      refine Go.pull (V := T22.setTop (mkF m 99 #[iv pa, iv pb, iv 0, iv 1, iv 448, iv 56, iv 448, iv 56, iv 519, iv 1023] [(.int 1023), (.int 1023)])) (fun t k => XS.sipush X22.here hx rfl (hb hby at_96) k) ?_
      refine Go.pull (V := T22.setTop (mkF m 102 #[iv pa, iv pb, iv 0, iv 1, iv 448, iv 56, iv 448, iv 56, iv 519, iv 1023] [])) (fun t k => XS.icmpNo X22.here hx rfl (hb hby at_99) rfl (XT.ii_ne_f (by decide)) k) ?_
      refine Go.pull (V := T22.setTop (mkF m 104 #[iv pa, iv pb, iv 0, iv 1, iv 448, iv 56, iv 448, iv 56, iv 519, iv 1023] [(.int 448)])) (fun t k => XS.iload X22.here hx rfl (hb hby at_102) rfl  k) ?_
      refine Go.pull (V := T22.setTop (mkF m 106 #[iv pa, iv pb, iv 0, iv 1, iv 448, iv 56, iv 448, iv 56, iv 519, iv 1023] [(.int 56), (.int 448)])) (fun t k => XS.iload X22.here hx rfl (hb hby at_104) rfl  k) ?_
      refine Go.pull (V := T22.setTop (mkF m 107 #[iv pa, iv pb, iv 0, iv 1, iv 448, iv 56, iv 448, iv 56, iv 519, iv 1023] [(.int 504)])) (fun t k => XS.ior X22.here hx rfl (hb hby at_106) rfl k) ?_
      refine Go.pull (V := T22.setTop (mkF m 109 #[iv pa, iv pb, iv 0, iv 1, iv 448, iv 56, iv 448, iv 56, iv 519, iv 1023] [(.int 519), (.int 504)])) (fun t k => XS.iload X22.here hx rfl (hb hby at_107) rfl  k) ?_
      refine Go.pull (V := T22.setTop (mkF m 110 #[iv pa, iv pb, iv 0, iv 1, iv 448, iv 56, iv 448, iv 56, iv 519, iv 1023] [(.int 1023)])) (fun t k => XS.ior X22.here hx rfl (hb hby at_109) rfl k) ?_
      refine Go.pull (V := T22.setTop (mkF m 112 #[iv pa, iv pb, iv 0, iv 1, iv 448, iv 56, iv 448, iv 56, iv 519, iv 1023] [(.int 1023), (.int 1023)])) (fun t k => XS.iload X22.here hx rfl (hb hby at_110) rfl  k) ?_
      refine Go.pull (V := T22.setTop (mkF m 117 #[iv pa, iv pb, iv 0, iv 1, iv 448, iv 56, iv 448, iv 56, iv 519, iv 1023] [])) (fun t k => XS.icmpYes X22.here hx rfl (pc0 := 112) (pc' := 117) rfl (hb hby at_112) rfl (XT.ii_eq_t (by decide)) (by decide) (by decide) k) ?_
      refine Go.pull (V := T22.setTop (mkF m 119 #[iv pa, iv pb, iv 0, iv 1, iv 448, iv 56, iv 448, iv 56, iv 519, iv 1023] [(.int 448)])) (fun t k => XS.iload X22.here hx rfl (hb hby at_117) rfl  k) ?_
      refine Go.pull (V := T22.setTop (mkF m 121 #[iv pa, iv pb, iv 0, iv 1, iv 448, iv 56, iv 448, iv 56, iv 519, iv 1023] [(.int 56), (.int 448)])) (fun t k => XS.iload X22.here hx rfl (hb hby at_119) rfl  k) ?_
      refine Go.pull (V := T22.setTop (mkF m 122 #[iv pa, iv pb, iv 0, iv 1, iv 448, iv 56, iv 448, iv 56, iv 519, iv 1023] [(.int 0)])) (fun t k => XS.iand X22.here hx rfl (hb hby at_121) rfl k) ?_
      refine Go.pull (V := T22.setTop (mkF m 125 #[iv pa, iv pb, iv 0, iv 1, iv 448, iv 56, iv 448, iv 56, iv 519, iv 1023] [])) (fun t k => XS.ifNo X22.here hx rfl (hb hby at_122) rfl (XT.i0_ne_f (by decide)) k) ?_
      refine Go.pull (V := T22.setTop (mkF m 127 #[iv pa, iv pb, iv 0, iv 1, iv 448, iv 56, iv 448, iv 56, iv 519, iv 1023] [(.int 448)])) (fun t k => XS.iload X22.here hx rfl (hb hby at_125) rfl  k) ?_
      refine Go.pull (V := T22.setTop (mkF m 129 #[iv pa, iv pb, iv 0, iv 1, iv 448, iv 56, iv 448, iv 56, iv 519, iv 1023] [(.int 519), (.int 448)])) (fun t k => XS.iload X22.here hx rfl (hb hby at_127) rfl  k) ?_
      refine Go.pull (V := T22.setTop (mkF m 130 #[iv pa, iv pb, iv 0, iv 1, iv 448, iv 56, iv 448, iv 56, iv 519, iv 1023] [(.int 0)])) (fun t k => XS.iand X22.here hx rfl (hb hby at_129) rfl k) ?_
      refine Go.pull (V := T22.setTop (mkF m 133 #[iv pa, iv pb, iv 0, iv 1, iv 448, iv 56, iv 448, iv 56, iv 519, iv 1023] [])) (fun t k => XS.ifNo X22.here hx rfl (hb hby at_130) rfl (XT.i0_ne_f (by decide)) k) ?_
      refine Go.pull (V := T22.setTop (mkF m 135 #[iv pa, iv pb, iv 0, iv 1, iv 448, iv 56, iv 448, iv 56, iv 519, iv 1023] [(.int 56)])) (fun t k => XS.iload X22.here hx rfl (hb hby at_133) rfl  k) ?_
      refine Go.pull (V := T22.setTop (mkF m 137 #[iv pa, iv pb, iv 0, iv 1, iv 448, iv 56, iv 448, iv 56, iv 519, iv 1023] [(.int 519), (.int 56)])) (fun t k => XS.iload X22.here hx rfl (hb hby at_135) rfl  k) ?_
      refine Go.pull (V := T22.setTop (mkF m 138 #[iv pa, iv pb, iv 0, iv 1, iv 448, iv 56, iv 448, iv 56, iv 519, iv 1023] [(.int 0)])) (fun t k => XS.iand X22.here hx rfl (hb hby at_137) rfl k) ?_
      refine Go.pull (V := T22.setTop (mkF m 143 #[iv pa, iv pb, iv 0, iv 1, iv 448, iv 56, iv 448, iv 56, iv 519, iv 1023] [])) (fun t k => XS.ifYes X22.here hx rfl (pc0 := 138) (pc' := 143) rfl (hb hby at_138) rfl (XT.i0_eq_t (by decide)) (by decide) (by decide) k) ?_
      refine Go.pull (V := T22.setTop (mkF m 144 #[iv pa, iv pb, iv 0, iv 1, iv 448, iv 56, iv 448, iv 56, iv 519, iv 1023] [(.int 0)])) (fun t k => XS.iloadN X22.here hx rfl (hb hby at_143) rfl  k) ?_
      refine Go.pull (V := T22.setTop (mkF m 145 #[iv pa, iv pb, iv 0, iv 1, iv 448, iv 56, iv 448, iv 56, iv 519, iv 1023] [(.int 1), (.int 0)])) (fun t k => XS.iloadN X22.here hx rfl (hb hby at_144) rfl  k) ?_
      refine Go.pull (V := T22.setTop (mkF m 148 #[iv pa, iv pb, iv 0, iv 1, iv 448, iv 56, iv 448, iv 56, iv 519, iv 1023] [])) (fun t k => XS.icmpNo X22.here hx rfl (hb hby at_145) rfl (XT.ii_eq_f (by decide)) k) ?_
      refine Go.pull (V := T22.setTop (mkF m 149 #[iv pa, iv pb, iv 0, iv 1, iv 448, iv 56, iv 448, iv 56, iv 519, iv 1023] [(.int 0)])) (fun t k => XS.iloadN X22.here hx rfl (hb hby at_148) rfl  k) ?_
      refine Go.pull (V := T22.setTop (mkF m 150 #[iv pa, iv pb, iv 0, iv 1, iv 448, iv 56, iv 448, iv 56, iv 519, iv 1023] [(.int 3), (.int 0)])) (fun t k => XS.iconst X22.here hx rfl (hb hby at_149) k) ?_
      refine Go.pull (V := T22.setTop (mkF m 153 #[iv pa, iv pb, iv 0, iv 1, iv 448, iv 56, iv 448, iv 56, iv 519, iv 1023] [])) (fun t k => XS.icmpNo X22.here hx rfl (hb hby at_150) rfl (XT.ii_eq_f (by decide)) k) ?_
      refine Go.pull (V := T22.setTop (mkF m 154 #[iv pa, iv pb, iv 0, iv 1, iv 448, iv 56, iv 448, iv 56, iv 519, iv 1023] [(.int 1)])) (fun t k => XS.iloadN X22.here hx rfl (hb hby at_153) rfl  k) ?_
      refine Go.pull (V := T22.setTop (mkF m 155 #[iv pa, iv pb, iv 0, iv 1, iv 448, iv 56, iv 448, iv 56, iv 519, iv 1023] [(.int 3), (.int 1)])) (fun t k => XS.iconst X22.here hx rfl (hb hby at_154) k) ?_
      refine Go.pull (V := T22.setTop (mkF m 158 #[iv pa, iv pb, iv 0, iv 1, iv 448, iv 56, iv 448, iv 56, iv 519, iv 1023] [])) (fun t k => XS.icmpNo X22.here hx rfl (hb hby at_155) rfl (XT.ii_eq_f (by decide)) k) ?_
      refine Go.pull (V := T22.setTop (mkF m 160 #[iv pa, iv pb, iv 0, iv 1, iv 448, iv 56, iv 448, iv 56, iv 519, iv 1023] [(.int 448)])) (fun t k => XS.iload X22.here hx rfl (hb hby at_158) rfl  k) ?_
      refine Go.pull (V := T22.setTop (mkF m 162 #[iv pa, iv pb, iv 0, iv 1, iv 448, iv 56, iv 448, iv 56, iv 519, iv 1023] [(.int 56), (.int 448)])) (fun t k => XS.iload X22.here hx rfl (hb hby at_160) rfl  k) ?_
      refine Go.pull (V := T22.setTop (mkF m 163 #[iv pa, iv pb, iv 0, iv 1, iv 448, iv 56, iv 448, iv 56, iv 519, iv 1023] [(.int 0)])) (fun t k => XS.iand X22.here hx rfl (hb hby at_162) rfl k) ?_
      refine Go.pull (V := T22.setTop (mkF m 168 #[iv pa, iv pb, iv 0, iv 1, iv 448, iv 56, iv 448, iv 56, iv 519, iv 1023] [])) (fun t k => XS.ifYes X22.here hx rfl (pc0 := 163) (pc' := 168) rfl (hb hby at_163) rfl (XT.i0_eq_t (by decide)) (by decide) (by decide) k) ?_
      refine Go.pull (V := T22.setTop (mkF m 170 #[iv pa, iv pb, iv 0, iv 1, iv 448, iv 56, iv 448, iv 56, iv 519, iv 1023] [(.int 519)])) (fun t k => XS.iload X22.here hx rfl (hb hby at_168) rfl  k) ?_
      refine Go.pull (V := T22.setTop (mkF m 173 #[iv pa, iv pb, iv 0, iv 1, iv 448, iv 56, iv 448, iv 56, iv 519, iv 1023] [(.int 512), (.int 519)])) (fun t k => XS.sipush X22.here hx rfl (hb hby at_170) k) ?_
      refine Go.pull (V := T22.setTop (mkF m 174 #[iv pa, iv pb, iv 0, iv 1, iv 448, iv 56, iv 448, iv 56, iv 519, iv 1023] [(.int 512)])) (fun t k => XS.iand X22.here hx rfl (hb hby at_173) rfl k) ?_
      refine Go.pull (V := T22.setTop (mkF m 177 #[iv pa, iv pb, iv 0, iv 1, iv 448, iv 56, iv 448, iv 56, iv 519, iv 1023] [])) (fun t k => XS.ifNo X22.here hx rfl (hb hby at_174) rfl (XT.i0_eq_f (by decide)) k) ?_
      refine Go.pull (V := T22.setTop (mkF m 179 #[iv pa, iv pb, iv 0, iv 1, iv 448, iv 56, iv 448, iv 56, iv 519, iv 1023] [(.int 448)])) (fun t k => XS.iload X22.here hx rfl (hb hby at_177) rfl  k) ?_
      refine Go.pull (V := T22.setTop (mkF m 181 #[iv pa, iv pb, iv 0, iv 1, iv 448, iv 56, iv 448, iv 56, iv 519, iv 1023] [(.int 56), (.int 448)])) (fun t k => XS.iload X22.here hx rfl (hb hby at_179) rfl  k) ?_
      refine Go.pull (V := T22.setTop (mkF m 182 #[iv pa, iv pb, iv 0, iv 1, iv 448, iv 56, iv 448, iv 56, iv 519, iv 1023] [(.int 504)])) (fun t k => XS.ior X22.here hx rfl (hb hby at_181) rfl k) ?_
      refine Go.pull (V := T22.setTop (mkF m 185 #[iv pa, iv pb, iv 0, iv 1, iv 448, iv 56, iv 448, iv 56, iv 519, iv 1023] [(.int 512), (.int 504)])) (fun t k => XS.sipush X22.here hx rfl (hb hby at_182) k) ?_
      refine Go.pull (V := T22.setTop (mkF m 186 #[iv pa, iv pb, iv 0, iv 1, iv 448, iv 56, iv 448, iv 56, iv 519, iv 1023] [(.int 0)])) (fun t k => XS.iand X22.here hx rfl (hb hby at_185) rfl k) ?_
      refine Go.pull (V := T22.setTop (mkF m 191 #[iv pa, iv pb, iv 0, iv 1, iv 448, iv 56, iv 448, iv 56, iv 519, iv 1023] [])) (fun t k => XS.ifYes X22.here hx rfl (pc0 := 186) (pc' := 191) rfl (hb hby at_186) rfl (XT.i0_eq_t (by decide)) (by decide) (by decide) k) ?_
      refine Go.pull (V := T22.setTop (mkF m 192 #[iv pa, iv pb, iv 0, iv 1, iv 448, iv 56, iv 448, iv 56, iv 519, iv 1023] [(.int 1)])) (fun t k => XS.iconst X22.here hx rfl (hb hby at_191) k) ?_
      exact Go.retN X22 hx Bd.notSynchronized (t := .boolean) Bd.returns (by simp) (hb hby at_192) ⟨rfl, N22⟩ (by decide) (by decide)
    · subst hv2
      refine Go.pull (V := s₁.setTop (mkF m 9 #[iv pa, iv pb, iv 0, iv 2, .unset, .unset, .unset, .unset, .unset, .unset] [(.int 0)])) (fun t k => XS.iloadN X0.here hx rfl (hb hby at_8) rfl  k) ?_
      obtain ⟨_, _, ⟨T23, L23, k23, n23⟩, -, X23, ⟨Lc23, hQ23, l23, y23, z23⟩, st23⟩ := Jvm.LawKit.callS X0 hx (y := (⟨"com/example/facl/facl/ModeSpecPartPinLaw", "letter", "(I)C"⟩ : MethodName)) hown (mvT hZ (hw _ (List.mem_of_getElem? (i := 0) rfl))) (mvT hZ (hw _ (List.mem_of_getElem? (i := 1) rfl))) (mvT hZ (hw _ (List.mem_of_getElem? (i := 2) rfl))) (mvT hZ (hw _ (List.mem_of_getElem? (i := 3) rfl))) (by decide) (backOf (W := 0) (rmL l Z a0 hw [] (0 : Int32) h0 n0 ) hZ (hw _ (List.mem_of_getElem? (i := 3) rfl)) (hw _ (List.mem_of_getElem? (i := 2) rfl)) (by decide) (by decide)) (g := (mkF m 9 #[iv pa, iv pb, iv 0, iv 2, .unset, .unset, .unset, .unset, .unset, .unset] [(.int 0)])) rfl (by rw [hml]; rfl) (argsL := [(.int 0)]) (rest := []) (lenOf pd_0 rfl) rfl (by show 2 * 0 + _ ≤ _; exact Nat.le_of_eq rfl) (hb hby at_9) (fun _ _ => ⟨rfl, e0, (by decide : 0 + 0 ≤ _), (by decide : 0 + 0 ≤ _)⟩)
      dsimp only [Pt.U, Pt.locs, Pt.cells, Pt.slots] at X23 l23 y23 z23 st23 hQ23
      subst l23 y23 z23
      obtain ⟨hv23, N23q, e23⟩ := hQ23
      rw [(show (own_letter (0 : Int32)) = (117 : Int32) from by decide)] at hv23; subst hv23
      have N23 := Fr.app N0 N23q
      refine Go.pull (V := T23.setTop (mkF m 12 #[iv pa, iv pb, iv 0, iv 2, .unset, .unset, .unset, .unset, .unset, .unset] [(.int 117)])) st23 ?_
      obtain ⟨_, _, ⟨T24, L24, k24, n24⟩, -, X24, ⟨Lc24, hQ24, l24, y24, z24⟩, st24⟩ := Jvm.LawKit.callS X23 hx (y := (⟨"com/example/facl/facl/ModeSpec", "part", "(C)I"⟩ : MethodName)) hown (mvT hZ (hw _ (List.mem_of_getElem? (i := 4) rfl))) (mvT hZ (hw _ (List.mem_of_getElem? (i := 5) rfl))) (mvT hZ (hw _ (List.mem_of_getElem? (i := 6) rfl))) (mvT hZ (hw _ (List.mem_of_getElem? (i := 7) rfl))) (by decide) (backOf (W := 0) (rmP l Z a0 hw [] (117 : Int32) h0 n0 (by decide)) hZ (hw _ (List.mem_of_getElem? (i := 7) rfl)) (hw _ (List.mem_of_getElem? (i := 6) rfl)) (by decide) (by decide)) (g := (mkF m 12 #[iv pa, iv pb, iv 0, iv 2, .unset, .unset, .unset, .unset, .unset, .unset] [(.int 117)])) rfl (by rw [hml]; rfl) (argsL := [(.int 117)]) (rest := []) (lenOf pd_1 rfl) rfl (by show 2 * 0 + _ ≤ _; exact Nat.le_of_eq rfl) (hb hby at_12) (fun _ _ => ⟨rfl, e23, (by decide : 0 + 0 ≤ _), (by decide : 0 + 0 ≤ _)⟩)
      dsimp only [Pt.U, Pt.locs, Pt.cells, Pt.slots] at X24 l24 y24 z24 st24 hQ24
      subst l24 y24 z24
      obtain ⟨hv24, N24q, e24⟩ := hQ24
      rw [(show (own_part (117 : Int32)) = (448 : Int32) from by decide)] at hv24; subst hv24
      have N24 := Fr.app N23 N24q
      refine Go.pull (V := T24.setTop (mkF m 15 #[iv pa, iv pb, iv 0, iv 2, .unset, .unset, .unset, .unset, .unset, .unset] [(.int 448)])) st24 ?_
      refine Go.pull (V := T24.setTop (mkF m 17 #[iv pa, iv pb, iv 0, iv 2, iv 448, .unset, .unset, .unset, .unset, .unset] [])) (fun t k => XS.istore X24.here hx rfl (hb hby at_15) rfl (l' := #[iv pa, iv pb, iv 0, iv 2, iv 448, .unset, .unset, .unset, .unset, .unset]) rfl k) ?_
      refine Go.pull (V := T24.setTop (mkF m 18 #[iv pa, iv pb, iv 0, iv 2, iv 448, .unset, .unset, .unset, .unset, .unset] [(.int 2)])) (fun t k => XS.iloadN X24.here hx rfl (hb hby at_17) rfl  k) ?_
      obtain ⟨_, _, ⟨T25, L25, k25, n25⟩, -, X25, ⟨Lc25, hQ25, l25, y25, z25⟩, st25⟩ := Jvm.LawKit.callS X24 hx (y := (⟨"com/example/facl/facl/ModeSpecPartPinLaw", "letter", "(I)C"⟩ : MethodName)) hown (mvT hZ (hw _ (List.mem_of_getElem? (i := 0) rfl))) (mvT hZ (hw _ (List.mem_of_getElem? (i := 1) rfl))) (mvT hZ (hw _ (List.mem_of_getElem? (i := 2) rfl))) (mvT hZ (hw _ (List.mem_of_getElem? (i := 3) rfl))) (by decide) (backOf (W := 0) (rmL l Z a0 hw [] (2 : Int32) h0 n0 ) hZ (hw _ (List.mem_of_getElem? (i := 3) rfl)) (hw _ (List.mem_of_getElem? (i := 2) rfl)) (by decide) (by decide)) (g := (mkF m 18 #[iv pa, iv pb, iv 0, iv 2, iv 448, .unset, .unset, .unset, .unset, .unset] [(.int 2)])) rfl (by rw [hml]; rfl) (argsL := [(.int 2)]) (rest := []) (lenOf pd_0 rfl) rfl (by show 2 * 0 + _ ≤ _; exact Nat.le_of_eq rfl) (hb hby at_18) (fun _ _ => ⟨rfl, e24, (by decide : 0 + 0 ≤ _), (by decide : 0 + 0 ≤ _)⟩)
      dsimp only [Pt.U, Pt.locs, Pt.cells, Pt.slots] at X25 l25 y25 z25 st25 hQ25
      subst l25 y25 z25
      obtain ⟨hv25, N25q, e25⟩ := hQ25
      rw [(show (own_letter (2 : Int32)) = (111 : Int32) from by decide)] at hv25; subst hv25
      have N25 := Fr.app N24 N25q
      refine Go.pull (V := T25.setTop (mkF m 21 #[iv pa, iv pb, iv 0, iv 2, iv 448, .unset, .unset, .unset, .unset, .unset] [(.int 111)])) st25 ?_
      obtain ⟨_, _, ⟨T26, L26, k26, n26⟩, -, X26, ⟨Lc26, hQ26, l26, y26, z26⟩, st26⟩ := Jvm.LawKit.callS X25 hx (y := (⟨"com/example/facl/facl/ModeSpec", "part", "(C)I"⟩ : MethodName)) hown (mvT hZ (hw _ (List.mem_of_getElem? (i := 4) rfl))) (mvT hZ (hw _ (List.mem_of_getElem? (i := 5) rfl))) (mvT hZ (hw _ (List.mem_of_getElem? (i := 6) rfl))) (mvT hZ (hw _ (List.mem_of_getElem? (i := 7) rfl))) (by decide) (backOf (W := 0) (rmP l Z a0 hw [] (111 : Int32) h0 n0 (by decide)) hZ (hw _ (List.mem_of_getElem? (i := 7) rfl)) (hw _ (List.mem_of_getElem? (i := 6) rfl)) (by decide) (by decide)) (g := (mkF m 21 #[iv pa, iv pb, iv 0, iv 2, iv 448, .unset, .unset, .unset, .unset, .unset] [(.int 111)])) rfl (by rw [hml]; rfl) (argsL := [(.int 111)]) (rest := []) (lenOf pd_1 rfl) rfl (by show 2 * 0 + _ ≤ _; exact Nat.le_of_eq rfl) (hb hby at_21) (fun _ _ => ⟨rfl, e25, (by decide : 0 + 0 ≤ _), (by decide : 0 + 0 ≤ _)⟩)
      dsimp only [Pt.U, Pt.locs, Pt.cells, Pt.slots] at X26 l26 y26 z26 st26 hQ26
      subst l26 y26 z26
      obtain ⟨hv26, N26q, e26⟩ := hQ26
      rw [(show (own_part (111 : Int32)) = (519 : Int32) from by decide)] at hv26; subst hv26
      have N26 := Fr.app N25 N26q
      refine Go.pull (V := T26.setTop (mkF m 24 #[iv pa, iv pb, iv 0, iv 2, iv 448, .unset, .unset, .unset, .unset, .unset] [(.int 519)])) st26 ?_
      refine Go.pull (V := T26.setTop (mkF m 26 #[iv pa, iv pb, iv 0, iv 2, iv 448, iv 519, .unset, .unset, .unset, .unset] [])) (fun t k => XS.istore X26.here hx rfl (hb hby at_24) rfl (l' := #[iv pa, iv pb, iv 0, iv 2, iv 448, iv 519, .unset, .unset, .unset, .unset]) rfl k) ?_
      refine Go.pull (V := T26.setTop (mkF m 28 #[iv pa, iv pb, iv 0, iv 2, iv 448, iv 519, .unset, .unset, .unset, .unset] [(.int 117)])) (fun t k => XS.bipush X26.here hx rfl (hb hby at_26) k) ?_
      obtain ⟨_, _, ⟨T27, L27, k27, n27⟩, -, X27, ⟨Lc27, hQ27, l27, y27, z27⟩, st27⟩ := Jvm.LawKit.callS X26 hx (y := (⟨"com/example/facl/facl/ModeSpec", "part", "(C)I"⟩ : MethodName)) hown (mvT hZ (hw _ (List.mem_of_getElem? (i := 4) rfl))) (mvT hZ (hw _ (List.mem_of_getElem? (i := 5) rfl))) (mvT hZ (hw _ (List.mem_of_getElem? (i := 6) rfl))) (mvT hZ (hw _ (List.mem_of_getElem? (i := 7) rfl))) (by decide) (backOf (W := 0) (rmP l Z a0 hw [] (117 : Int32) h0 n0 (by decide)) hZ (hw _ (List.mem_of_getElem? (i := 7) rfl)) (hw _ (List.mem_of_getElem? (i := 6) rfl)) (by decide) (by decide)) (g := (mkF m 28 #[iv pa, iv pb, iv 0, iv 2, iv 448, iv 519, .unset, .unset, .unset, .unset] [(.int 117)])) rfl (by rw [hml]; rfl) (argsL := [(.int 117)]) (rest := []) (lenOf pd_1 rfl) rfl (by show 2 * 0 + _ ≤ _; exact Nat.le_of_eq rfl) (hb hby at_28) (fun _ _ => ⟨rfl, e26, (by decide : 0 + 0 ≤ _), (by decide : 0 + 0 ≤ _)⟩)
      dsimp only [Pt.U, Pt.locs, Pt.cells, Pt.slots] at X27 l27 y27 z27 st27 hQ27
      subst l27 y27 z27
      obtain ⟨hv27, N27q, e27⟩ := hQ27
      rw [(show (own_part (117 : Int32)) = (448 : Int32) from by decide)] at hv27; subst hv27
      have N27 := Fr.app N26 N27q
      refine Go.pull (V := T27.setTop (mkF m 31 #[iv pa, iv pb, iv 0, iv 2, iv 448, iv 519, .unset, .unset, .unset, .unset] [(.int 448)])) st27 ?_
      refine Go.pull (V := T27.setTop (mkF m 33 #[iv pa, iv pb, iv 0, iv 2, iv 448, iv 519, iv 448, .unset, .unset, .unset] [])) (fun t k => XS.istore X27.here hx rfl (hb hby at_31) rfl (l' := #[iv pa, iv pb, iv 0, iv 2, iv 448, iv 519, iv 448, .unset, .unset, .unset]) rfl k) ?_
      refine Go.pull (V := T27.setTop (mkF m 35 #[iv pa, iv pb, iv 0, iv 2, iv 448, iv 519, iv 448, .unset, .unset, .unset] [(.int 103)])) (fun t k => XS.bipush X27.here hx rfl (hb hby at_33) k) ?_
      obtain ⟨_, _, ⟨T28, L28, k28, n28⟩, -, X28, ⟨Lc28, hQ28, l28, y28, z28⟩, st28⟩ := Jvm.LawKit.callS X27 hx (y := (⟨"com/example/facl/facl/ModeSpec", "part", "(C)I"⟩ : MethodName)) hown (mvT hZ (hw _ (List.mem_of_getElem? (i := 4) rfl))) (mvT hZ (hw _ (List.mem_of_getElem? (i := 5) rfl))) (mvT hZ (hw _ (List.mem_of_getElem? (i := 6) rfl))) (mvT hZ (hw _ (List.mem_of_getElem? (i := 7) rfl))) (by decide) (backOf (W := 0) (rmP l Z a0 hw [] (103 : Int32) h0 n0 (by decide)) hZ (hw _ (List.mem_of_getElem? (i := 7) rfl)) (hw _ (List.mem_of_getElem? (i := 6) rfl)) (by decide) (by decide)) (g := (mkF m 35 #[iv pa, iv pb, iv 0, iv 2, iv 448, iv 519, iv 448, .unset, .unset, .unset] [(.int 103)])) rfl (by rw [hml]; rfl) (argsL := [(.int 103)]) (rest := []) (lenOf pd_1 rfl) rfl (by show 2 * 0 + _ ≤ _; exact Nat.le_of_eq rfl) (hb hby at_35) (fun _ _ => ⟨rfl, e27, (by decide : 0 + 0 ≤ _), (by decide : 0 + 0 ≤ _)⟩)
      dsimp only [Pt.U, Pt.locs, Pt.cells, Pt.slots] at X28 l28 y28 z28 st28 hQ28
      subst l28 y28 z28
      obtain ⟨hv28, N28q, e28⟩ := hQ28
      rw [(show (own_part (103 : Int32)) = (56 : Int32) from by decide)] at hv28; subst hv28
      have N28 := Fr.app N27 N28q
      refine Go.pull (V := T28.setTop (mkF m 38 #[iv pa, iv pb, iv 0, iv 2, iv 448, iv 519, iv 448, .unset, .unset, .unset] [(.int 56)])) st28 ?_
      refine Go.pull (V := T28.setTop (mkF m 40 #[iv pa, iv pb, iv 0, iv 2, iv 448, iv 519, iv 448, iv 56, .unset, .unset] [])) (fun t k => XS.istore X28.here hx rfl (hb hby at_38) rfl (l' := #[iv pa, iv pb, iv 0, iv 2, iv 448, iv 519, iv 448, iv 56, .unset, .unset]) rfl k) ?_
      refine Go.pull (V := T28.setTop (mkF m 42 #[iv pa, iv pb, iv 0, iv 2, iv 448, iv 519, iv 448, iv 56, .unset, .unset] [(.int 111)])) (fun t k => XS.bipush X28.here hx rfl (hb hby at_40) k) ?_
      obtain ⟨_, _, ⟨T29, L29, k29, n29⟩, -, X29, ⟨Lc29, hQ29, l29, y29, z29⟩, st29⟩ := Jvm.LawKit.callS X28 hx (y := (⟨"com/example/facl/facl/ModeSpec", "part", "(C)I"⟩ : MethodName)) hown (mvT hZ (hw _ (List.mem_of_getElem? (i := 4) rfl))) (mvT hZ (hw _ (List.mem_of_getElem? (i := 5) rfl))) (mvT hZ (hw _ (List.mem_of_getElem? (i := 6) rfl))) (mvT hZ (hw _ (List.mem_of_getElem? (i := 7) rfl))) (by decide) (backOf (W := 0) (rmP l Z a0 hw [] (111 : Int32) h0 n0 (by decide)) hZ (hw _ (List.mem_of_getElem? (i := 7) rfl)) (hw _ (List.mem_of_getElem? (i := 6) rfl)) (by decide) (by decide)) (g := (mkF m 42 #[iv pa, iv pb, iv 0, iv 2, iv 448, iv 519, iv 448, iv 56, .unset, .unset] [(.int 111)])) rfl (by rw [hml]; rfl) (argsL := [(.int 111)]) (rest := []) (lenOf pd_1 rfl) rfl (by show 2 * 0 + _ ≤ _; exact Nat.le_of_eq rfl) (hb hby at_42) (fun _ _ => ⟨rfl, e28, (by decide : 0 + 0 ≤ _), (by decide : 0 + 0 ≤ _)⟩)
      dsimp only [Pt.U, Pt.locs, Pt.cells, Pt.slots] at X29 l29 y29 z29 st29 hQ29
      subst l29 y29 z29
      obtain ⟨hv29, N29q, e29⟩ := hQ29
      rw [(show (own_part (111 : Int32)) = (519 : Int32) from by decide)] at hv29; subst hv29
      have N29 := Fr.app N28 N29q
      refine Go.pull (V := T29.setTop (mkF m 45 #[iv pa, iv pb, iv 0, iv 2, iv 448, iv 519, iv 448, iv 56, .unset, .unset] [(.int 519)])) st29 ?_
      refine Go.pull (V := T29.setTop (mkF m 47 #[iv pa, iv pb, iv 0, iv 2, iv 448, iv 519, iv 448, iv 56, iv 519, .unset] [])) (fun t k => XS.istore X29.here hx rfl (hb hby at_45) rfl (l' := #[iv pa, iv pb, iv 0, iv 2, iv 448, iv 519, iv 448, iv 56, iv 519, .unset]) rfl k) ?_
      refine Go.pull (V := T29.setTop (mkF m 49 #[iv pa, iv pb, iv 0, iv 2, iv 448, iv 519, iv 448, iv 56, iv 519, .unset] [(.int 97)])) (fun t k => XS.bipush X29.here hx rfl (hb hby at_47) k) ?_
      obtain ⟨_, _, ⟨T30, L30, k30, n30⟩, -, X30, ⟨Lc30, hQ30, l30, y30, z30⟩, st30⟩ := Jvm.LawKit.callS X29 hx (y := (⟨"com/example/facl/facl/ModeSpec", "part", "(C)I"⟩ : MethodName)) hown (mvT hZ (hw _ (List.mem_of_getElem? (i := 4) rfl))) (mvT hZ (hw _ (List.mem_of_getElem? (i := 5) rfl))) (mvT hZ (hw _ (List.mem_of_getElem? (i := 6) rfl))) (mvT hZ (hw _ (List.mem_of_getElem? (i := 7) rfl))) (by decide) (backOf (W := 0) (rmP l Z a0 hw [] (97 : Int32) h0 n0 (by decide)) hZ (hw _ (List.mem_of_getElem? (i := 7) rfl)) (hw _ (List.mem_of_getElem? (i := 6) rfl)) (by decide) (by decide)) (g := (mkF m 49 #[iv pa, iv pb, iv 0, iv 2, iv 448, iv 519, iv 448, iv 56, iv 519, .unset] [(.int 97)])) rfl (by rw [hml]; rfl) (argsL := [(.int 97)]) (rest := []) (lenOf pd_1 rfl) rfl (by show 2 * 0 + _ ≤ _; exact Nat.le_of_eq rfl) (hb hby at_49) (fun _ _ => ⟨rfl, e29, (by decide : 0 + 0 ≤ _), (by decide : 0 + 0 ≤ _)⟩)
      dsimp only [Pt.U, Pt.locs, Pt.cells, Pt.slots] at X30 l30 y30 z30 st30 hQ30
      subst l30 y30 z30
      obtain ⟨hv30, N30q, e30⟩ := hQ30
      rw [(show (own_part (97 : Int32)) = (1023 : Int32) from by decide)] at hv30; subst hv30
      have N30 := Fr.app N29 N30q
      refine Go.pull (V := T30.setTop (mkF m 52 #[iv pa, iv pb, iv 0, iv 2, iv 448, iv 519, iv 448, iv 56, iv 519, .unset] [(.int 1023)])) st30 ?_
      refine Go.pull (V := T30.setTop (mkF m 54 #[iv pa, iv pb, iv 0, iv 2, iv 448, iv 519, iv 448, iv 56, iv 519, iv 1023] [])) (fun t k => XS.istore X30.here hx rfl (hb hby at_52) rfl (l' := #[iv pa, iv pb, iv 0, iv 2, iv 448, iv 519, iv 448, iv 56, iv 519, iv 1023]) rfl k) ?_
      refine Go.pull (V := T30.setTop (mkF m 56 #[iv pa, iv pb, iv 0, iv 2, iv 448, iv 519, iv 448, iv 56, iv 519, iv 1023] [(.int 448)])) (fun t k => XS.iload X30.here hx rfl (hb hby at_54) rfl  k) ?_
      refine Go.pull (V := T30.setTop (mkF m 57 #[iv pa, iv pb, iv 0, iv 2, iv 448, iv 519, iv 448, iv 56, iv 519, iv 1023] [(.int 0), (.int 448)])) (fun t k => XS.iloadN X30.here hx rfl (hb hby at_56) rfl  k) ?_
      obtain ⟨_, _, ⟨T31, L31, k31, n31⟩, -, X31, ⟨Lc31, hQ31, l31, y31, z31⟩, st31⟩ := Jvm.LawKit.callS X30 hx (y := (⟨"com/example/facl/facl/ModeSpecPartPinLaw", "expected", "(I)I"⟩ : MethodName)) hown (mvT hZ (hw _ (List.mem_of_getElem? (i := 8) rfl))) (mvT hZ (hw _ (List.mem_of_getElem? (i := 9) rfl))) (mvT hZ (hw _ (List.mem_of_getElem? (i := 2) rfl))) (mvT hZ (hw _ (List.mem_of_getElem? (i := 10) rfl))) (by decide) (backOf (W := 1) (rmX l Z a0 hw [] (0 : Int32) h0 n0 ) hZ (hw _ (List.mem_of_getElem? (i := 10) rfl)) (hw _ (List.mem_of_getElem? (i := 2) rfl)) (by decide) (by decide)) (g := (mkF m 57 #[iv pa, iv pb, iv 0, iv 2, iv 448, iv 519, iv 448, iv 56, iv 519, iv 1023] [(.int 0), (.int 448)])) rfl (by rw [hml]; rfl) (argsL := [(.int 0)]) (rest := [(.int 448)]) (lenOf pd_2 rfl) rfl (by show 2 * 0 + _ ≤ _; exact Nat.le_of_eq rfl) (hb hby at_57) (fun _ _ => ⟨rfl, e30, (by decide : 0 + 0 ≤ _), (by decide : 0 + 0 ≤ _)⟩)
      dsimp only [Pt.U, Pt.locs, Pt.cells, Pt.slots] at X31 l31 y31 z31 st31 hQ31
      subst l31 y31 z31
      obtain ⟨hv31, N31q, e31⟩ := hQ31
      rw [(show (own_expected (0 : Int32)) = (448 : Int32) from by decide)] at hv31; subst hv31
      have N31 := Fr.app N30 N31q
      refine Go.pull (V := T31.setTop (mkF m 60 #[iv pa, iv pb, iv 0, iv 2, iv 448, iv 519, iv 448, iv 56, iv 519, iv 1023] [(.int 448), (.int 448)])) st31 ?_
      refine Go.pull (V := T31.setTop (mkF m 63 #[iv pa, iv pb, iv 0, iv 2, iv 448, iv 519, iv 448, iv 56, iv 519, iv 1023] [])) (fun t k => XS.icmpNo X31.here hx rfl (hb hby at_60) rfl (XT.ii_ne_f (by decide)) k) ?_
      refine Go.pull (V := T31.setTop (mkF m 65 #[iv pa, iv pb, iv 0, iv 2, iv 448, iv 519, iv 448, iv 56, iv 519, iv 1023] [(.int 519)])) (fun t k => XS.iload X31.here hx rfl (hb hby at_63) rfl  k) ?_
      refine Go.pull (V := T31.setTop (mkF m 66 #[iv pa, iv pb, iv 0, iv 2, iv 448, iv 519, iv 448, iv 56, iv 519, iv 1023] [(.int 2), (.int 519)])) (fun t k => XS.iloadN X31.here hx rfl (hb hby at_65) rfl  k) ?_
      obtain ⟨_, _, ⟨T32, L32, k32, n32⟩, -, X32, ⟨Lc32, hQ32, l32, y32, z32⟩, st32⟩ := Jvm.LawKit.callS X31 hx (y := (⟨"com/example/facl/facl/ModeSpecPartPinLaw", "expected", "(I)I"⟩ : MethodName)) hown (mvT hZ (hw _ (List.mem_of_getElem? (i := 8) rfl))) (mvT hZ (hw _ (List.mem_of_getElem? (i := 9) rfl))) (mvT hZ (hw _ (List.mem_of_getElem? (i := 2) rfl))) (mvT hZ (hw _ (List.mem_of_getElem? (i := 10) rfl))) (by decide) (backOf (W := 1) (rmX l Z a0 hw [] (2 : Int32) h0 n0 ) hZ (hw _ (List.mem_of_getElem? (i := 10) rfl)) (hw _ (List.mem_of_getElem? (i := 2) rfl)) (by decide) (by decide)) (g := (mkF m 66 #[iv pa, iv pb, iv 0, iv 2, iv 448, iv 519, iv 448, iv 56, iv 519, iv 1023] [(.int 2), (.int 519)])) rfl (by rw [hml]; rfl) (argsL := [(.int 2)]) (rest := [(.int 519)]) (lenOf pd_2 rfl) rfl (by show 2 * 0 + _ ≤ _; exact Nat.le_of_eq rfl) (hb hby at_66) (fun _ _ => ⟨rfl, e31, (by decide : 0 + 0 ≤ _), (by decide : 0 + 0 ≤ _)⟩)
      dsimp only [Pt.U, Pt.locs, Pt.cells, Pt.slots] at X32 l32 y32 z32 st32 hQ32
      subst l32 y32 z32
      obtain ⟨hv32, N32q, e32⟩ := hQ32
      rw [(show (own_expected (2 : Int32)) = (519 : Int32) from by decide)] at hv32; subst hv32
      have N32 := Fr.app N31 N32q
      refine Go.pull (V := T32.setTop (mkF m 69 #[iv pa, iv pb, iv 0, iv 2, iv 448, iv 519, iv 448, iv 56, iv 519, iv 1023] [(.int 519), (.int 519)])) st32 ?_
      refine Go.pull (V := T32.setTop (mkF m 74 #[iv pa, iv pb, iv 0, iv 2, iv 448, iv 519, iv 448, iv 56, iv 519, iv 1023] [])) (fun t k => XS.icmpYes X32.here hx rfl (pc0 := 69) (pc' := 74) rfl (hb hby at_69) rfl (XT.ii_eq_t (by decide)) (by decide) (by decide) k) ?_
      refine Go.pull (V := T32.setTop (mkF m 76 #[iv pa, iv pb, iv 0, iv 2, iv 448, iv 519, iv 448, iv 56, iv 519, iv 1023] [(.int 448)])) (fun t k => XS.iload X32.here hx rfl (hb hby at_74) rfl  k) ?_
      refine Go.pull (V := T32.setTop (mkF m 79 #[iv pa, iv pb, iv 0, iv 2, iv 448, iv 519, iv 448, iv 56, iv 519, iv 1023] [(.int (-1024)), (.int 448)])) (fun t k => XS.sipush X32.here hx rfl (hb hby at_76) k) ?_
      refine Go.pull (V := T32.setTop (mkF m 80 #[iv pa, iv pb, iv 0, iv 2, iv 448, iv 519, iv 448, iv 56, iv 519, iv 1023] [(.int 0)])) (fun t k => XS.iand X32.here hx rfl (hb hby at_79) rfl k) ?_
      refine Go.pull (V := T32.setTop (mkF m 83 #[iv pa, iv pb, iv 0, iv 2, iv 448, iv 519, iv 448, iv 56, iv 519, iv 1023] [])) (fun t k => XS.ifNo X32.here hx rfl (hb hby at_80) rfl (XT.i0_ne_f (by decide)) k) ?_
      refine Go.pull (V := T32.setTop (mkF m 85 #[iv pa, iv pb, iv 0, iv 2, iv 448, iv 519, iv 448, iv 56, iv 519, iv 1023] [(.int 519)])) (fun t k => XS.iload X32.here hx rfl (hb hby at_83) rfl  k) ?_
      refine Go.pull (V := T32.setTop (mkF m 88 #[iv pa, iv pb, iv 0, iv 2, iv 448, iv 519, iv 448, iv 56, iv 519, iv 1023] [(.int (-1024)), (.int 519)])) (fun t k => XS.sipush X32.here hx rfl (hb hby at_85) k) ?_
      refine Go.pull (V := T32.setTop (mkF m 89 #[iv pa, iv pb, iv 0, iv 2, iv 448, iv 519, iv 448, iv 56, iv 519, iv 1023] [(.int 0)])) (fun t k => XS.iand X32.here hx rfl (hb hby at_88) rfl k) ?_
      refine Go.pull (V := T32.setTop (mkF m 94 #[iv pa, iv pb, iv 0, iv 2, iv 448, iv 519, iv 448, iv 56, iv 519, iv 1023] [])) (fun t k => XS.ifYes X32.here hx rfl (pc0 := 89) (pc' := 94) rfl (hb hby at_89) rfl (XT.i0_eq_t (by decide)) (by decide) (by decide) k) ?_
      refine Go.pull (V := T32.setTop (mkF m 96 #[iv pa, iv pb, iv 0, iv 2, iv 448, iv 519, iv 448, iv 56, iv 519, iv 1023] [(.int 1023)])) (fun t k => XS.iload X32.here hx rfl (hb hby at_94) rfl  k) ?_
      refine Go.pull (V := T32.setTop (mkF m 99 #[iv pa, iv pb, iv 0, iv 2, iv 448, iv 519, iv 448, iv 56, iv 519, iv 1023] [(.int 1023), (.int 1023)])) (fun t k => XS.sipush X32.here hx rfl (hb hby at_96) k) ?_
      refine Go.pull (V := T32.setTop (mkF m 102 #[iv pa, iv pb, iv 0, iv 2, iv 448, iv 519, iv 448, iv 56, iv 519, iv 1023] [])) (fun t k => XS.icmpNo X32.here hx rfl (hb hby at_99) rfl (XT.ii_ne_f (by decide)) k) ?_
      refine Go.pull (V := T32.setTop (mkF m 104 #[iv pa, iv pb, iv 0, iv 2, iv 448, iv 519, iv 448, iv 56, iv 519, iv 1023] [(.int 448)])) (fun t k => XS.iload X32.here hx rfl (hb hby at_102) rfl  k) ?_
      refine Go.pull (V := T32.setTop (mkF m 106 #[iv pa, iv pb, iv 0, iv 2, iv 448, iv 519, iv 448, iv 56, iv 519, iv 1023] [(.int 56), (.int 448)])) (fun t k => XS.iload X32.here hx rfl (hb hby at_104) rfl  k) ?_
      refine Go.pull (V := T32.setTop (mkF m 107 #[iv pa, iv pb, iv 0, iv 2, iv 448, iv 519, iv 448, iv 56, iv 519, iv 1023] [(.int 504)])) (fun t k => XS.ior X32.here hx rfl (hb hby at_106) rfl k) ?_
      refine Go.pull (V := T32.setTop (mkF m 109 #[iv pa, iv pb, iv 0, iv 2, iv 448, iv 519, iv 448, iv 56, iv 519, iv 1023] [(.int 519), (.int 504)])) (fun t k => XS.iload X32.here hx rfl (hb hby at_107) rfl  k) ?_
      refine Go.pull (V := T32.setTop (mkF m 110 #[iv pa, iv pb, iv 0, iv 2, iv 448, iv 519, iv 448, iv 56, iv 519, iv 1023] [(.int 1023)])) (fun t k => XS.ior X32.here hx rfl (hb hby at_109) rfl k) ?_
      refine Go.pull (V := T32.setTop (mkF m 112 #[iv pa, iv pb, iv 0, iv 2, iv 448, iv 519, iv 448, iv 56, iv 519, iv 1023] [(.int 1023), (.int 1023)])) (fun t k => XS.iload X32.here hx rfl (hb hby at_110) rfl  k) ?_
      refine Go.pull (V := T32.setTop (mkF m 117 #[iv pa, iv pb, iv 0, iv 2, iv 448, iv 519, iv 448, iv 56, iv 519, iv 1023] [])) (fun t k => XS.icmpYes X32.here hx rfl (pc0 := 112) (pc' := 117) rfl (hb hby at_112) rfl (XT.ii_eq_t (by decide)) (by decide) (by decide) k) ?_
      refine Go.pull (V := T32.setTop (mkF m 119 #[iv pa, iv pb, iv 0, iv 2, iv 448, iv 519, iv 448, iv 56, iv 519, iv 1023] [(.int 448)])) (fun t k => XS.iload X32.here hx rfl (hb hby at_117) rfl  k) ?_
      refine Go.pull (V := T32.setTop (mkF m 121 #[iv pa, iv pb, iv 0, iv 2, iv 448, iv 519, iv 448, iv 56, iv 519, iv 1023] [(.int 56), (.int 448)])) (fun t k => XS.iload X32.here hx rfl (hb hby at_119) rfl  k) ?_
      refine Go.pull (V := T32.setTop (mkF m 122 #[iv pa, iv pb, iv 0, iv 2, iv 448, iv 519, iv 448, iv 56, iv 519, iv 1023] [(.int 0)])) (fun t k => XS.iand X32.here hx rfl (hb hby at_121) rfl k) ?_
      refine Go.pull (V := T32.setTop (mkF m 125 #[iv pa, iv pb, iv 0, iv 2, iv 448, iv 519, iv 448, iv 56, iv 519, iv 1023] [])) (fun t k => XS.ifNo X32.here hx rfl (hb hby at_122) rfl (XT.i0_ne_f (by decide)) k) ?_
      refine Go.pull (V := T32.setTop (mkF m 127 #[iv pa, iv pb, iv 0, iv 2, iv 448, iv 519, iv 448, iv 56, iv 519, iv 1023] [(.int 448)])) (fun t k => XS.iload X32.here hx rfl (hb hby at_125) rfl  k) ?_
      refine Go.pull (V := T32.setTop (mkF m 129 #[iv pa, iv pb, iv 0, iv 2, iv 448, iv 519, iv 448, iv 56, iv 519, iv 1023] [(.int 519), (.int 448)])) (fun t k => XS.iload X32.here hx rfl (hb hby at_127) rfl  k) ?_
      refine Go.pull (V := T32.setTop (mkF m 130 #[iv pa, iv pb, iv 0, iv 2, iv 448, iv 519, iv 448, iv 56, iv 519, iv 1023] [(.int 0)])) (fun t k => XS.iand X32.here hx rfl (hb hby at_129) rfl k) ?_
      refine Go.pull (V := T32.setTop (mkF m 133 #[iv pa, iv pb, iv 0, iv 2, iv 448, iv 519, iv 448, iv 56, iv 519, iv 1023] [])) (fun t k => XS.ifNo X32.here hx rfl (hb hby at_130) rfl (XT.i0_ne_f (by decide)) k) ?_
      refine Go.pull (V := T32.setTop (mkF m 135 #[iv pa, iv pb, iv 0, iv 2, iv 448, iv 519, iv 448, iv 56, iv 519, iv 1023] [(.int 56)])) (fun t k => XS.iload X32.here hx rfl (hb hby at_133) rfl  k) ?_
      refine Go.pull (V := T32.setTop (mkF m 137 #[iv pa, iv pb, iv 0, iv 2, iv 448, iv 519, iv 448, iv 56, iv 519, iv 1023] [(.int 519), (.int 56)])) (fun t k => XS.iload X32.here hx rfl (hb hby at_135) rfl  k) ?_
      refine Go.pull (V := T32.setTop (mkF m 138 #[iv pa, iv pb, iv 0, iv 2, iv 448, iv 519, iv 448, iv 56, iv 519, iv 1023] [(.int 0)])) (fun t k => XS.iand X32.here hx rfl (hb hby at_137) rfl k) ?_
      refine Go.pull (V := T32.setTop (mkF m 143 #[iv pa, iv pb, iv 0, iv 2, iv 448, iv 519, iv 448, iv 56, iv 519, iv 1023] [])) (fun t k => XS.ifYes X32.here hx rfl (pc0 := 138) (pc' := 143) rfl (hb hby at_138) rfl (XT.i0_eq_t (by decide)) (by decide) (by decide) k) ?_
      refine Go.pull (V := T32.setTop (mkF m 144 #[iv pa, iv pb, iv 0, iv 2, iv 448, iv 519, iv 448, iv 56, iv 519, iv 1023] [(.int 0)])) (fun t k => XS.iloadN X32.here hx rfl (hb hby at_143) rfl  k) ?_
      refine Go.pull (V := T32.setTop (mkF m 145 #[iv pa, iv pb, iv 0, iv 2, iv 448, iv 519, iv 448, iv 56, iv 519, iv 1023] [(.int 2), (.int 0)])) (fun t k => XS.iloadN X32.here hx rfl (hb hby at_144) rfl  k) ?_
      refine Go.pull (V := T32.setTop (mkF m 148 #[iv pa, iv pb, iv 0, iv 2, iv 448, iv 519, iv 448, iv 56, iv 519, iv 1023] [])) (fun t k => XS.icmpNo X32.here hx rfl (hb hby at_145) rfl (XT.ii_eq_f (by decide)) k) ?_
      refine Go.pull (V := T32.setTop (mkF m 149 #[iv pa, iv pb, iv 0, iv 2, iv 448, iv 519, iv 448, iv 56, iv 519, iv 1023] [(.int 0)])) (fun t k => XS.iloadN X32.here hx rfl (hb hby at_148) rfl  k) ?_
      refine Go.pull (V := T32.setTop (mkF m 150 #[iv pa, iv pb, iv 0, iv 2, iv 448, iv 519, iv 448, iv 56, iv 519, iv 1023] [(.int 3), (.int 0)])) (fun t k => XS.iconst X32.here hx rfl (hb hby at_149) k) ?_
      refine Go.pull (V := T32.setTop (mkF m 153 #[iv pa, iv pb, iv 0, iv 2, iv 448, iv 519, iv 448, iv 56, iv 519, iv 1023] [])) (fun t k => XS.icmpNo X32.here hx rfl (hb hby at_150) rfl (XT.ii_eq_f (by decide)) k) ?_
      refine Go.pull (V := T32.setTop (mkF m 154 #[iv pa, iv pb, iv 0, iv 2, iv 448, iv 519, iv 448, iv 56, iv 519, iv 1023] [(.int 2)])) (fun t k => XS.iloadN X32.here hx rfl (hb hby at_153) rfl  k) ?_
      refine Go.pull (V := T32.setTop (mkF m 155 #[iv pa, iv pb, iv 0, iv 2, iv 448, iv 519, iv 448, iv 56, iv 519, iv 1023] [(.int 3), (.int 2)])) (fun t k => XS.iconst X32.here hx rfl (hb hby at_154) k) ?_
      refine Go.pull (V := T32.setTop (mkF m 158 #[iv pa, iv pb, iv 0, iv 2, iv 448, iv 519, iv 448, iv 56, iv 519, iv 1023] [])) (fun t k => XS.icmpNo X32.here hx rfl (hb hby at_155) rfl (XT.ii_eq_f (by decide)) k) ?_
      refine Go.pull (V := T32.setTop (mkF m 160 #[iv pa, iv pb, iv 0, iv 2, iv 448, iv 519, iv 448, iv 56, iv 519, iv 1023] [(.int 448)])) (fun t k => XS.iload X32.here hx rfl (hb hby at_158) rfl  k) ?_
      refine Go.pull (V := T32.setTop (mkF m 162 #[iv pa, iv pb, iv 0, iv 2, iv 448, iv 519, iv 448, iv 56, iv 519, iv 1023] [(.int 519), (.int 448)])) (fun t k => XS.iload X32.here hx rfl (hb hby at_160) rfl  k) ?_
      refine Go.pull (V := T32.setTop (mkF m 163 #[iv pa, iv pb, iv 0, iv 2, iv 448, iv 519, iv 448, iv 56, iv 519, iv 1023] [(.int 0)])) (fun t k => XS.iand X32.here hx rfl (hb hby at_162) rfl k) ?_
      refine Go.pull (V := T32.setTop (mkF m 168 #[iv pa, iv pb, iv 0, iv 2, iv 448, iv 519, iv 448, iv 56, iv 519, iv 1023] [])) (fun t k => XS.ifYes X32.here hx rfl (pc0 := 163) (pc' := 168) rfl (hb hby at_163) rfl (XT.i0_eq_t (by decide)) (by decide) (by decide) k) ?_
      refine Go.pull (V := T32.setTop (mkF m 170 #[iv pa, iv pb, iv 0, iv 2, iv 448, iv 519, iv 448, iv 56, iv 519, iv 1023] [(.int 519)])) (fun t k => XS.iload X32.here hx rfl (hb hby at_168) rfl  k) ?_
      refine Go.pull (V := T32.setTop (mkF m 173 #[iv pa, iv pb, iv 0, iv 2, iv 448, iv 519, iv 448, iv 56, iv 519, iv 1023] [(.int 512), (.int 519)])) (fun t k => XS.sipush X32.here hx rfl (hb hby at_170) k) ?_
      refine Go.pull (V := T32.setTop (mkF m 174 #[iv pa, iv pb, iv 0, iv 2, iv 448, iv 519, iv 448, iv 56, iv 519, iv 1023] [(.int 512)])) (fun t k => XS.iand X32.here hx rfl (hb hby at_173) rfl k) ?_
      refine Go.pull (V := T32.setTop (mkF m 177 #[iv pa, iv pb, iv 0, iv 2, iv 448, iv 519, iv 448, iv 56, iv 519, iv 1023] [])) (fun t k => XS.ifNo X32.here hx rfl (hb hby at_174) rfl (XT.i0_eq_f (by decide)) k) ?_
      refine Go.pull (V := T32.setTop (mkF m 179 #[iv pa, iv pb, iv 0, iv 2, iv 448, iv 519, iv 448, iv 56, iv 519, iv 1023] [(.int 448)])) (fun t k => XS.iload X32.here hx rfl (hb hby at_177) rfl  k) ?_
      refine Go.pull (V := T32.setTop (mkF m 181 #[iv pa, iv pb, iv 0, iv 2, iv 448, iv 519, iv 448, iv 56, iv 519, iv 1023] [(.int 56), (.int 448)])) (fun t k => XS.iload X32.here hx rfl (hb hby at_179) rfl  k) ?_
      refine Go.pull (V := T32.setTop (mkF m 182 #[iv pa, iv pb, iv 0, iv 2, iv 448, iv 519, iv 448, iv 56, iv 519, iv 1023] [(.int 504)])) (fun t k => XS.ior X32.here hx rfl (hb hby at_181) rfl k) ?_
      refine Go.pull (V := T32.setTop (mkF m 185 #[iv pa, iv pb, iv 0, iv 2, iv 448, iv 519, iv 448, iv 56, iv 519, iv 1023] [(.int 512), (.int 504)])) (fun t k => XS.sipush X32.here hx rfl (hb hby at_182) k) ?_
      refine Go.pull (V := T32.setTop (mkF m 186 #[iv pa, iv pb, iv 0, iv 2, iv 448, iv 519, iv 448, iv 56, iv 519, iv 1023] [(.int 0)])) (fun t k => XS.iand X32.here hx rfl (hb hby at_185) rfl k) ?_
      refine Go.pull (V := T32.setTop (mkF m 191 #[iv pa, iv pb, iv 0, iv 2, iv 448, iv 519, iv 448, iv 56, iv 519, iv 1023] [])) (fun t k => XS.ifYes X32.here hx rfl (pc0 := 186) (pc' := 191) rfl (hb hby at_186) rfl (XT.i0_eq_t (by decide)) (by decide) (by decide) k) ?_
      refine Go.pull (V := T32.setTop (mkF m 192 #[iv pa, iv pb, iv 0, iv 2, iv 448, iv 519, iv 448, iv 56, iv 519, iv 1023] [(.int 1)])) (fun t k => XS.iconst X32.here hx rfl (hb hby at_191) k) ?_
      exact Go.retN X32 hx Bd.notSynchronized (t := .boolean) Bd.returns (by simp) (hb hby at_192) ⟨rfl, N32⟩ (by decide) (by decide)
    · subst hv2
      refine Go.pull (V := s₁.setTop (mkF m 9 #[iv pa, iv pb, iv 0, iv 3, .unset, .unset, .unset, .unset, .unset, .unset] [(.int 0)])) (fun t k => XS.iloadN X0.here hx rfl (hb hby at_8) rfl  k) ?_
      obtain ⟨_, _, ⟨T33, L33, k33, n33⟩, -, X33, ⟨Lc33, hQ33, l33, y33, z33⟩, st33⟩ := Jvm.LawKit.callS X0 hx (y := (⟨"com/example/facl/facl/ModeSpecPartPinLaw", "letter", "(I)C"⟩ : MethodName)) hown (mvT hZ (hw _ (List.mem_of_getElem? (i := 0) rfl))) (mvT hZ (hw _ (List.mem_of_getElem? (i := 1) rfl))) (mvT hZ (hw _ (List.mem_of_getElem? (i := 2) rfl))) (mvT hZ (hw _ (List.mem_of_getElem? (i := 3) rfl))) (by decide) (backOf (W := 0) (rmL l Z a0 hw [] (0 : Int32) h0 n0 ) hZ (hw _ (List.mem_of_getElem? (i := 3) rfl)) (hw _ (List.mem_of_getElem? (i := 2) rfl)) (by decide) (by decide)) (g := (mkF m 9 #[iv pa, iv pb, iv 0, iv 3, .unset, .unset, .unset, .unset, .unset, .unset] [(.int 0)])) rfl (by rw [hml]; rfl) (argsL := [(.int 0)]) (rest := []) (lenOf pd_0 rfl) rfl (by show 2 * 0 + _ ≤ _; exact Nat.le_of_eq rfl) (hb hby at_9) (fun _ _ => ⟨rfl, e0, (by decide : 0 + 0 ≤ _), (by decide : 0 + 0 ≤ _)⟩)
      dsimp only [Pt.U, Pt.locs, Pt.cells, Pt.slots] at X33 l33 y33 z33 st33 hQ33
      subst l33 y33 z33
      obtain ⟨hv33, N33q, e33⟩ := hQ33
      rw [(show (own_letter (0 : Int32)) = (117 : Int32) from by decide)] at hv33; subst hv33
      have N33 := Fr.app N0 N33q
      refine Go.pull (V := T33.setTop (mkF m 12 #[iv pa, iv pb, iv 0, iv 3, .unset, .unset, .unset, .unset, .unset, .unset] [(.int 117)])) st33 ?_
      obtain ⟨_, _, ⟨T34, L34, k34, n34⟩, -, X34, ⟨Lc34, hQ34, l34, y34, z34⟩, st34⟩ := Jvm.LawKit.callS X33 hx (y := (⟨"com/example/facl/facl/ModeSpec", "part", "(C)I"⟩ : MethodName)) hown (mvT hZ (hw _ (List.mem_of_getElem? (i := 4) rfl))) (mvT hZ (hw _ (List.mem_of_getElem? (i := 5) rfl))) (mvT hZ (hw _ (List.mem_of_getElem? (i := 6) rfl))) (mvT hZ (hw _ (List.mem_of_getElem? (i := 7) rfl))) (by decide) (backOf (W := 0) (rmP l Z a0 hw [] (117 : Int32) h0 n0 (by decide)) hZ (hw _ (List.mem_of_getElem? (i := 7) rfl)) (hw _ (List.mem_of_getElem? (i := 6) rfl)) (by decide) (by decide)) (g := (mkF m 12 #[iv pa, iv pb, iv 0, iv 3, .unset, .unset, .unset, .unset, .unset, .unset] [(.int 117)])) rfl (by rw [hml]; rfl) (argsL := [(.int 117)]) (rest := []) (lenOf pd_1 rfl) rfl (by show 2 * 0 + _ ≤ _; exact Nat.le_of_eq rfl) (hb hby at_12) (fun _ _ => ⟨rfl, e33, (by decide : 0 + 0 ≤ _), (by decide : 0 + 0 ≤ _)⟩)
      dsimp only [Pt.U, Pt.locs, Pt.cells, Pt.slots] at X34 l34 y34 z34 st34 hQ34
      subst l34 y34 z34
      obtain ⟨hv34, N34q, e34⟩ := hQ34
      rw [(show (own_part (117 : Int32)) = (448 : Int32) from by decide)] at hv34; subst hv34
      have N34 := Fr.app N33 N34q
      refine Go.pull (V := T34.setTop (mkF m 15 #[iv pa, iv pb, iv 0, iv 3, .unset, .unset, .unset, .unset, .unset, .unset] [(.int 448)])) st34 ?_
      refine Go.pull (V := T34.setTop (mkF m 17 #[iv pa, iv pb, iv 0, iv 3, iv 448, .unset, .unset, .unset, .unset, .unset] [])) (fun t k => XS.istore X34.here hx rfl (hb hby at_15) rfl (l' := #[iv pa, iv pb, iv 0, iv 3, iv 448, .unset, .unset, .unset, .unset, .unset]) rfl k) ?_
      refine Go.pull (V := T34.setTop (mkF m 18 #[iv pa, iv pb, iv 0, iv 3, iv 448, .unset, .unset, .unset, .unset, .unset] [(.int 3)])) (fun t k => XS.iloadN X34.here hx rfl (hb hby at_17) rfl  k) ?_
      obtain ⟨_, _, ⟨T35, L35, k35, n35⟩, -, X35, ⟨Lc35, hQ35, l35, y35, z35⟩, st35⟩ := Jvm.LawKit.callS X34 hx (y := (⟨"com/example/facl/facl/ModeSpecPartPinLaw", "letter", "(I)C"⟩ : MethodName)) hown (mvT hZ (hw _ (List.mem_of_getElem? (i := 0) rfl))) (mvT hZ (hw _ (List.mem_of_getElem? (i := 1) rfl))) (mvT hZ (hw _ (List.mem_of_getElem? (i := 2) rfl))) (mvT hZ (hw _ (List.mem_of_getElem? (i := 3) rfl))) (by decide) (backOf (W := 0) (rmL l Z a0 hw [] (3 : Int32) h0 n0 ) hZ (hw _ (List.mem_of_getElem? (i := 3) rfl)) (hw _ (List.mem_of_getElem? (i := 2) rfl)) (by decide) (by decide)) (g := (mkF m 18 #[iv pa, iv pb, iv 0, iv 3, iv 448, .unset, .unset, .unset, .unset, .unset] [(.int 3)])) rfl (by rw [hml]; rfl) (argsL := [(.int 3)]) (rest := []) (lenOf pd_0 rfl) rfl (by show 2 * 0 + _ ≤ _; exact Nat.le_of_eq rfl) (hb hby at_18) (fun _ _ => ⟨rfl, e34, (by decide : 0 + 0 ≤ _), (by decide : 0 + 0 ≤ _)⟩)
      dsimp only [Pt.U, Pt.locs, Pt.cells, Pt.slots] at X35 l35 y35 z35 st35 hQ35
      subst l35 y35 z35
      obtain ⟨hv35, N35q, e35⟩ := hQ35
      rw [(show (own_letter (3 : Int32)) = (97 : Int32) from by decide)] at hv35; subst hv35
      have N35 := Fr.app N34 N35q
      refine Go.pull (V := T35.setTop (mkF m 21 #[iv pa, iv pb, iv 0, iv 3, iv 448, .unset, .unset, .unset, .unset, .unset] [(.int 97)])) st35 ?_
      obtain ⟨_, _, ⟨T36, L36, k36, n36⟩, -, X36, ⟨Lc36, hQ36, l36, y36, z36⟩, st36⟩ := Jvm.LawKit.callS X35 hx (y := (⟨"com/example/facl/facl/ModeSpec", "part", "(C)I"⟩ : MethodName)) hown (mvT hZ (hw _ (List.mem_of_getElem? (i := 4) rfl))) (mvT hZ (hw _ (List.mem_of_getElem? (i := 5) rfl))) (mvT hZ (hw _ (List.mem_of_getElem? (i := 6) rfl))) (mvT hZ (hw _ (List.mem_of_getElem? (i := 7) rfl))) (by decide) (backOf (W := 0) (rmP l Z a0 hw [] (97 : Int32) h0 n0 (by decide)) hZ (hw _ (List.mem_of_getElem? (i := 7) rfl)) (hw _ (List.mem_of_getElem? (i := 6) rfl)) (by decide) (by decide)) (g := (mkF m 21 #[iv pa, iv pb, iv 0, iv 3, iv 448, .unset, .unset, .unset, .unset, .unset] [(.int 97)])) rfl (by rw [hml]; rfl) (argsL := [(.int 97)]) (rest := []) (lenOf pd_1 rfl) rfl (by show 2 * 0 + _ ≤ _; exact Nat.le_of_eq rfl) (hb hby at_21) (fun _ _ => ⟨rfl, e35, (by decide : 0 + 0 ≤ _), (by decide : 0 + 0 ≤ _)⟩)
      dsimp only [Pt.U, Pt.locs, Pt.cells, Pt.slots] at X36 l36 y36 z36 st36 hQ36
      subst l36 y36 z36
      obtain ⟨hv36, N36q, e36⟩ := hQ36
      rw [(show (own_part (97 : Int32)) = (1023 : Int32) from by decide)] at hv36; subst hv36
      have N36 := Fr.app N35 N36q
      refine Go.pull (V := T36.setTop (mkF m 24 #[iv pa, iv pb, iv 0, iv 3, iv 448, .unset, .unset, .unset, .unset, .unset] [(.int 1023)])) st36 ?_
      refine Go.pull (V := T36.setTop (mkF m 26 #[iv pa, iv pb, iv 0, iv 3, iv 448, iv 1023, .unset, .unset, .unset, .unset] [])) (fun t k => XS.istore X36.here hx rfl (hb hby at_24) rfl (l' := #[iv pa, iv pb, iv 0, iv 3, iv 448, iv 1023, .unset, .unset, .unset, .unset]) rfl k) ?_
      refine Go.pull (V := T36.setTop (mkF m 28 #[iv pa, iv pb, iv 0, iv 3, iv 448, iv 1023, .unset, .unset, .unset, .unset] [(.int 117)])) (fun t k => XS.bipush X36.here hx rfl (hb hby at_26) k) ?_
      obtain ⟨_, _, ⟨T37, L37, k37, n37⟩, -, X37, ⟨Lc37, hQ37, l37, y37, z37⟩, st37⟩ := Jvm.LawKit.callS X36 hx (y := (⟨"com/example/facl/facl/ModeSpec", "part", "(C)I"⟩ : MethodName)) hown (mvT hZ (hw _ (List.mem_of_getElem? (i := 4) rfl))) (mvT hZ (hw _ (List.mem_of_getElem? (i := 5) rfl))) (mvT hZ (hw _ (List.mem_of_getElem? (i := 6) rfl))) (mvT hZ (hw _ (List.mem_of_getElem? (i := 7) rfl))) (by decide) (backOf (W := 0) (rmP l Z a0 hw [] (117 : Int32) h0 n0 (by decide)) hZ (hw _ (List.mem_of_getElem? (i := 7) rfl)) (hw _ (List.mem_of_getElem? (i := 6) rfl)) (by decide) (by decide)) (g := (mkF m 28 #[iv pa, iv pb, iv 0, iv 3, iv 448, iv 1023, .unset, .unset, .unset, .unset] [(.int 117)])) rfl (by rw [hml]; rfl) (argsL := [(.int 117)]) (rest := []) (lenOf pd_1 rfl) rfl (by show 2 * 0 + _ ≤ _; exact Nat.le_of_eq rfl) (hb hby at_28) (fun _ _ => ⟨rfl, e36, (by decide : 0 + 0 ≤ _), (by decide : 0 + 0 ≤ _)⟩)
      dsimp only [Pt.U, Pt.locs, Pt.cells, Pt.slots] at X37 l37 y37 z37 st37 hQ37
      subst l37 y37 z37
      obtain ⟨hv37, N37q, e37⟩ := hQ37
      rw [(show (own_part (117 : Int32)) = (448 : Int32) from by decide)] at hv37; subst hv37
      have N37 := Fr.app N36 N37q
      refine Go.pull (V := T37.setTop (mkF m 31 #[iv pa, iv pb, iv 0, iv 3, iv 448, iv 1023, .unset, .unset, .unset, .unset] [(.int 448)])) st37 ?_
      refine Go.pull (V := T37.setTop (mkF m 33 #[iv pa, iv pb, iv 0, iv 3, iv 448, iv 1023, iv 448, .unset, .unset, .unset] [])) (fun t k => XS.istore X37.here hx rfl (hb hby at_31) rfl (l' := #[iv pa, iv pb, iv 0, iv 3, iv 448, iv 1023, iv 448, .unset, .unset, .unset]) rfl k) ?_
      refine Go.pull (V := T37.setTop (mkF m 35 #[iv pa, iv pb, iv 0, iv 3, iv 448, iv 1023, iv 448, .unset, .unset, .unset] [(.int 103)])) (fun t k => XS.bipush X37.here hx rfl (hb hby at_33) k) ?_
      obtain ⟨_, _, ⟨T38, L38, k38, n38⟩, -, X38, ⟨Lc38, hQ38, l38, y38, z38⟩, st38⟩ := Jvm.LawKit.callS X37 hx (y := (⟨"com/example/facl/facl/ModeSpec", "part", "(C)I"⟩ : MethodName)) hown (mvT hZ (hw _ (List.mem_of_getElem? (i := 4) rfl))) (mvT hZ (hw _ (List.mem_of_getElem? (i := 5) rfl))) (mvT hZ (hw _ (List.mem_of_getElem? (i := 6) rfl))) (mvT hZ (hw _ (List.mem_of_getElem? (i := 7) rfl))) (by decide) (backOf (W := 0) (rmP l Z a0 hw [] (103 : Int32) h0 n0 (by decide)) hZ (hw _ (List.mem_of_getElem? (i := 7) rfl)) (hw _ (List.mem_of_getElem? (i := 6) rfl)) (by decide) (by decide)) (g := (mkF m 35 #[iv pa, iv pb, iv 0, iv 3, iv 448, iv 1023, iv 448, .unset, .unset, .unset] [(.int 103)])) rfl (by rw [hml]; rfl) (argsL := [(.int 103)]) (rest := []) (lenOf pd_1 rfl) rfl (by show 2 * 0 + _ ≤ _; exact Nat.le_of_eq rfl) (hb hby at_35) (fun _ _ => ⟨rfl, e37, (by decide : 0 + 0 ≤ _), (by decide : 0 + 0 ≤ _)⟩)
      dsimp only [Pt.U, Pt.locs, Pt.cells, Pt.slots] at X38 l38 y38 z38 st38 hQ38
      subst l38 y38 z38
      obtain ⟨hv38, N38q, e38⟩ := hQ38
      rw [(show (own_part (103 : Int32)) = (56 : Int32) from by decide)] at hv38; subst hv38
      have N38 := Fr.app N37 N38q
      refine Go.pull (V := T38.setTop (mkF m 38 #[iv pa, iv pb, iv 0, iv 3, iv 448, iv 1023, iv 448, .unset, .unset, .unset] [(.int 56)])) st38 ?_
      refine Go.pull (V := T38.setTop (mkF m 40 #[iv pa, iv pb, iv 0, iv 3, iv 448, iv 1023, iv 448, iv 56, .unset, .unset] [])) (fun t k => XS.istore X38.here hx rfl (hb hby at_38) rfl (l' := #[iv pa, iv pb, iv 0, iv 3, iv 448, iv 1023, iv 448, iv 56, .unset, .unset]) rfl k) ?_
      refine Go.pull (V := T38.setTop (mkF m 42 #[iv pa, iv pb, iv 0, iv 3, iv 448, iv 1023, iv 448, iv 56, .unset, .unset] [(.int 111)])) (fun t k => XS.bipush X38.here hx rfl (hb hby at_40) k) ?_
      obtain ⟨_, _, ⟨T39, L39, k39, n39⟩, -, X39, ⟨Lc39, hQ39, l39, y39, z39⟩, st39⟩ := Jvm.LawKit.callS X38 hx (y := (⟨"com/example/facl/facl/ModeSpec", "part", "(C)I"⟩ : MethodName)) hown (mvT hZ (hw _ (List.mem_of_getElem? (i := 4) rfl))) (mvT hZ (hw _ (List.mem_of_getElem? (i := 5) rfl))) (mvT hZ (hw _ (List.mem_of_getElem? (i := 6) rfl))) (mvT hZ (hw _ (List.mem_of_getElem? (i := 7) rfl))) (by decide) (backOf (W := 0) (rmP l Z a0 hw [] (111 : Int32) h0 n0 (by decide)) hZ (hw _ (List.mem_of_getElem? (i := 7) rfl)) (hw _ (List.mem_of_getElem? (i := 6) rfl)) (by decide) (by decide)) (g := (mkF m 42 #[iv pa, iv pb, iv 0, iv 3, iv 448, iv 1023, iv 448, iv 56, .unset, .unset] [(.int 111)])) rfl (by rw [hml]; rfl) (argsL := [(.int 111)]) (rest := []) (lenOf pd_1 rfl) rfl (by show 2 * 0 + _ ≤ _; exact Nat.le_of_eq rfl) (hb hby at_42) (fun _ _ => ⟨rfl, e38, (by decide : 0 + 0 ≤ _), (by decide : 0 + 0 ≤ _)⟩)
      dsimp only [Pt.U, Pt.locs, Pt.cells, Pt.slots] at X39 l39 y39 z39 st39 hQ39
      subst l39 y39 z39
      obtain ⟨hv39, N39q, e39⟩ := hQ39
      rw [(show (own_part (111 : Int32)) = (519 : Int32) from by decide)] at hv39; subst hv39
      have N39 := Fr.app N38 N39q
      refine Go.pull (V := T39.setTop (mkF m 45 #[iv pa, iv pb, iv 0, iv 3, iv 448, iv 1023, iv 448, iv 56, .unset, .unset] [(.int 519)])) st39 ?_
      refine Go.pull (V := T39.setTop (mkF m 47 #[iv pa, iv pb, iv 0, iv 3, iv 448, iv 1023, iv 448, iv 56, iv 519, .unset] [])) (fun t k => XS.istore X39.here hx rfl (hb hby at_45) rfl (l' := #[iv pa, iv pb, iv 0, iv 3, iv 448, iv 1023, iv 448, iv 56, iv 519, .unset]) rfl k) ?_
      refine Go.pull (V := T39.setTop (mkF m 49 #[iv pa, iv pb, iv 0, iv 3, iv 448, iv 1023, iv 448, iv 56, iv 519, .unset] [(.int 97)])) (fun t k => XS.bipush X39.here hx rfl (hb hby at_47) k) ?_
      obtain ⟨_, _, ⟨T40, L40, k40, n40⟩, -, X40, ⟨Lc40, hQ40, l40, y40, z40⟩, st40⟩ := Jvm.LawKit.callS X39 hx (y := (⟨"com/example/facl/facl/ModeSpec", "part", "(C)I"⟩ : MethodName)) hown (mvT hZ (hw _ (List.mem_of_getElem? (i := 4) rfl))) (mvT hZ (hw _ (List.mem_of_getElem? (i := 5) rfl))) (mvT hZ (hw _ (List.mem_of_getElem? (i := 6) rfl))) (mvT hZ (hw _ (List.mem_of_getElem? (i := 7) rfl))) (by decide) (backOf (W := 0) (rmP l Z a0 hw [] (97 : Int32) h0 n0 (by decide)) hZ (hw _ (List.mem_of_getElem? (i := 7) rfl)) (hw _ (List.mem_of_getElem? (i := 6) rfl)) (by decide) (by decide)) (g := (mkF m 49 #[iv pa, iv pb, iv 0, iv 3, iv 448, iv 1023, iv 448, iv 56, iv 519, .unset] [(.int 97)])) rfl (by rw [hml]; rfl) (argsL := [(.int 97)]) (rest := []) (lenOf pd_1 rfl) rfl (by show 2 * 0 + _ ≤ _; exact Nat.le_of_eq rfl) (hb hby at_49) (fun _ _ => ⟨rfl, e39, (by decide : 0 + 0 ≤ _), (by decide : 0 + 0 ≤ _)⟩)
      dsimp only [Pt.U, Pt.locs, Pt.cells, Pt.slots] at X40 l40 y40 z40 st40 hQ40
      subst l40 y40 z40
      obtain ⟨hv40, N40q, e40⟩ := hQ40
      rw [(show (own_part (97 : Int32)) = (1023 : Int32) from by decide)] at hv40; subst hv40
      have N40 := Fr.app N39 N40q
      refine Go.pull (V := T40.setTop (mkF m 52 #[iv pa, iv pb, iv 0, iv 3, iv 448, iv 1023, iv 448, iv 56, iv 519, .unset] [(.int 1023)])) st40 ?_
      refine Go.pull (V := T40.setTop (mkF m 54 #[iv pa, iv pb, iv 0, iv 3, iv 448, iv 1023, iv 448, iv 56, iv 519, iv 1023] [])) (fun t k => XS.istore X40.here hx rfl (hb hby at_52) rfl (l' := #[iv pa, iv pb, iv 0, iv 3, iv 448, iv 1023, iv 448, iv 56, iv 519, iv 1023]) rfl k) ?_
      refine Go.pull (V := T40.setTop (mkF m 56 #[iv pa, iv pb, iv 0, iv 3, iv 448, iv 1023, iv 448, iv 56, iv 519, iv 1023] [(.int 448)])) (fun t k => XS.iload X40.here hx rfl (hb hby at_54) rfl  k) ?_
      refine Go.pull (V := T40.setTop (mkF m 57 #[iv pa, iv pb, iv 0, iv 3, iv 448, iv 1023, iv 448, iv 56, iv 519, iv 1023] [(.int 0), (.int 448)])) (fun t k => XS.iloadN X40.here hx rfl (hb hby at_56) rfl  k) ?_
      obtain ⟨_, _, ⟨T41, L41, k41, n41⟩, -, X41, ⟨Lc41, hQ41, l41, y41, z41⟩, st41⟩ := Jvm.LawKit.callS X40 hx (y := (⟨"com/example/facl/facl/ModeSpecPartPinLaw", "expected", "(I)I"⟩ : MethodName)) hown (mvT hZ (hw _ (List.mem_of_getElem? (i := 8) rfl))) (mvT hZ (hw _ (List.mem_of_getElem? (i := 9) rfl))) (mvT hZ (hw _ (List.mem_of_getElem? (i := 2) rfl))) (mvT hZ (hw _ (List.mem_of_getElem? (i := 10) rfl))) (by decide) (backOf (W := 1) (rmX l Z a0 hw [] (0 : Int32) h0 n0 ) hZ (hw _ (List.mem_of_getElem? (i := 10) rfl)) (hw _ (List.mem_of_getElem? (i := 2) rfl)) (by decide) (by decide)) (g := (mkF m 57 #[iv pa, iv pb, iv 0, iv 3, iv 448, iv 1023, iv 448, iv 56, iv 519, iv 1023] [(.int 0), (.int 448)])) rfl (by rw [hml]; rfl) (argsL := [(.int 0)]) (rest := [(.int 448)]) (lenOf pd_2 rfl) rfl (by show 2 * 0 + _ ≤ _; exact Nat.le_of_eq rfl) (hb hby at_57) (fun _ _ => ⟨rfl, e40, (by decide : 0 + 0 ≤ _), (by decide : 0 + 0 ≤ _)⟩)
      dsimp only [Pt.U, Pt.locs, Pt.cells, Pt.slots] at X41 l41 y41 z41 st41 hQ41
      subst l41 y41 z41
      obtain ⟨hv41, N41q, e41⟩ := hQ41
      rw [(show (own_expected (0 : Int32)) = (448 : Int32) from by decide)] at hv41; subst hv41
      have N41 := Fr.app N40 N41q
      refine Go.pull (V := T41.setTop (mkF m 60 #[iv pa, iv pb, iv 0, iv 3, iv 448, iv 1023, iv 448, iv 56, iv 519, iv 1023] [(.int 448), (.int 448)])) st41 ?_
      refine Go.pull (V := T41.setTop (mkF m 63 #[iv pa, iv pb, iv 0, iv 3, iv 448, iv 1023, iv 448, iv 56, iv 519, iv 1023] [])) (fun t k => XS.icmpNo X41.here hx rfl (hb hby at_60) rfl (XT.ii_ne_f (by decide)) k) ?_
      refine Go.pull (V := T41.setTop (mkF m 65 #[iv pa, iv pb, iv 0, iv 3, iv 448, iv 1023, iv 448, iv 56, iv 519, iv 1023] [(.int 1023)])) (fun t k => XS.iload X41.here hx rfl (hb hby at_63) rfl  k) ?_
      refine Go.pull (V := T41.setTop (mkF m 66 #[iv pa, iv pb, iv 0, iv 3, iv 448, iv 1023, iv 448, iv 56, iv 519, iv 1023] [(.int 3), (.int 1023)])) (fun t k => XS.iloadN X41.here hx rfl (hb hby at_65) rfl  k) ?_
      obtain ⟨_, _, ⟨T42, L42, k42, n42⟩, -, X42, ⟨Lc42, hQ42, l42, y42, z42⟩, st42⟩ := Jvm.LawKit.callS X41 hx (y := (⟨"com/example/facl/facl/ModeSpecPartPinLaw", "expected", "(I)I"⟩ : MethodName)) hown (mvT hZ (hw _ (List.mem_of_getElem? (i := 8) rfl))) (mvT hZ (hw _ (List.mem_of_getElem? (i := 9) rfl))) (mvT hZ (hw _ (List.mem_of_getElem? (i := 2) rfl))) (mvT hZ (hw _ (List.mem_of_getElem? (i := 10) rfl))) (by decide) (backOf (W := 1) (rmX l Z a0 hw [] (3 : Int32) h0 n0 ) hZ (hw _ (List.mem_of_getElem? (i := 10) rfl)) (hw _ (List.mem_of_getElem? (i := 2) rfl)) (by decide) (by decide)) (g := (mkF m 66 #[iv pa, iv pb, iv 0, iv 3, iv 448, iv 1023, iv 448, iv 56, iv 519, iv 1023] [(.int 3), (.int 1023)])) rfl (by rw [hml]; rfl) (argsL := [(.int 3)]) (rest := [(.int 1023)]) (lenOf pd_2 rfl) rfl (by show 2 * 0 + _ ≤ _; exact Nat.le_of_eq rfl) (hb hby at_66) (fun _ _ => ⟨rfl, e41, (by decide : 0 + 0 ≤ _), (by decide : 0 + 0 ≤ _)⟩)
      dsimp only [Pt.U, Pt.locs, Pt.cells, Pt.slots] at X42 l42 y42 z42 st42 hQ42
      subst l42 y42 z42
      obtain ⟨hv42, N42q, e42⟩ := hQ42
      rw [(show (own_expected (3 : Int32)) = (1023 : Int32) from by decide)] at hv42; subst hv42
      have N42 := Fr.app N41 N42q
      refine Go.pull (V := T42.setTop (mkF m 69 #[iv pa, iv pb, iv 0, iv 3, iv 448, iv 1023, iv 448, iv 56, iv 519, iv 1023] [(.int 1023), (.int 1023)])) st42 ?_
      refine Go.pull (V := T42.setTop (mkF m 74 #[iv pa, iv pb, iv 0, iv 3, iv 448, iv 1023, iv 448, iv 56, iv 519, iv 1023] [])) (fun t k => XS.icmpYes X42.here hx rfl (pc0 := 69) (pc' := 74) rfl (hb hby at_69) rfl (XT.ii_eq_t (by decide)) (by decide) (by decide) k) ?_
      refine Go.pull (V := T42.setTop (mkF m 76 #[iv pa, iv pb, iv 0, iv 3, iv 448, iv 1023, iv 448, iv 56, iv 519, iv 1023] [(.int 448)])) (fun t k => XS.iload X42.here hx rfl (hb hby at_74) rfl  k) ?_
      refine Go.pull (V := T42.setTop (mkF m 79 #[iv pa, iv pb, iv 0, iv 3, iv 448, iv 1023, iv 448, iv 56, iv 519, iv 1023] [(.int (-1024)), (.int 448)])) (fun t k => XS.sipush X42.here hx rfl (hb hby at_76) k) ?_
      refine Go.pull (V := T42.setTop (mkF m 80 #[iv pa, iv pb, iv 0, iv 3, iv 448, iv 1023, iv 448, iv 56, iv 519, iv 1023] [(.int 0)])) (fun t k => XS.iand X42.here hx rfl (hb hby at_79) rfl k) ?_
      refine Go.pull (V := T42.setTop (mkF m 83 #[iv pa, iv pb, iv 0, iv 3, iv 448, iv 1023, iv 448, iv 56, iv 519, iv 1023] [])) (fun t k => XS.ifNo X42.here hx rfl (hb hby at_80) rfl (XT.i0_ne_f (by decide)) k) ?_
      refine Go.pull (V := T42.setTop (mkF m 85 #[iv pa, iv pb, iv 0, iv 3, iv 448, iv 1023, iv 448, iv 56, iv 519, iv 1023] [(.int 1023)])) (fun t k => XS.iload X42.here hx rfl (hb hby at_83) rfl  k) ?_
      refine Go.pull (V := T42.setTop (mkF m 88 #[iv pa, iv pb, iv 0, iv 3, iv 448, iv 1023, iv 448, iv 56, iv 519, iv 1023] [(.int (-1024)), (.int 1023)])) (fun t k => XS.sipush X42.here hx rfl (hb hby at_85) k) ?_
      refine Go.pull (V := T42.setTop (mkF m 89 #[iv pa, iv pb, iv 0, iv 3, iv 448, iv 1023, iv 448, iv 56, iv 519, iv 1023] [(.int 0)])) (fun t k => XS.iand X42.here hx rfl (hb hby at_88) rfl k) ?_
      refine Go.pull (V := T42.setTop (mkF m 94 #[iv pa, iv pb, iv 0, iv 3, iv 448, iv 1023, iv 448, iv 56, iv 519, iv 1023] [])) (fun t k => XS.ifYes X42.here hx rfl (pc0 := 89) (pc' := 94) rfl (hb hby at_89) rfl (XT.i0_eq_t (by decide)) (by decide) (by decide) k) ?_
      refine Go.pull (V := T42.setTop (mkF m 96 #[iv pa, iv pb, iv 0, iv 3, iv 448, iv 1023, iv 448, iv 56, iv 519, iv 1023] [(.int 1023)])) (fun t k => XS.iload X42.here hx rfl (hb hby at_94) rfl  k) ?_
      refine Go.pull (V := T42.setTop (mkF m 99 #[iv pa, iv pb, iv 0, iv 3, iv 448, iv 1023, iv 448, iv 56, iv 519, iv 1023] [(.int 1023), (.int 1023)])) (fun t k => XS.sipush X42.here hx rfl (hb hby at_96) k) ?_
      refine Go.pull (V := T42.setTop (mkF m 102 #[iv pa, iv pb, iv 0, iv 3, iv 448, iv 1023, iv 448, iv 56, iv 519, iv 1023] [])) (fun t k => XS.icmpNo X42.here hx rfl (hb hby at_99) rfl (XT.ii_ne_f (by decide)) k) ?_
      refine Go.pull (V := T42.setTop (mkF m 104 #[iv pa, iv pb, iv 0, iv 3, iv 448, iv 1023, iv 448, iv 56, iv 519, iv 1023] [(.int 448)])) (fun t k => XS.iload X42.here hx rfl (hb hby at_102) rfl  k) ?_
      refine Go.pull (V := T42.setTop (mkF m 106 #[iv pa, iv pb, iv 0, iv 3, iv 448, iv 1023, iv 448, iv 56, iv 519, iv 1023] [(.int 56), (.int 448)])) (fun t k => XS.iload X42.here hx rfl (hb hby at_104) rfl  k) ?_
      refine Go.pull (V := T42.setTop (mkF m 107 #[iv pa, iv pb, iv 0, iv 3, iv 448, iv 1023, iv 448, iv 56, iv 519, iv 1023] [(.int 504)])) (fun t k => XS.ior X42.here hx rfl (hb hby at_106) rfl k) ?_
      refine Go.pull (V := T42.setTop (mkF m 109 #[iv pa, iv pb, iv 0, iv 3, iv 448, iv 1023, iv 448, iv 56, iv 519, iv 1023] [(.int 519), (.int 504)])) (fun t k => XS.iload X42.here hx rfl (hb hby at_107) rfl  k) ?_
      refine Go.pull (V := T42.setTop (mkF m 110 #[iv pa, iv pb, iv 0, iv 3, iv 448, iv 1023, iv 448, iv 56, iv 519, iv 1023] [(.int 1023)])) (fun t k => XS.ior X42.here hx rfl (hb hby at_109) rfl k) ?_
      refine Go.pull (V := T42.setTop (mkF m 112 #[iv pa, iv pb, iv 0, iv 3, iv 448, iv 1023, iv 448, iv 56, iv 519, iv 1023] [(.int 1023), (.int 1023)])) (fun t k => XS.iload X42.here hx rfl (hb hby at_110) rfl  k) ?_
      refine Go.pull (V := T42.setTop (mkF m 117 #[iv pa, iv pb, iv 0, iv 3, iv 448, iv 1023, iv 448, iv 56, iv 519, iv 1023] [])) (fun t k => XS.icmpYes X42.here hx rfl (pc0 := 112) (pc' := 117) rfl (hb hby at_112) rfl (XT.ii_eq_t (by decide)) (by decide) (by decide) k) ?_
      refine Go.pull (V := T42.setTop (mkF m 119 #[iv pa, iv pb, iv 0, iv 3, iv 448, iv 1023, iv 448, iv 56, iv 519, iv 1023] [(.int 448)])) (fun t k => XS.iload X42.here hx rfl (hb hby at_117) rfl  k) ?_
      refine Go.pull (V := T42.setTop (mkF m 121 #[iv pa, iv pb, iv 0, iv 3, iv 448, iv 1023, iv 448, iv 56, iv 519, iv 1023] [(.int 56), (.int 448)])) (fun t k => XS.iload X42.here hx rfl (hb hby at_119) rfl  k) ?_
      refine Go.pull (V := T42.setTop (mkF m 122 #[iv pa, iv pb, iv 0, iv 3, iv 448, iv 1023, iv 448, iv 56, iv 519, iv 1023] [(.int 0)])) (fun t k => XS.iand X42.here hx rfl (hb hby at_121) rfl k) ?_
      refine Go.pull (V := T42.setTop (mkF m 125 #[iv pa, iv pb, iv 0, iv 3, iv 448, iv 1023, iv 448, iv 56, iv 519, iv 1023] [])) (fun t k => XS.ifNo X42.here hx rfl (hb hby at_122) rfl (XT.i0_ne_f (by decide)) k) ?_
      refine Go.pull (V := T42.setTop (mkF m 127 #[iv pa, iv pb, iv 0, iv 3, iv 448, iv 1023, iv 448, iv 56, iv 519, iv 1023] [(.int 448)])) (fun t k => XS.iload X42.here hx rfl (hb hby at_125) rfl  k) ?_
      refine Go.pull (V := T42.setTop (mkF m 129 #[iv pa, iv pb, iv 0, iv 3, iv 448, iv 1023, iv 448, iv 56, iv 519, iv 1023] [(.int 519), (.int 448)])) (fun t k => XS.iload X42.here hx rfl (hb hby at_127) rfl  k) ?_
      refine Go.pull (V := T42.setTop (mkF m 130 #[iv pa, iv pb, iv 0, iv 3, iv 448, iv 1023, iv 448, iv 56, iv 519, iv 1023] [(.int 0)])) (fun t k => XS.iand X42.here hx rfl (hb hby at_129) rfl k) ?_
      refine Go.pull (V := T42.setTop (mkF m 133 #[iv pa, iv pb, iv 0, iv 3, iv 448, iv 1023, iv 448, iv 56, iv 519, iv 1023] [])) (fun t k => XS.ifNo X42.here hx rfl (hb hby at_130) rfl (XT.i0_ne_f (by decide)) k) ?_
      refine Go.pull (V := T42.setTop (mkF m 135 #[iv pa, iv pb, iv 0, iv 3, iv 448, iv 1023, iv 448, iv 56, iv 519, iv 1023] [(.int 56)])) (fun t k => XS.iload X42.here hx rfl (hb hby at_133) rfl  k) ?_
      refine Go.pull (V := T42.setTop (mkF m 137 #[iv pa, iv pb, iv 0, iv 3, iv 448, iv 1023, iv 448, iv 56, iv 519, iv 1023] [(.int 519), (.int 56)])) (fun t k => XS.iload X42.here hx rfl (hb hby at_135) rfl  k) ?_
      refine Go.pull (V := T42.setTop (mkF m 138 #[iv pa, iv pb, iv 0, iv 3, iv 448, iv 1023, iv 448, iv 56, iv 519, iv 1023] [(.int 0)])) (fun t k => XS.iand X42.here hx rfl (hb hby at_137) rfl k) ?_
      refine Go.pull (V := T42.setTop (mkF m 143 #[iv pa, iv pb, iv 0, iv 3, iv 448, iv 1023, iv 448, iv 56, iv 519, iv 1023] [])) (fun t k => XS.ifYes X42.here hx rfl (pc0 := 138) (pc' := 143) rfl (hb hby at_138) rfl (XT.i0_eq_t (by decide)) (by decide) (by decide) k) ?_
      refine Go.pull (V := T42.setTop (mkF m 144 #[iv pa, iv pb, iv 0, iv 3, iv 448, iv 1023, iv 448, iv 56, iv 519, iv 1023] [(.int 0)])) (fun t k => XS.iloadN X42.here hx rfl (hb hby at_143) rfl  k) ?_
      refine Go.pull (V := T42.setTop (mkF m 145 #[iv pa, iv pb, iv 0, iv 3, iv 448, iv 1023, iv 448, iv 56, iv 519, iv 1023] [(.int 3), (.int 0)])) (fun t k => XS.iloadN X42.here hx rfl (hb hby at_144) rfl  k) ?_
      refine Go.pull (V := T42.setTop (mkF m 148 #[iv pa, iv pb, iv 0, iv 3, iv 448, iv 1023, iv 448, iv 56, iv 519, iv 1023] [])) (fun t k => XS.icmpNo X42.here hx rfl (hb hby at_145) rfl (XT.ii_eq_f (by decide)) k) ?_
      refine Go.pull (V := T42.setTop (mkF m 149 #[iv pa, iv pb, iv 0, iv 3, iv 448, iv 1023, iv 448, iv 56, iv 519, iv 1023] [(.int 0)])) (fun t k => XS.iloadN X42.here hx rfl (hb hby at_148) rfl  k) ?_
      refine Go.pull (V := T42.setTop (mkF m 150 #[iv pa, iv pb, iv 0, iv 3, iv 448, iv 1023, iv 448, iv 56, iv 519, iv 1023] [(.int 3), (.int 0)])) (fun t k => XS.iconst X42.here hx rfl (hb hby at_149) k) ?_
      refine Go.pull (V := T42.setTop (mkF m 153 #[iv pa, iv pb, iv 0, iv 3, iv 448, iv 1023, iv 448, iv 56, iv 519, iv 1023] [])) (fun t k => XS.icmpNo X42.here hx rfl (hb hby at_150) rfl (XT.ii_eq_f (by decide)) k) ?_
      refine Go.pull (V := T42.setTop (mkF m 154 #[iv pa, iv pb, iv 0, iv 3, iv 448, iv 1023, iv 448, iv 56, iv 519, iv 1023] [(.int 3)])) (fun t k => XS.iloadN X42.here hx rfl (hb hby at_153) rfl  k) ?_
      refine Go.pull (V := T42.setTop (mkF m 155 #[iv pa, iv pb, iv 0, iv 3, iv 448, iv 1023, iv 448, iv 56, iv 519, iv 1023] [(.int 3), (.int 3)])) (fun t k => XS.iconst X42.here hx rfl (hb hby at_154) k) ?_
      refine Go.pull (V := T42.setTop (mkF m 168 #[iv pa, iv pb, iv 0, iv 3, iv 448, iv 1023, iv 448, iv 56, iv 519, iv 1023] [])) (fun t k => XS.icmpYes X42.here hx rfl (pc0 := 155) (pc' := 168) rfl (hb hby at_155) rfl (XT.ii_eq_t (by decide)) (by decide) (by decide) k) ?_
      refine Go.pull (V := T42.setTop (mkF m 170 #[iv pa, iv pb, iv 0, iv 3, iv 448, iv 1023, iv 448, iv 56, iv 519, iv 1023] [(.int 519)])) (fun t k => XS.iload X42.here hx rfl (hb hby at_168) rfl  k) ?_
      refine Go.pull (V := T42.setTop (mkF m 173 #[iv pa, iv pb, iv 0, iv 3, iv 448, iv 1023, iv 448, iv 56, iv 519, iv 1023] [(.int 512), (.int 519)])) (fun t k => XS.sipush X42.here hx rfl (hb hby at_170) k) ?_
      refine Go.pull (V := T42.setTop (mkF m 174 #[iv pa, iv pb, iv 0, iv 3, iv 448, iv 1023, iv 448, iv 56, iv 519, iv 1023] [(.int 512)])) (fun t k => XS.iand X42.here hx rfl (hb hby at_173) rfl k) ?_
      refine Go.pull (V := T42.setTop (mkF m 177 #[iv pa, iv pb, iv 0, iv 3, iv 448, iv 1023, iv 448, iv 56, iv 519, iv 1023] [])) (fun t k => XS.ifNo X42.here hx rfl (hb hby at_174) rfl (XT.i0_eq_f (by decide)) k) ?_
      refine Go.pull (V := T42.setTop (mkF m 179 #[iv pa, iv pb, iv 0, iv 3, iv 448, iv 1023, iv 448, iv 56, iv 519, iv 1023] [(.int 448)])) (fun t k => XS.iload X42.here hx rfl (hb hby at_177) rfl  k) ?_
      refine Go.pull (V := T42.setTop (mkF m 181 #[iv pa, iv pb, iv 0, iv 3, iv 448, iv 1023, iv 448, iv 56, iv 519, iv 1023] [(.int 56), (.int 448)])) (fun t k => XS.iload X42.here hx rfl (hb hby at_179) rfl  k) ?_
      refine Go.pull (V := T42.setTop (mkF m 182 #[iv pa, iv pb, iv 0, iv 3, iv 448, iv 1023, iv 448, iv 56, iv 519, iv 1023] [(.int 504)])) (fun t k => XS.ior X42.here hx rfl (hb hby at_181) rfl k) ?_
      refine Go.pull (V := T42.setTop (mkF m 185 #[iv pa, iv pb, iv 0, iv 3, iv 448, iv 1023, iv 448, iv 56, iv 519, iv 1023] [(.int 512), (.int 504)])) (fun t k => XS.sipush X42.here hx rfl (hb hby at_182) k) ?_
      refine Go.pull (V := T42.setTop (mkF m 186 #[iv pa, iv pb, iv 0, iv 3, iv 448, iv 1023, iv 448, iv 56, iv 519, iv 1023] [(.int 0)])) (fun t k => XS.iand X42.here hx rfl (hb hby at_185) rfl k) ?_
      refine Go.pull (V := T42.setTop (mkF m 191 #[iv pa, iv pb, iv 0, iv 3, iv 448, iv 1023, iv 448, iv 56, iv 519, iv 1023] [])) (fun t k => XS.ifYes X42.here hx rfl (pc0 := 186) (pc' := 191) rfl (hb hby at_186) rfl (XT.i0_eq_t (by decide)) (by decide) (by decide) k) ?_
      refine Go.pull (V := T42.setTop (mkF m 192 #[iv pa, iv pb, iv 0, iv 3, iv 448, iv 1023, iv 448, iv 56, iv 519, iv 1023] [(.int 1)])) (fun t k => XS.iconst X42.here hx rfl (hb hby at_191) k) ?_
      exact Go.retN X42 hx Bd.notSynchronized (t := .boolean) Bd.returns (by simp) (hb hby at_192) ⟨rfl, N42⟩ (by decide) (by decide)
  · subst hv1
    refine Go.pull (V := s₁.setTop (mkF m 5 #[iv pa, iv pb, iv 1, .unset, .unset, .unset, .unset, .unset, .unset, .unset] [(.int pb)])) (fun t k => XS.iloadN X0.here hx rfl (hb hby at_4) rfl  k) ?_
    refine Go.pull (V := s₁.setTop (mkF m 6 #[iv pa, iv pb, iv 1, .unset, .unset, .unset, .unset, .unset, .unset, .unset] [(.int 3), (.int pb)])) (fun t k => XS.iconst X0.here hx rfl (hb hby at_5) k) ?_
    refine Go.pull (V := s₁.setTop (mkF m 7 #[iv pa, iv pb, iv 1, .unset, .unset, .unset, .unset, .unset, .unset, .unset] [(.int (pb &&& (3 : Int32)))])) (fun t k => XS.iand X0.here hx rfl (hb hby at_6) rfl k) ?_
    refine Go.pull (V := s₁.setTop (mkF m 8 #[iv pa, iv pb, iv 1, iv (pb &&& (3 : Int32)), .unset, .unset, .unset, .unset, .unset, .unset] [])) (fun t k => XS.istoreN X0.here hx rfl (hb hby at_7) rfl (l' := #[iv pa, iv pb, iv 1, iv (pb &&& (3 : Int32)), .unset, .unset, .unset, .unset, .unset, .unset]) rfl k) ?_
    generalize gv43 : (pb &&& (3 : Int32)) = v43
    obtain hv43 | hv43 | hv43 | hv43 := own_and3 _ gv43
    · subst hv43
      refine Go.pull (V := s₁.setTop (mkF m 9 #[iv pa, iv pb, iv 1, iv 0, .unset, .unset, .unset, .unset, .unset, .unset] [(.int 1)])) (fun t k => XS.iloadN X0.here hx rfl (hb hby at_8) rfl  k) ?_
      obtain ⟨_, _, ⟨T44, L44, k44, n44⟩, -, X44, ⟨Lc44, hQ44, l44, y44, z44⟩, st44⟩ := Jvm.LawKit.callS X0 hx (y := (⟨"com/example/facl/facl/ModeSpecPartPinLaw", "letter", "(I)C"⟩ : MethodName)) hown (mvT hZ (hw _ (List.mem_of_getElem? (i := 0) rfl))) (mvT hZ (hw _ (List.mem_of_getElem? (i := 1) rfl))) (mvT hZ (hw _ (List.mem_of_getElem? (i := 2) rfl))) (mvT hZ (hw _ (List.mem_of_getElem? (i := 3) rfl))) (by decide) (backOf (W := 0) (rmL l Z a0 hw [] (1 : Int32) h0 n0 ) hZ (hw _ (List.mem_of_getElem? (i := 3) rfl)) (hw _ (List.mem_of_getElem? (i := 2) rfl)) (by decide) (by decide)) (g := (mkF m 9 #[iv pa, iv pb, iv 1, iv 0, .unset, .unset, .unset, .unset, .unset, .unset] [(.int 1)])) rfl (by rw [hml]; rfl) (argsL := [(.int 1)]) (rest := []) (lenOf pd_0 rfl) rfl (by show 2 * 0 + _ ≤ _; exact Nat.le_of_eq rfl) (hb hby at_9) (fun _ _ => ⟨rfl, e0, (by decide : 0 + 0 ≤ _), (by decide : 0 + 0 ≤ _)⟩)
      dsimp only [Pt.U, Pt.locs, Pt.cells, Pt.slots] at X44 l44 y44 z44 st44 hQ44
      subst l44 y44 z44
      obtain ⟨hv44, N44q, e44⟩ := hQ44
      rw [(show (own_letter (1 : Int32)) = (103 : Int32) from by decide)] at hv44; subst hv44
      have N44 := Fr.app N0 N44q
      refine Go.pull (V := T44.setTop (mkF m 12 #[iv pa, iv pb, iv 1, iv 0, .unset, .unset, .unset, .unset, .unset, .unset] [(.int 103)])) st44 ?_
      obtain ⟨_, _, ⟨T45, L45, k45, n45⟩, -, X45, ⟨Lc45, hQ45, l45, y45, z45⟩, st45⟩ := Jvm.LawKit.callS X44 hx (y := (⟨"com/example/facl/facl/ModeSpec", "part", "(C)I"⟩ : MethodName)) hown (mvT hZ (hw _ (List.mem_of_getElem? (i := 4) rfl))) (mvT hZ (hw _ (List.mem_of_getElem? (i := 5) rfl))) (mvT hZ (hw _ (List.mem_of_getElem? (i := 6) rfl))) (mvT hZ (hw _ (List.mem_of_getElem? (i := 7) rfl))) (by decide) (backOf (W := 0) (rmP l Z a0 hw [] (103 : Int32) h0 n0 (by decide)) hZ (hw _ (List.mem_of_getElem? (i := 7) rfl)) (hw _ (List.mem_of_getElem? (i := 6) rfl)) (by decide) (by decide)) (g := (mkF m 12 #[iv pa, iv pb, iv 1, iv 0, .unset, .unset, .unset, .unset, .unset, .unset] [(.int 103)])) rfl (by rw [hml]; rfl) (argsL := [(.int 103)]) (rest := []) (lenOf pd_1 rfl) rfl (by show 2 * 0 + _ ≤ _; exact Nat.le_of_eq rfl) (hb hby at_12) (fun _ _ => ⟨rfl, e44, (by decide : 0 + 0 ≤ _), (by decide : 0 + 0 ≤ _)⟩)
      dsimp only [Pt.U, Pt.locs, Pt.cells, Pt.slots] at X45 l45 y45 z45 st45 hQ45
      subst l45 y45 z45
      obtain ⟨hv45, N45q, e45⟩ := hQ45
      rw [(show (own_part (103 : Int32)) = (56 : Int32) from by decide)] at hv45; subst hv45
      have N45 := Fr.app N44 N45q
      refine Go.pull (V := T45.setTop (mkF m 15 #[iv pa, iv pb, iv 1, iv 0, .unset, .unset, .unset, .unset, .unset, .unset] [(.int 56)])) st45 ?_
      refine Go.pull (V := T45.setTop (mkF m 17 #[iv pa, iv pb, iv 1, iv 0, iv 56, .unset, .unset, .unset, .unset, .unset] [])) (fun t k => XS.istore X45.here hx rfl (hb hby at_15) rfl (l' := #[iv pa, iv pb, iv 1, iv 0, iv 56, .unset, .unset, .unset, .unset, .unset]) rfl k) ?_
      refine Go.pull (V := T45.setTop (mkF m 18 #[iv pa, iv pb, iv 1, iv 0, iv 56, .unset, .unset, .unset, .unset, .unset] [(.int 0)])) (fun t k => XS.iloadN X45.here hx rfl (hb hby at_17) rfl  k) ?_
      obtain ⟨_, _, ⟨T46, L46, k46, n46⟩, -, X46, ⟨Lc46, hQ46, l46, y46, z46⟩, st46⟩ := Jvm.LawKit.callS X45 hx (y := (⟨"com/example/facl/facl/ModeSpecPartPinLaw", "letter", "(I)C"⟩ : MethodName)) hown (mvT hZ (hw _ (List.mem_of_getElem? (i := 0) rfl))) (mvT hZ (hw _ (List.mem_of_getElem? (i := 1) rfl))) (mvT hZ (hw _ (List.mem_of_getElem? (i := 2) rfl))) (mvT hZ (hw _ (List.mem_of_getElem? (i := 3) rfl))) (by decide) (backOf (W := 0) (rmL l Z a0 hw [] (0 : Int32) h0 n0 ) hZ (hw _ (List.mem_of_getElem? (i := 3) rfl)) (hw _ (List.mem_of_getElem? (i := 2) rfl)) (by decide) (by decide)) (g := (mkF m 18 #[iv pa, iv pb, iv 1, iv 0, iv 56, .unset, .unset, .unset, .unset, .unset] [(.int 0)])) rfl (by rw [hml]; rfl) (argsL := [(.int 0)]) (rest := []) (lenOf pd_0 rfl) rfl (by show 2 * 0 + _ ≤ _; exact Nat.le_of_eq rfl) (hb hby at_18) (fun _ _ => ⟨rfl, e45, (by decide : 0 + 0 ≤ _), (by decide : 0 + 0 ≤ _)⟩)
      dsimp only [Pt.U, Pt.locs, Pt.cells, Pt.slots] at X46 l46 y46 z46 st46 hQ46
      subst l46 y46 z46
      obtain ⟨hv46, N46q, e46⟩ := hQ46
      rw [(show (own_letter (0 : Int32)) = (117 : Int32) from by decide)] at hv46; subst hv46
      have N46 := Fr.app N45 N46q
      refine Go.pull (V := T46.setTop (mkF m 21 #[iv pa, iv pb, iv 1, iv 0, iv 56, .unset, .unset, .unset, .unset, .unset] [(.int 117)])) st46 ?_
      obtain ⟨_, _, ⟨T47, L47, k47, n47⟩, -, X47, ⟨Lc47, hQ47, l47, y47, z47⟩, st47⟩ := Jvm.LawKit.callS X46 hx (y := (⟨"com/example/facl/facl/ModeSpec", "part", "(C)I"⟩ : MethodName)) hown (mvT hZ (hw _ (List.mem_of_getElem? (i := 4) rfl))) (mvT hZ (hw _ (List.mem_of_getElem? (i := 5) rfl))) (mvT hZ (hw _ (List.mem_of_getElem? (i := 6) rfl))) (mvT hZ (hw _ (List.mem_of_getElem? (i := 7) rfl))) (by decide) (backOf (W := 0) (rmP l Z a0 hw [] (117 : Int32) h0 n0 (by decide)) hZ (hw _ (List.mem_of_getElem? (i := 7) rfl)) (hw _ (List.mem_of_getElem? (i := 6) rfl)) (by decide) (by decide)) (g := (mkF m 21 #[iv pa, iv pb, iv 1, iv 0, iv 56, .unset, .unset, .unset, .unset, .unset] [(.int 117)])) rfl (by rw [hml]; rfl) (argsL := [(.int 117)]) (rest := []) (lenOf pd_1 rfl) rfl (by show 2 * 0 + _ ≤ _; exact Nat.le_of_eq rfl) (hb hby at_21) (fun _ _ => ⟨rfl, e46, (by decide : 0 + 0 ≤ _), (by decide : 0 + 0 ≤ _)⟩)
      dsimp only [Pt.U, Pt.locs, Pt.cells, Pt.slots] at X47 l47 y47 z47 st47 hQ47
      subst l47 y47 z47
      obtain ⟨hv47, N47q, e47⟩ := hQ47
      rw [(show (own_part (117 : Int32)) = (448 : Int32) from by decide)] at hv47; subst hv47
      have N47 := Fr.app N46 N47q
      refine Go.pull (V := T47.setTop (mkF m 24 #[iv pa, iv pb, iv 1, iv 0, iv 56, .unset, .unset, .unset, .unset, .unset] [(.int 448)])) st47 ?_
      refine Go.pull (V := T47.setTop (mkF m 26 #[iv pa, iv pb, iv 1, iv 0, iv 56, iv 448, .unset, .unset, .unset, .unset] [])) (fun t k => XS.istore X47.here hx rfl (hb hby at_24) rfl (l' := #[iv pa, iv pb, iv 1, iv 0, iv 56, iv 448, .unset, .unset, .unset, .unset]) rfl k) ?_
      refine Go.pull (V := T47.setTop (mkF m 28 #[iv pa, iv pb, iv 1, iv 0, iv 56, iv 448, .unset, .unset, .unset, .unset] [(.int 117)])) (fun t k => XS.bipush X47.here hx rfl (hb hby at_26) k) ?_
      obtain ⟨_, _, ⟨T48, L48, k48, n48⟩, -, X48, ⟨Lc48, hQ48, l48, y48, z48⟩, st48⟩ := Jvm.LawKit.callS X47 hx (y := (⟨"com/example/facl/facl/ModeSpec", "part", "(C)I"⟩ : MethodName)) hown (mvT hZ (hw _ (List.mem_of_getElem? (i := 4) rfl))) (mvT hZ (hw _ (List.mem_of_getElem? (i := 5) rfl))) (mvT hZ (hw _ (List.mem_of_getElem? (i := 6) rfl))) (mvT hZ (hw _ (List.mem_of_getElem? (i := 7) rfl))) (by decide) (backOf (W := 0) (rmP l Z a0 hw [] (117 : Int32) h0 n0 (by decide)) hZ (hw _ (List.mem_of_getElem? (i := 7) rfl)) (hw _ (List.mem_of_getElem? (i := 6) rfl)) (by decide) (by decide)) (g := (mkF m 28 #[iv pa, iv pb, iv 1, iv 0, iv 56, iv 448, .unset, .unset, .unset, .unset] [(.int 117)])) rfl (by rw [hml]; rfl) (argsL := [(.int 117)]) (rest := []) (lenOf pd_1 rfl) rfl (by show 2 * 0 + _ ≤ _; exact Nat.le_of_eq rfl) (hb hby at_28) (fun _ _ => ⟨rfl, e47, (by decide : 0 + 0 ≤ _), (by decide : 0 + 0 ≤ _)⟩)
      dsimp only [Pt.U, Pt.locs, Pt.cells, Pt.slots] at X48 l48 y48 z48 st48 hQ48
      subst l48 y48 z48
      obtain ⟨hv48, N48q, e48⟩ := hQ48
      rw [(show (own_part (117 : Int32)) = (448 : Int32) from by decide)] at hv48; subst hv48
      have N48 := Fr.app N47 N48q
      refine Go.pull (V := T48.setTop (mkF m 31 #[iv pa, iv pb, iv 1, iv 0, iv 56, iv 448, .unset, .unset, .unset, .unset] [(.int 448)])) st48 ?_
      refine Go.pull (V := T48.setTop (mkF m 33 #[iv pa, iv pb, iv 1, iv 0, iv 56, iv 448, iv 448, .unset, .unset, .unset] [])) (fun t k => XS.istore X48.here hx rfl (hb hby at_31) rfl (l' := #[iv pa, iv pb, iv 1, iv 0, iv 56, iv 448, iv 448, .unset, .unset, .unset]) rfl k) ?_
      refine Go.pull (V := T48.setTop (mkF m 35 #[iv pa, iv pb, iv 1, iv 0, iv 56, iv 448, iv 448, .unset, .unset, .unset] [(.int 103)])) (fun t k => XS.bipush X48.here hx rfl (hb hby at_33) k) ?_
      obtain ⟨_, _, ⟨T49, L49, k49, n49⟩, -, X49, ⟨Lc49, hQ49, l49, y49, z49⟩, st49⟩ := Jvm.LawKit.callS X48 hx (y := (⟨"com/example/facl/facl/ModeSpec", "part", "(C)I"⟩ : MethodName)) hown (mvT hZ (hw _ (List.mem_of_getElem? (i := 4) rfl))) (mvT hZ (hw _ (List.mem_of_getElem? (i := 5) rfl))) (mvT hZ (hw _ (List.mem_of_getElem? (i := 6) rfl))) (mvT hZ (hw _ (List.mem_of_getElem? (i := 7) rfl))) (by decide) (backOf (W := 0) (rmP l Z a0 hw [] (103 : Int32) h0 n0 (by decide)) hZ (hw _ (List.mem_of_getElem? (i := 7) rfl)) (hw _ (List.mem_of_getElem? (i := 6) rfl)) (by decide) (by decide)) (g := (mkF m 35 #[iv pa, iv pb, iv 1, iv 0, iv 56, iv 448, iv 448, .unset, .unset, .unset] [(.int 103)])) rfl (by rw [hml]; rfl) (argsL := [(.int 103)]) (rest := []) (lenOf pd_1 rfl) rfl (by show 2 * 0 + _ ≤ _; exact Nat.le_of_eq rfl) (hb hby at_35) (fun _ _ => ⟨rfl, e48, (by decide : 0 + 0 ≤ _), (by decide : 0 + 0 ≤ _)⟩)
      dsimp only [Pt.U, Pt.locs, Pt.cells, Pt.slots] at X49 l49 y49 z49 st49 hQ49
      subst l49 y49 z49
      obtain ⟨hv49, N49q, e49⟩ := hQ49
      rw [(show (own_part (103 : Int32)) = (56 : Int32) from by decide)] at hv49; subst hv49
      have N49 := Fr.app N48 N49q
      refine Go.pull (V := T49.setTop (mkF m 38 #[iv pa, iv pb, iv 1, iv 0, iv 56, iv 448, iv 448, .unset, .unset, .unset] [(.int 56)])) st49 ?_
      refine Go.pull (V := T49.setTop (mkF m 40 #[iv pa, iv pb, iv 1, iv 0, iv 56, iv 448, iv 448, iv 56, .unset, .unset] [])) (fun t k => XS.istore X49.here hx rfl (hb hby at_38) rfl (l' := #[iv pa, iv pb, iv 1, iv 0, iv 56, iv 448, iv 448, iv 56, .unset, .unset]) rfl k) ?_
      refine Go.pull (V := T49.setTop (mkF m 42 #[iv pa, iv pb, iv 1, iv 0, iv 56, iv 448, iv 448, iv 56, .unset, .unset] [(.int 111)])) (fun t k => XS.bipush X49.here hx rfl (hb hby at_40) k) ?_
      obtain ⟨_, _, ⟨T50, L50, k50, n50⟩, -, X50, ⟨Lc50, hQ50, l50, y50, z50⟩, st50⟩ := Jvm.LawKit.callS X49 hx (y := (⟨"com/example/facl/facl/ModeSpec", "part", "(C)I"⟩ : MethodName)) hown (mvT hZ (hw _ (List.mem_of_getElem? (i := 4) rfl))) (mvT hZ (hw _ (List.mem_of_getElem? (i := 5) rfl))) (mvT hZ (hw _ (List.mem_of_getElem? (i := 6) rfl))) (mvT hZ (hw _ (List.mem_of_getElem? (i := 7) rfl))) (by decide) (backOf (W := 0) (rmP l Z a0 hw [] (111 : Int32) h0 n0 (by decide)) hZ (hw _ (List.mem_of_getElem? (i := 7) rfl)) (hw _ (List.mem_of_getElem? (i := 6) rfl)) (by decide) (by decide)) (g := (mkF m 42 #[iv pa, iv pb, iv 1, iv 0, iv 56, iv 448, iv 448, iv 56, .unset, .unset] [(.int 111)])) rfl (by rw [hml]; rfl) (argsL := [(.int 111)]) (rest := []) (lenOf pd_1 rfl) rfl (by show 2 * 0 + _ ≤ _; exact Nat.le_of_eq rfl) (hb hby at_42) (fun _ _ => ⟨rfl, e49, (by decide : 0 + 0 ≤ _), (by decide : 0 + 0 ≤ _)⟩)
      dsimp only [Pt.U, Pt.locs, Pt.cells, Pt.slots] at X50 l50 y50 z50 st50 hQ50
      subst l50 y50 z50
      obtain ⟨hv50, N50q, e50⟩ := hQ50
      rw [(show (own_part (111 : Int32)) = (519 : Int32) from by decide)] at hv50; subst hv50
      have N50 := Fr.app N49 N50q
      refine Go.pull (V := T50.setTop (mkF m 45 #[iv pa, iv pb, iv 1, iv 0, iv 56, iv 448, iv 448, iv 56, .unset, .unset] [(.int 519)])) st50 ?_
      refine Go.pull (V := T50.setTop (mkF m 47 #[iv pa, iv pb, iv 1, iv 0, iv 56, iv 448, iv 448, iv 56, iv 519, .unset] [])) (fun t k => XS.istore X50.here hx rfl (hb hby at_45) rfl (l' := #[iv pa, iv pb, iv 1, iv 0, iv 56, iv 448, iv 448, iv 56, iv 519, .unset]) rfl k) ?_
      refine Go.pull (V := T50.setTop (mkF m 49 #[iv pa, iv pb, iv 1, iv 0, iv 56, iv 448, iv 448, iv 56, iv 519, .unset] [(.int 97)])) (fun t k => XS.bipush X50.here hx rfl (hb hby at_47) k) ?_
      obtain ⟨_, _, ⟨T51, L51, k51, n51⟩, -, X51, ⟨Lc51, hQ51, l51, y51, z51⟩, st51⟩ := Jvm.LawKit.callS X50 hx (y := (⟨"com/example/facl/facl/ModeSpec", "part", "(C)I"⟩ : MethodName)) hown (mvT hZ (hw _ (List.mem_of_getElem? (i := 4) rfl))) (mvT hZ (hw _ (List.mem_of_getElem? (i := 5) rfl))) (mvT hZ (hw _ (List.mem_of_getElem? (i := 6) rfl))) (mvT hZ (hw _ (List.mem_of_getElem? (i := 7) rfl))) (by decide) (backOf (W := 0) (rmP l Z a0 hw [] (97 : Int32) h0 n0 (by decide)) hZ (hw _ (List.mem_of_getElem? (i := 7) rfl)) (hw _ (List.mem_of_getElem? (i := 6) rfl)) (by decide) (by decide)) (g := (mkF m 49 #[iv pa, iv pb, iv 1, iv 0, iv 56, iv 448, iv 448, iv 56, iv 519, .unset] [(.int 97)])) rfl (by rw [hml]; rfl) (argsL := [(.int 97)]) (rest := []) (lenOf pd_1 rfl) rfl (by show 2 * 0 + _ ≤ _; exact Nat.le_of_eq rfl) (hb hby at_49) (fun _ _ => ⟨rfl, e50, (by decide : 0 + 0 ≤ _), (by decide : 0 + 0 ≤ _)⟩)
      dsimp only [Pt.U, Pt.locs, Pt.cells, Pt.slots] at X51 l51 y51 z51 st51 hQ51
      subst l51 y51 z51
      obtain ⟨hv51, N51q, e51⟩ := hQ51
      rw [(show (own_part (97 : Int32)) = (1023 : Int32) from by decide)] at hv51; subst hv51
      have N51 := Fr.app N50 N51q
      refine Go.pull (V := T51.setTop (mkF m 52 #[iv pa, iv pb, iv 1, iv 0, iv 56, iv 448, iv 448, iv 56, iv 519, .unset] [(.int 1023)])) st51 ?_
      refine Go.pull (V := T51.setTop (mkF m 54 #[iv pa, iv pb, iv 1, iv 0, iv 56, iv 448, iv 448, iv 56, iv 519, iv 1023] [])) (fun t k => XS.istore X51.here hx rfl (hb hby at_52) rfl (l' := #[iv pa, iv pb, iv 1, iv 0, iv 56, iv 448, iv 448, iv 56, iv 519, iv 1023]) rfl k) ?_
      refine Go.pull (V := T51.setTop (mkF m 56 #[iv pa, iv pb, iv 1, iv 0, iv 56, iv 448, iv 448, iv 56, iv 519, iv 1023] [(.int 56)])) (fun t k => XS.iload X51.here hx rfl (hb hby at_54) rfl  k) ?_
      refine Go.pull (V := T51.setTop (mkF m 57 #[iv pa, iv pb, iv 1, iv 0, iv 56, iv 448, iv 448, iv 56, iv 519, iv 1023] [(.int 1), (.int 56)])) (fun t k => XS.iloadN X51.here hx rfl (hb hby at_56) rfl  k) ?_
      obtain ⟨_, _, ⟨T52, L52, k52, n52⟩, -, X52, ⟨Lc52, hQ52, l52, y52, z52⟩, st52⟩ := Jvm.LawKit.callS X51 hx (y := (⟨"com/example/facl/facl/ModeSpecPartPinLaw", "expected", "(I)I"⟩ : MethodName)) hown (mvT hZ (hw _ (List.mem_of_getElem? (i := 8) rfl))) (mvT hZ (hw _ (List.mem_of_getElem? (i := 9) rfl))) (mvT hZ (hw _ (List.mem_of_getElem? (i := 2) rfl))) (mvT hZ (hw _ (List.mem_of_getElem? (i := 10) rfl))) (by decide) (backOf (W := 1) (rmX l Z a0 hw [] (1 : Int32) h0 n0 ) hZ (hw _ (List.mem_of_getElem? (i := 10) rfl)) (hw _ (List.mem_of_getElem? (i := 2) rfl)) (by decide) (by decide)) (g := (mkF m 57 #[iv pa, iv pb, iv 1, iv 0, iv 56, iv 448, iv 448, iv 56, iv 519, iv 1023] [(.int 1), (.int 56)])) rfl (by rw [hml]; rfl) (argsL := [(.int 1)]) (rest := [(.int 56)]) (lenOf pd_2 rfl) rfl (by show 2 * 0 + _ ≤ _; exact Nat.le_of_eq rfl) (hb hby at_57) (fun _ _ => ⟨rfl, e51, (by decide : 0 + 0 ≤ _), (by decide : 0 + 0 ≤ _)⟩)
      dsimp only [Pt.U, Pt.locs, Pt.cells, Pt.slots] at X52 l52 y52 z52 st52 hQ52
      subst l52 y52 z52
      obtain ⟨hv52, N52q, e52⟩ := hQ52
      rw [(show (own_expected (1 : Int32)) = (56 : Int32) from by decide)] at hv52; subst hv52
      have N52 := Fr.app N51 N52q
      refine Go.pull (V := T52.setTop (mkF m 60 #[iv pa, iv pb, iv 1, iv 0, iv 56, iv 448, iv 448, iv 56, iv 519, iv 1023] [(.int 56), (.int 56)])) st52 ?_
      refine Go.pull (V := T52.setTop (mkF m 63 #[iv pa, iv pb, iv 1, iv 0, iv 56, iv 448, iv 448, iv 56, iv 519, iv 1023] [])) (fun t k => XS.icmpNo X52.here hx rfl (hb hby at_60) rfl (XT.ii_ne_f (by decide)) k) ?_
      refine Go.pull (V := T52.setTop (mkF m 65 #[iv pa, iv pb, iv 1, iv 0, iv 56, iv 448, iv 448, iv 56, iv 519, iv 1023] [(.int 448)])) (fun t k => XS.iload X52.here hx rfl (hb hby at_63) rfl  k) ?_
      refine Go.pull (V := T52.setTop (mkF m 66 #[iv pa, iv pb, iv 1, iv 0, iv 56, iv 448, iv 448, iv 56, iv 519, iv 1023] [(.int 0), (.int 448)])) (fun t k => XS.iloadN X52.here hx rfl (hb hby at_65) rfl  k) ?_
      obtain ⟨_, _, ⟨T53, L53, k53, n53⟩, -, X53, ⟨Lc53, hQ53, l53, y53, z53⟩, st53⟩ := Jvm.LawKit.callS X52 hx (y := (⟨"com/example/facl/facl/ModeSpecPartPinLaw", "expected", "(I)I"⟩ : MethodName)) hown (mvT hZ (hw _ (List.mem_of_getElem? (i := 8) rfl))) (mvT hZ (hw _ (List.mem_of_getElem? (i := 9) rfl))) (mvT hZ (hw _ (List.mem_of_getElem? (i := 2) rfl))) (mvT hZ (hw _ (List.mem_of_getElem? (i := 10) rfl))) (by decide) (backOf (W := 1) (rmX l Z a0 hw [] (0 : Int32) h0 n0 ) hZ (hw _ (List.mem_of_getElem? (i := 10) rfl)) (hw _ (List.mem_of_getElem? (i := 2) rfl)) (by decide) (by decide)) (g := (mkF m 66 #[iv pa, iv pb, iv 1, iv 0, iv 56, iv 448, iv 448, iv 56, iv 519, iv 1023] [(.int 0), (.int 448)])) rfl (by rw [hml]; rfl) (argsL := [(.int 0)]) (rest := [(.int 448)]) (lenOf pd_2 rfl) rfl (by show 2 * 0 + _ ≤ _; exact Nat.le_of_eq rfl) (hb hby at_66) (fun _ _ => ⟨rfl, e52, (by decide : 0 + 0 ≤ _), (by decide : 0 + 0 ≤ _)⟩)
      dsimp only [Pt.U, Pt.locs, Pt.cells, Pt.slots] at X53 l53 y53 z53 st53 hQ53
      subst l53 y53 z53
      obtain ⟨hv53, N53q, e53⟩ := hQ53
      rw [(show (own_expected (0 : Int32)) = (448 : Int32) from by decide)] at hv53; subst hv53
      have N53 := Fr.app N52 N53q
      refine Go.pull (V := T53.setTop (mkF m 69 #[iv pa, iv pb, iv 1, iv 0, iv 56, iv 448, iv 448, iv 56, iv 519, iv 1023] [(.int 448), (.int 448)])) st53 ?_
      refine Go.pull (V := T53.setTop (mkF m 74 #[iv pa, iv pb, iv 1, iv 0, iv 56, iv 448, iv 448, iv 56, iv 519, iv 1023] [])) (fun t k => XS.icmpYes X53.here hx rfl (pc0 := 69) (pc' := 74) rfl (hb hby at_69) rfl (XT.ii_eq_t (by decide)) (by decide) (by decide) k) ?_
      refine Go.pull (V := T53.setTop (mkF m 76 #[iv pa, iv pb, iv 1, iv 0, iv 56, iv 448, iv 448, iv 56, iv 519, iv 1023] [(.int 56)])) (fun t k => XS.iload X53.here hx rfl (hb hby at_74) rfl  k) ?_
      refine Go.pull (V := T53.setTop (mkF m 79 #[iv pa, iv pb, iv 1, iv 0, iv 56, iv 448, iv 448, iv 56, iv 519, iv 1023] [(.int (-1024)), (.int 56)])) (fun t k => XS.sipush X53.here hx rfl (hb hby at_76) k) ?_
      refine Go.pull (V := T53.setTop (mkF m 80 #[iv pa, iv pb, iv 1, iv 0, iv 56, iv 448, iv 448, iv 56, iv 519, iv 1023] [(.int 0)])) (fun t k => XS.iand X53.here hx rfl (hb hby at_79) rfl k) ?_
      refine Go.pull (V := T53.setTop (mkF m 83 #[iv pa, iv pb, iv 1, iv 0, iv 56, iv 448, iv 448, iv 56, iv 519, iv 1023] [])) (fun t k => XS.ifNo X53.here hx rfl (hb hby at_80) rfl (XT.i0_ne_f (by decide)) k) ?_
      refine Go.pull (V := T53.setTop (mkF m 85 #[iv pa, iv pb, iv 1, iv 0, iv 56, iv 448, iv 448, iv 56, iv 519, iv 1023] [(.int 448)])) (fun t k => XS.iload X53.here hx rfl (hb hby at_83) rfl  k) ?_
      refine Go.pull (V := T53.setTop (mkF m 88 #[iv pa, iv pb, iv 1, iv 0, iv 56, iv 448, iv 448, iv 56, iv 519, iv 1023] [(.int (-1024)), (.int 448)])) (fun t k => XS.sipush X53.here hx rfl (hb hby at_85) k) ?_
      refine Go.pull (V := T53.setTop (mkF m 89 #[iv pa, iv pb, iv 1, iv 0, iv 56, iv 448, iv 448, iv 56, iv 519, iv 1023] [(.int 0)])) (fun t k => XS.iand X53.here hx rfl (hb hby at_88) rfl k) ?_
      refine Go.pull (V := T53.setTop (mkF m 94 #[iv pa, iv pb, iv 1, iv 0, iv 56, iv 448, iv 448, iv 56, iv 519, iv 1023] [])) (fun t k => XS.ifYes X53.here hx rfl (pc0 := 89) (pc' := 94) rfl (hb hby at_89) rfl (XT.i0_eq_t (by decide)) (by decide) (by decide) k) ?_
      refine Go.pull (V := T53.setTop (mkF m 96 #[iv pa, iv pb, iv 1, iv 0, iv 56, iv 448, iv 448, iv 56, iv 519, iv 1023] [(.int 1023)])) (fun t k => XS.iload X53.here hx rfl (hb hby at_94) rfl  k) ?_
      refine Go.pull (V := T53.setTop (mkF m 99 #[iv pa, iv pb, iv 1, iv 0, iv 56, iv 448, iv 448, iv 56, iv 519, iv 1023] [(.int 1023), (.int 1023)])) (fun t k => XS.sipush X53.here hx rfl (hb hby at_96) k) ?_
      refine Go.pull (V := T53.setTop (mkF m 102 #[iv pa, iv pb, iv 1, iv 0, iv 56, iv 448, iv 448, iv 56, iv 519, iv 1023] [])) (fun t k => XS.icmpNo X53.here hx rfl (hb hby at_99) rfl (XT.ii_ne_f (by decide)) k) ?_
      refine Go.pull (V := T53.setTop (mkF m 104 #[iv pa, iv pb, iv 1, iv 0, iv 56, iv 448, iv 448, iv 56, iv 519, iv 1023] [(.int 448)])) (fun t k => XS.iload X53.here hx rfl (hb hby at_102) rfl  k) ?_
      refine Go.pull (V := T53.setTop (mkF m 106 #[iv pa, iv pb, iv 1, iv 0, iv 56, iv 448, iv 448, iv 56, iv 519, iv 1023] [(.int 56), (.int 448)])) (fun t k => XS.iload X53.here hx rfl (hb hby at_104) rfl  k) ?_
      refine Go.pull (V := T53.setTop (mkF m 107 #[iv pa, iv pb, iv 1, iv 0, iv 56, iv 448, iv 448, iv 56, iv 519, iv 1023] [(.int 504)])) (fun t k => XS.ior X53.here hx rfl (hb hby at_106) rfl k) ?_
      refine Go.pull (V := T53.setTop (mkF m 109 #[iv pa, iv pb, iv 1, iv 0, iv 56, iv 448, iv 448, iv 56, iv 519, iv 1023] [(.int 519), (.int 504)])) (fun t k => XS.iload X53.here hx rfl (hb hby at_107) rfl  k) ?_
      refine Go.pull (V := T53.setTop (mkF m 110 #[iv pa, iv pb, iv 1, iv 0, iv 56, iv 448, iv 448, iv 56, iv 519, iv 1023] [(.int 1023)])) (fun t k => XS.ior X53.here hx rfl (hb hby at_109) rfl k) ?_
      refine Go.pull (V := T53.setTop (mkF m 112 #[iv pa, iv pb, iv 1, iv 0, iv 56, iv 448, iv 448, iv 56, iv 519, iv 1023] [(.int 1023), (.int 1023)])) (fun t k => XS.iload X53.here hx rfl (hb hby at_110) rfl  k) ?_
      refine Go.pull (V := T53.setTop (mkF m 117 #[iv pa, iv pb, iv 1, iv 0, iv 56, iv 448, iv 448, iv 56, iv 519, iv 1023] [])) (fun t k => XS.icmpYes X53.here hx rfl (pc0 := 112) (pc' := 117) rfl (hb hby at_112) rfl (XT.ii_eq_t (by decide)) (by decide) (by decide) k) ?_
      refine Go.pull (V := T53.setTop (mkF m 119 #[iv pa, iv pb, iv 1, iv 0, iv 56, iv 448, iv 448, iv 56, iv 519, iv 1023] [(.int 448)])) (fun t k => XS.iload X53.here hx rfl (hb hby at_117) rfl  k) ?_
      refine Go.pull (V := T53.setTop (mkF m 121 #[iv pa, iv pb, iv 1, iv 0, iv 56, iv 448, iv 448, iv 56, iv 519, iv 1023] [(.int 56), (.int 448)])) (fun t k => XS.iload X53.here hx rfl (hb hby at_119) rfl  k) ?_
      refine Go.pull (V := T53.setTop (mkF m 122 #[iv pa, iv pb, iv 1, iv 0, iv 56, iv 448, iv 448, iv 56, iv 519, iv 1023] [(.int 0)])) (fun t k => XS.iand X53.here hx rfl (hb hby at_121) rfl k) ?_
      refine Go.pull (V := T53.setTop (mkF m 125 #[iv pa, iv pb, iv 1, iv 0, iv 56, iv 448, iv 448, iv 56, iv 519, iv 1023] [])) (fun t k => XS.ifNo X53.here hx rfl (hb hby at_122) rfl (XT.i0_ne_f (by decide)) k) ?_
      refine Go.pull (V := T53.setTop (mkF m 127 #[iv pa, iv pb, iv 1, iv 0, iv 56, iv 448, iv 448, iv 56, iv 519, iv 1023] [(.int 448)])) (fun t k => XS.iload X53.here hx rfl (hb hby at_125) rfl  k) ?_
      refine Go.pull (V := T53.setTop (mkF m 129 #[iv pa, iv pb, iv 1, iv 0, iv 56, iv 448, iv 448, iv 56, iv 519, iv 1023] [(.int 519), (.int 448)])) (fun t k => XS.iload X53.here hx rfl (hb hby at_127) rfl  k) ?_
      refine Go.pull (V := T53.setTop (mkF m 130 #[iv pa, iv pb, iv 1, iv 0, iv 56, iv 448, iv 448, iv 56, iv 519, iv 1023] [(.int 0)])) (fun t k => XS.iand X53.here hx rfl (hb hby at_129) rfl k) ?_
      refine Go.pull (V := T53.setTop (mkF m 133 #[iv pa, iv pb, iv 1, iv 0, iv 56, iv 448, iv 448, iv 56, iv 519, iv 1023] [])) (fun t k => XS.ifNo X53.here hx rfl (hb hby at_130) rfl (XT.i0_ne_f (by decide)) k) ?_
      refine Go.pull (V := T53.setTop (mkF m 135 #[iv pa, iv pb, iv 1, iv 0, iv 56, iv 448, iv 448, iv 56, iv 519, iv 1023] [(.int 56)])) (fun t k => XS.iload X53.here hx rfl (hb hby at_133) rfl  k) ?_
      refine Go.pull (V := T53.setTop (mkF m 137 #[iv pa, iv pb, iv 1, iv 0, iv 56, iv 448, iv 448, iv 56, iv 519, iv 1023] [(.int 519), (.int 56)])) (fun t k => XS.iload X53.here hx rfl (hb hby at_135) rfl  k) ?_
      refine Go.pull (V := T53.setTop (mkF m 138 #[iv pa, iv pb, iv 1, iv 0, iv 56, iv 448, iv 448, iv 56, iv 519, iv 1023] [(.int 0)])) (fun t k => XS.iand X53.here hx rfl (hb hby at_137) rfl k) ?_
      refine Go.pull (V := T53.setTop (mkF m 143 #[iv pa, iv pb, iv 1, iv 0, iv 56, iv 448, iv 448, iv 56, iv 519, iv 1023] [])) (fun t k => XS.ifYes X53.here hx rfl (pc0 := 138) (pc' := 143) rfl (hb hby at_138) rfl (XT.i0_eq_t (by decide)) (by decide) (by decide) k) ?_
      refine Go.pull (V := T53.setTop (mkF m 144 #[iv pa, iv pb, iv 1, iv 0, iv 56, iv 448, iv 448, iv 56, iv 519, iv 1023] [(.int 1)])) (fun t k => XS.iloadN X53.here hx rfl (hb hby at_143) rfl  k) ?_
      refine Go.pull (V := T53.setTop (mkF m 145 #[iv pa, iv pb, iv 1, iv 0, iv 56, iv 448, iv 448, iv 56, iv 519, iv 1023] [(.int 0), (.int 1)])) (fun t k => XS.iloadN X53.here hx rfl (hb hby at_144) rfl  k) ?_
      refine Go.pull (V := T53.setTop (mkF m 148 #[iv pa, iv pb, iv 1, iv 0, iv 56, iv 448, iv 448, iv 56, iv 519, iv 1023] [])) (fun t k => XS.icmpNo X53.here hx rfl (hb hby at_145) rfl (XT.ii_eq_f (by decide)) k) ?_
      refine Go.pull (V := T53.setTop (mkF m 149 #[iv pa, iv pb, iv 1, iv 0, iv 56, iv 448, iv 448, iv 56, iv 519, iv 1023] [(.int 1)])) (fun t k => XS.iloadN X53.here hx rfl (hb hby at_148) rfl  k) ?_
      refine Go.pull (V := T53.setTop (mkF m 150 #[iv pa, iv pb, iv 1, iv 0, iv 56, iv 448, iv 448, iv 56, iv 519, iv 1023] [(.int 3), (.int 1)])) (fun t k => XS.iconst X53.here hx rfl (hb hby at_149) k) ?_
      refine Go.pull (V := T53.setTop (mkF m 153 #[iv pa, iv pb, iv 1, iv 0, iv 56, iv 448, iv 448, iv 56, iv 519, iv 1023] [])) (fun t k => XS.icmpNo X53.here hx rfl (hb hby at_150) rfl (XT.ii_eq_f (by decide)) k) ?_
      refine Go.pull (V := T53.setTop (mkF m 154 #[iv pa, iv pb, iv 1, iv 0, iv 56, iv 448, iv 448, iv 56, iv 519, iv 1023] [(.int 0)])) (fun t k => XS.iloadN X53.here hx rfl (hb hby at_153) rfl  k) ?_
      refine Go.pull (V := T53.setTop (mkF m 155 #[iv pa, iv pb, iv 1, iv 0, iv 56, iv 448, iv 448, iv 56, iv 519, iv 1023] [(.int 3), (.int 0)])) (fun t k => XS.iconst X53.here hx rfl (hb hby at_154) k) ?_
      refine Go.pull (V := T53.setTop (mkF m 158 #[iv pa, iv pb, iv 1, iv 0, iv 56, iv 448, iv 448, iv 56, iv 519, iv 1023] [])) (fun t k => XS.icmpNo X53.here hx rfl (hb hby at_155) rfl (XT.ii_eq_f (by decide)) k) ?_
      refine Go.pull (V := T53.setTop (mkF m 160 #[iv pa, iv pb, iv 1, iv 0, iv 56, iv 448, iv 448, iv 56, iv 519, iv 1023] [(.int 56)])) (fun t k => XS.iload X53.here hx rfl (hb hby at_158) rfl  k) ?_
      refine Go.pull (V := T53.setTop (mkF m 162 #[iv pa, iv pb, iv 1, iv 0, iv 56, iv 448, iv 448, iv 56, iv 519, iv 1023] [(.int 448), (.int 56)])) (fun t k => XS.iload X53.here hx rfl (hb hby at_160) rfl  k) ?_
      refine Go.pull (V := T53.setTop (mkF m 163 #[iv pa, iv pb, iv 1, iv 0, iv 56, iv 448, iv 448, iv 56, iv 519, iv 1023] [(.int 0)])) (fun t k => XS.iand X53.here hx rfl (hb hby at_162) rfl k) ?_
      refine Go.pull (V := T53.setTop (mkF m 168 #[iv pa, iv pb, iv 1, iv 0, iv 56, iv 448, iv 448, iv 56, iv 519, iv 1023] [])) (fun t k => XS.ifYes X53.here hx rfl (pc0 := 163) (pc' := 168) rfl (hb hby at_163) rfl (XT.i0_eq_t (by decide)) (by decide) (by decide) k) ?_
      refine Go.pull (V := T53.setTop (mkF m 170 #[iv pa, iv pb, iv 1, iv 0, iv 56, iv 448, iv 448, iv 56, iv 519, iv 1023] [(.int 519)])) (fun t k => XS.iload X53.here hx rfl (hb hby at_168) rfl  k) ?_
      refine Go.pull (V := T53.setTop (mkF m 173 #[iv pa, iv pb, iv 1, iv 0, iv 56, iv 448, iv 448, iv 56, iv 519, iv 1023] [(.int 512), (.int 519)])) (fun t k => XS.sipush X53.here hx rfl (hb hby at_170) k) ?_
      refine Go.pull (V := T53.setTop (mkF m 174 #[iv pa, iv pb, iv 1, iv 0, iv 56, iv 448, iv 448, iv 56, iv 519, iv 1023] [(.int 512)])) (fun t k => XS.iand X53.here hx rfl (hb hby at_173) rfl k) ?_
      refine Go.pull (V := T53.setTop (mkF m 177 #[iv pa, iv pb, iv 1, iv 0, iv 56, iv 448, iv 448, iv 56, iv 519, iv 1023] [])) (fun t k => XS.ifNo X53.here hx rfl (hb hby at_174) rfl (XT.i0_eq_f (by decide)) k) ?_
      refine Go.pull (V := T53.setTop (mkF m 179 #[iv pa, iv pb, iv 1, iv 0, iv 56, iv 448, iv 448, iv 56, iv 519, iv 1023] [(.int 448)])) (fun t k => XS.iload X53.here hx rfl (hb hby at_177) rfl  k) ?_
      refine Go.pull (V := T53.setTop (mkF m 181 #[iv pa, iv pb, iv 1, iv 0, iv 56, iv 448, iv 448, iv 56, iv 519, iv 1023] [(.int 56), (.int 448)])) (fun t k => XS.iload X53.here hx rfl (hb hby at_179) rfl  k) ?_
      refine Go.pull (V := T53.setTop (mkF m 182 #[iv pa, iv pb, iv 1, iv 0, iv 56, iv 448, iv 448, iv 56, iv 519, iv 1023] [(.int 504)])) (fun t k => XS.ior X53.here hx rfl (hb hby at_181) rfl k) ?_
      refine Go.pull (V := T53.setTop (mkF m 185 #[iv pa, iv pb, iv 1, iv 0, iv 56, iv 448, iv 448, iv 56, iv 519, iv 1023] [(.int 512), (.int 504)])) (fun t k => XS.sipush X53.here hx rfl (hb hby at_182) k) ?_
      refine Go.pull (V := T53.setTop (mkF m 186 #[iv pa, iv pb, iv 1, iv 0, iv 56, iv 448, iv 448, iv 56, iv 519, iv 1023] [(.int 0)])) (fun t k => XS.iand X53.here hx rfl (hb hby at_185) rfl k) ?_
      refine Go.pull (V := T53.setTop (mkF m 191 #[iv pa, iv pb, iv 1, iv 0, iv 56, iv 448, iv 448, iv 56, iv 519, iv 1023] [])) (fun t k => XS.ifYes X53.here hx rfl (pc0 := 186) (pc' := 191) rfl (hb hby at_186) rfl (XT.i0_eq_t (by decide)) (by decide) (by decide) k) ?_
      refine Go.pull (V := T53.setTop (mkF m 192 #[iv pa, iv pb, iv 1, iv 0, iv 56, iv 448, iv 448, iv 56, iv 519, iv 1023] [(.int 1)])) (fun t k => XS.iconst X53.here hx rfl (hb hby at_191) k) ?_
      exact Go.retN X53 hx Bd.notSynchronized (t := .boolean) Bd.returns (by simp) (hb hby at_192) ⟨rfl, N53⟩ (by decide) (by decide)
    · subst hv43
      refine Go.pull (V := s₁.setTop (mkF m 9 #[iv pa, iv pb, iv 1, iv 1, .unset, .unset, .unset, .unset, .unset, .unset] [(.int 1)])) (fun t k => XS.iloadN X0.here hx rfl (hb hby at_8) rfl  k) ?_
      obtain ⟨_, _, ⟨T54, L54, k54, n54⟩, -, X54, ⟨Lc54, hQ54, l54, y54, z54⟩, st54⟩ := Jvm.LawKit.callS X0 hx (y := (⟨"com/example/facl/facl/ModeSpecPartPinLaw", "letter", "(I)C"⟩ : MethodName)) hown (mvT hZ (hw _ (List.mem_of_getElem? (i := 0) rfl))) (mvT hZ (hw _ (List.mem_of_getElem? (i := 1) rfl))) (mvT hZ (hw _ (List.mem_of_getElem? (i := 2) rfl))) (mvT hZ (hw _ (List.mem_of_getElem? (i := 3) rfl))) (by decide) (backOf (W := 0) (rmL l Z a0 hw [] (1 : Int32) h0 n0 ) hZ (hw _ (List.mem_of_getElem? (i := 3) rfl)) (hw _ (List.mem_of_getElem? (i := 2) rfl)) (by decide) (by decide)) (g := (mkF m 9 #[iv pa, iv pb, iv 1, iv 1, .unset, .unset, .unset, .unset, .unset, .unset] [(.int 1)])) rfl (by rw [hml]; rfl) (argsL := [(.int 1)]) (rest := []) (lenOf pd_0 rfl) rfl (by show 2 * 0 + _ ≤ _; exact Nat.le_of_eq rfl) (hb hby at_9) (fun _ _ => ⟨rfl, e0, (by decide : 0 + 0 ≤ _), (by decide : 0 + 0 ≤ _)⟩)
      dsimp only [Pt.U, Pt.locs, Pt.cells, Pt.slots] at X54 l54 y54 z54 st54 hQ54
      subst l54 y54 z54
      obtain ⟨hv54, N54q, e54⟩ := hQ54
      rw [(show (own_letter (1 : Int32)) = (103 : Int32) from by decide)] at hv54; subst hv54
      have N54 := Fr.app N0 N54q
      refine Go.pull (V := T54.setTop (mkF m 12 #[iv pa, iv pb, iv 1, iv 1, .unset, .unset, .unset, .unset, .unset, .unset] [(.int 103)])) st54 ?_
      obtain ⟨_, _, ⟨T55, L55, k55, n55⟩, -, X55, ⟨Lc55, hQ55, l55, y55, z55⟩, st55⟩ := Jvm.LawKit.callS X54 hx (y := (⟨"com/example/facl/facl/ModeSpec", "part", "(C)I"⟩ : MethodName)) hown (mvT hZ (hw _ (List.mem_of_getElem? (i := 4) rfl))) (mvT hZ (hw _ (List.mem_of_getElem? (i := 5) rfl))) (mvT hZ (hw _ (List.mem_of_getElem? (i := 6) rfl))) (mvT hZ (hw _ (List.mem_of_getElem? (i := 7) rfl))) (by decide) (backOf (W := 0) (rmP l Z a0 hw [] (103 : Int32) h0 n0 (by decide)) hZ (hw _ (List.mem_of_getElem? (i := 7) rfl)) (hw _ (List.mem_of_getElem? (i := 6) rfl)) (by decide) (by decide)) (g := (mkF m 12 #[iv pa, iv pb, iv 1, iv 1, .unset, .unset, .unset, .unset, .unset, .unset] [(.int 103)])) rfl (by rw [hml]; rfl) (argsL := [(.int 103)]) (rest := []) (lenOf pd_1 rfl) rfl (by show 2 * 0 + _ ≤ _; exact Nat.le_of_eq rfl) (hb hby at_12) (fun _ _ => ⟨rfl, e54, (by decide : 0 + 0 ≤ _), (by decide : 0 + 0 ≤ _)⟩)
      dsimp only [Pt.U, Pt.locs, Pt.cells, Pt.slots] at X55 l55 y55 z55 st55 hQ55
      subst l55 y55 z55
      obtain ⟨hv55, N55q, e55⟩ := hQ55
      rw [(show (own_part (103 : Int32)) = (56 : Int32) from by decide)] at hv55; subst hv55
      have N55 := Fr.app N54 N55q
      refine Go.pull (V := T55.setTop (mkF m 15 #[iv pa, iv pb, iv 1, iv 1, .unset, .unset, .unset, .unset, .unset, .unset] [(.int 56)])) st55 ?_
      refine Go.pull (V := T55.setTop (mkF m 17 #[iv pa, iv pb, iv 1, iv 1, iv 56, .unset, .unset, .unset, .unset, .unset] [])) (fun t k => XS.istore X55.here hx rfl (hb hby at_15) rfl (l' := #[iv pa, iv pb, iv 1, iv 1, iv 56, .unset, .unset, .unset, .unset, .unset]) rfl k) ?_
      refine Go.pull (V := T55.setTop (mkF m 18 #[iv pa, iv pb, iv 1, iv 1, iv 56, .unset, .unset, .unset, .unset, .unset] [(.int 1)])) (fun t k => XS.iloadN X55.here hx rfl (hb hby at_17) rfl  k) ?_
      obtain ⟨_, _, ⟨T56, L56, k56, n56⟩, -, X56, ⟨Lc56, hQ56, l56, y56, z56⟩, st56⟩ := Jvm.LawKit.callS X55 hx (y := (⟨"com/example/facl/facl/ModeSpecPartPinLaw", "letter", "(I)C"⟩ : MethodName)) hown (mvT hZ (hw _ (List.mem_of_getElem? (i := 0) rfl))) (mvT hZ (hw _ (List.mem_of_getElem? (i := 1) rfl))) (mvT hZ (hw _ (List.mem_of_getElem? (i := 2) rfl))) (mvT hZ (hw _ (List.mem_of_getElem? (i := 3) rfl))) (by decide) (backOf (W := 0) (rmL l Z a0 hw [] (1 : Int32) h0 n0 ) hZ (hw _ (List.mem_of_getElem? (i := 3) rfl)) (hw _ (List.mem_of_getElem? (i := 2) rfl)) (by decide) (by decide)) (g := (mkF m 18 #[iv pa, iv pb, iv 1, iv 1, iv 56, .unset, .unset, .unset, .unset, .unset] [(.int 1)])) rfl (by rw [hml]; rfl) (argsL := [(.int 1)]) (rest := []) (lenOf pd_0 rfl) rfl (by show 2 * 0 + _ ≤ _; exact Nat.le_of_eq rfl) (hb hby at_18) (fun _ _ => ⟨rfl, e55, (by decide : 0 + 0 ≤ _), (by decide : 0 + 0 ≤ _)⟩)
      dsimp only [Pt.U, Pt.locs, Pt.cells, Pt.slots] at X56 l56 y56 z56 st56 hQ56
      subst l56 y56 z56
      obtain ⟨hv56, N56q, e56⟩ := hQ56
      rw [(show (own_letter (1 : Int32)) = (103 : Int32) from by decide)] at hv56; subst hv56
      have N56 := Fr.app N55 N56q
      refine Go.pull (V := T56.setTop (mkF m 21 #[iv pa, iv pb, iv 1, iv 1, iv 56, .unset, .unset, .unset, .unset, .unset] [(.int 103)])) st56 ?_
      obtain ⟨_, _, ⟨T57, L57, k57, n57⟩, -, X57, ⟨Lc57, hQ57, l57, y57, z57⟩, st57⟩ := Jvm.LawKit.callS X56 hx (y := (⟨"com/example/facl/facl/ModeSpec", "part", "(C)I"⟩ : MethodName)) hown (mvT hZ (hw _ (List.mem_of_getElem? (i := 4) rfl))) (mvT hZ (hw _ (List.mem_of_getElem? (i := 5) rfl))) (mvT hZ (hw _ (List.mem_of_getElem? (i := 6) rfl))) (mvT hZ (hw _ (List.mem_of_getElem? (i := 7) rfl))) (by decide) (backOf (W := 0) (rmP l Z a0 hw [] (103 : Int32) h0 n0 (by decide)) hZ (hw _ (List.mem_of_getElem? (i := 7) rfl)) (hw _ (List.mem_of_getElem? (i := 6) rfl)) (by decide) (by decide)) (g := (mkF m 21 #[iv pa, iv pb, iv 1, iv 1, iv 56, .unset, .unset, .unset, .unset, .unset] [(.int 103)])) rfl (by rw [hml]; rfl) (argsL := [(.int 103)]) (rest := []) (lenOf pd_1 rfl) rfl (by show 2 * 0 + _ ≤ _; exact Nat.le_of_eq rfl) (hb hby at_21) (fun _ _ => ⟨rfl, e56, (by decide : 0 + 0 ≤ _), (by decide : 0 + 0 ≤ _)⟩)
      dsimp only [Pt.U, Pt.locs, Pt.cells, Pt.slots] at X57 l57 y57 z57 st57 hQ57
      subst l57 y57 z57
      obtain ⟨hv57, N57q, e57⟩ := hQ57
      rw [(show (own_part (103 : Int32)) = (56 : Int32) from by decide)] at hv57; subst hv57
      have N57 := Fr.app N56 N57q
      refine Go.pull (V := T57.setTop (mkF m 24 #[iv pa, iv pb, iv 1, iv 1, iv 56, .unset, .unset, .unset, .unset, .unset] [(.int 56)])) st57 ?_
      refine Go.pull (V := T57.setTop (mkF m 26 #[iv pa, iv pb, iv 1, iv 1, iv 56, iv 56, .unset, .unset, .unset, .unset] [])) (fun t k => XS.istore X57.here hx rfl (hb hby at_24) rfl (l' := #[iv pa, iv pb, iv 1, iv 1, iv 56, iv 56, .unset, .unset, .unset, .unset]) rfl k) ?_
      refine Go.pull (V := T57.setTop (mkF m 28 #[iv pa, iv pb, iv 1, iv 1, iv 56, iv 56, .unset, .unset, .unset, .unset] [(.int 117)])) (fun t k => XS.bipush X57.here hx rfl (hb hby at_26) k) ?_
      obtain ⟨_, _, ⟨T58, L58, k58, n58⟩, -, X58, ⟨Lc58, hQ58, l58, y58, z58⟩, st58⟩ := Jvm.LawKit.callS X57 hx (y := (⟨"com/example/facl/facl/ModeSpec", "part", "(C)I"⟩ : MethodName)) hown (mvT hZ (hw _ (List.mem_of_getElem? (i := 4) rfl))) (mvT hZ (hw _ (List.mem_of_getElem? (i := 5) rfl))) (mvT hZ (hw _ (List.mem_of_getElem? (i := 6) rfl))) (mvT hZ (hw _ (List.mem_of_getElem? (i := 7) rfl))) (by decide) (backOf (W := 0) (rmP l Z a0 hw [] (117 : Int32) h0 n0 (by decide)) hZ (hw _ (List.mem_of_getElem? (i := 7) rfl)) (hw _ (List.mem_of_getElem? (i := 6) rfl)) (by decide) (by decide)) (g := (mkF m 28 #[iv pa, iv pb, iv 1, iv 1, iv 56, iv 56, .unset, .unset, .unset, .unset] [(.int 117)])) rfl (by rw [hml]; rfl) (argsL := [(.int 117)]) (rest := []) (lenOf pd_1 rfl) rfl (by show 2 * 0 + _ ≤ _; exact Nat.le_of_eq rfl) (hb hby at_28) (fun _ _ => ⟨rfl, e57, (by decide : 0 + 0 ≤ _), (by decide : 0 + 0 ≤ _)⟩)
      dsimp only [Pt.U, Pt.locs, Pt.cells, Pt.slots] at X58 l58 y58 z58 st58 hQ58
      subst l58 y58 z58
      obtain ⟨hv58, N58q, e58⟩ := hQ58
      rw [(show (own_part (117 : Int32)) = (448 : Int32) from by decide)] at hv58; subst hv58
      have N58 := Fr.app N57 N58q
      refine Go.pull (V := T58.setTop (mkF m 31 #[iv pa, iv pb, iv 1, iv 1, iv 56, iv 56, .unset, .unset, .unset, .unset] [(.int 448)])) st58 ?_
      refine Go.pull (V := T58.setTop (mkF m 33 #[iv pa, iv pb, iv 1, iv 1, iv 56, iv 56, iv 448, .unset, .unset, .unset] [])) (fun t k => XS.istore X58.here hx rfl (hb hby at_31) rfl (l' := #[iv pa, iv pb, iv 1, iv 1, iv 56, iv 56, iv 448, .unset, .unset, .unset]) rfl k) ?_
      refine Go.pull (V := T58.setTop (mkF m 35 #[iv pa, iv pb, iv 1, iv 1, iv 56, iv 56, iv 448, .unset, .unset, .unset] [(.int 103)])) (fun t k => XS.bipush X58.here hx rfl (hb hby at_33) k) ?_
      obtain ⟨_, _, ⟨T59, L59, k59, n59⟩, -, X59, ⟨Lc59, hQ59, l59, y59, z59⟩, st59⟩ := Jvm.LawKit.callS X58 hx (y := (⟨"com/example/facl/facl/ModeSpec", "part", "(C)I"⟩ : MethodName)) hown (mvT hZ (hw _ (List.mem_of_getElem? (i := 4) rfl))) (mvT hZ (hw _ (List.mem_of_getElem? (i := 5) rfl))) (mvT hZ (hw _ (List.mem_of_getElem? (i := 6) rfl))) (mvT hZ (hw _ (List.mem_of_getElem? (i := 7) rfl))) (by decide) (backOf (W := 0) (rmP l Z a0 hw [] (103 : Int32) h0 n0 (by decide)) hZ (hw _ (List.mem_of_getElem? (i := 7) rfl)) (hw _ (List.mem_of_getElem? (i := 6) rfl)) (by decide) (by decide)) (g := (mkF m 35 #[iv pa, iv pb, iv 1, iv 1, iv 56, iv 56, iv 448, .unset, .unset, .unset] [(.int 103)])) rfl (by rw [hml]; rfl) (argsL := [(.int 103)]) (rest := []) (lenOf pd_1 rfl) rfl (by show 2 * 0 + _ ≤ _; exact Nat.le_of_eq rfl) (hb hby at_35) (fun _ _ => ⟨rfl, e58, (by decide : 0 + 0 ≤ _), (by decide : 0 + 0 ≤ _)⟩)
      dsimp only [Pt.U, Pt.locs, Pt.cells, Pt.slots] at X59 l59 y59 z59 st59 hQ59
      subst l59 y59 z59
      obtain ⟨hv59, N59q, e59⟩ := hQ59
      rw [(show (own_part (103 : Int32)) = (56 : Int32) from by decide)] at hv59; subst hv59
      have N59 := Fr.app N58 N59q
      refine Go.pull (V := T59.setTop (mkF m 38 #[iv pa, iv pb, iv 1, iv 1, iv 56, iv 56, iv 448, .unset, .unset, .unset] [(.int 56)])) st59 ?_
      refine Go.pull (V := T59.setTop (mkF m 40 #[iv pa, iv pb, iv 1, iv 1, iv 56, iv 56, iv 448, iv 56, .unset, .unset] [])) (fun t k => XS.istore X59.here hx rfl (hb hby at_38) rfl (l' := #[iv pa, iv pb, iv 1, iv 1, iv 56, iv 56, iv 448, iv 56, .unset, .unset]) rfl k) ?_
      refine Go.pull (V := T59.setTop (mkF m 42 #[iv pa, iv pb, iv 1, iv 1, iv 56, iv 56, iv 448, iv 56, .unset, .unset] [(.int 111)])) (fun t k => XS.bipush X59.here hx rfl (hb hby at_40) k) ?_
      obtain ⟨_, _, ⟨T60, L60, k60, n60⟩, -, X60, ⟨Lc60, hQ60, l60, y60, z60⟩, st60⟩ := Jvm.LawKit.callS X59 hx (y := (⟨"com/example/facl/facl/ModeSpec", "part", "(C)I"⟩ : MethodName)) hown (mvT hZ (hw _ (List.mem_of_getElem? (i := 4) rfl))) (mvT hZ (hw _ (List.mem_of_getElem? (i := 5) rfl))) (mvT hZ (hw _ (List.mem_of_getElem? (i := 6) rfl))) (mvT hZ (hw _ (List.mem_of_getElem? (i := 7) rfl))) (by decide) (backOf (W := 0) (rmP l Z a0 hw [] (111 : Int32) h0 n0 (by decide)) hZ (hw _ (List.mem_of_getElem? (i := 7) rfl)) (hw _ (List.mem_of_getElem? (i := 6) rfl)) (by decide) (by decide)) (g := (mkF m 42 #[iv pa, iv pb, iv 1, iv 1, iv 56, iv 56, iv 448, iv 56, .unset, .unset] [(.int 111)])) rfl (by rw [hml]; rfl) (argsL := [(.int 111)]) (rest := []) (lenOf pd_1 rfl) rfl (by show 2 * 0 + _ ≤ _; exact Nat.le_of_eq rfl) (hb hby at_42) (fun _ _ => ⟨rfl, e59, (by decide : 0 + 0 ≤ _), (by decide : 0 + 0 ≤ _)⟩)
      dsimp only [Pt.U, Pt.locs, Pt.cells, Pt.slots] at X60 l60 y60 z60 st60 hQ60
      subst l60 y60 z60
      obtain ⟨hv60, N60q, e60⟩ := hQ60
      rw [(show (own_part (111 : Int32)) = (519 : Int32) from by decide)] at hv60; subst hv60
      have N60 := Fr.app N59 N60q
      refine Go.pull (V := T60.setTop (mkF m 45 #[iv pa, iv pb, iv 1, iv 1, iv 56, iv 56, iv 448, iv 56, .unset, .unset] [(.int 519)])) st60 ?_
      refine Go.pull (V := T60.setTop (mkF m 47 #[iv pa, iv pb, iv 1, iv 1, iv 56, iv 56, iv 448, iv 56, iv 519, .unset] [])) (fun t k => XS.istore X60.here hx rfl (hb hby at_45) rfl (l' := #[iv pa, iv pb, iv 1, iv 1, iv 56, iv 56, iv 448, iv 56, iv 519, .unset]) rfl k) ?_
      refine Go.pull (V := T60.setTop (mkF m 49 #[iv pa, iv pb, iv 1, iv 1, iv 56, iv 56, iv 448, iv 56, iv 519, .unset] [(.int 97)])) (fun t k => XS.bipush X60.here hx rfl (hb hby at_47) k) ?_
      obtain ⟨_, _, ⟨T61, L61, k61, n61⟩, -, X61, ⟨Lc61, hQ61, l61, y61, z61⟩, st61⟩ := Jvm.LawKit.callS X60 hx (y := (⟨"com/example/facl/facl/ModeSpec", "part", "(C)I"⟩ : MethodName)) hown (mvT hZ (hw _ (List.mem_of_getElem? (i := 4) rfl))) (mvT hZ (hw _ (List.mem_of_getElem? (i := 5) rfl))) (mvT hZ (hw _ (List.mem_of_getElem? (i := 6) rfl))) (mvT hZ (hw _ (List.mem_of_getElem? (i := 7) rfl))) (by decide) (backOf (W := 0) (rmP l Z a0 hw [] (97 : Int32) h0 n0 (by decide)) hZ (hw _ (List.mem_of_getElem? (i := 7) rfl)) (hw _ (List.mem_of_getElem? (i := 6) rfl)) (by decide) (by decide)) (g := (mkF m 49 #[iv pa, iv pb, iv 1, iv 1, iv 56, iv 56, iv 448, iv 56, iv 519, .unset] [(.int 97)])) rfl (by rw [hml]; rfl) (argsL := [(.int 97)]) (rest := []) (lenOf pd_1 rfl) rfl (by show 2 * 0 + _ ≤ _; exact Nat.le_of_eq rfl) (hb hby at_49) (fun _ _ => ⟨rfl, e60, (by decide : 0 + 0 ≤ _), (by decide : 0 + 0 ≤ _)⟩)
      dsimp only [Pt.U, Pt.locs, Pt.cells, Pt.slots] at X61 l61 y61 z61 st61 hQ61
      subst l61 y61 z61
      obtain ⟨hv61, N61q, e61⟩ := hQ61
      rw [(show (own_part (97 : Int32)) = (1023 : Int32) from by decide)] at hv61; subst hv61
      have N61 := Fr.app N60 N61q
      refine Go.pull (V := T61.setTop (mkF m 52 #[iv pa, iv pb, iv 1, iv 1, iv 56, iv 56, iv 448, iv 56, iv 519, .unset] [(.int 1023)])) st61 ?_
      refine Go.pull (V := T61.setTop (mkF m 54 #[iv pa, iv pb, iv 1, iv 1, iv 56, iv 56, iv 448, iv 56, iv 519, iv 1023] [])) (fun t k => XS.istore X61.here hx rfl (hb hby at_52) rfl (l' := #[iv pa, iv pb, iv 1, iv 1, iv 56, iv 56, iv 448, iv 56, iv 519, iv 1023]) rfl k) ?_
      refine Go.pull (V := T61.setTop (mkF m 56 #[iv pa, iv pb, iv 1, iv 1, iv 56, iv 56, iv 448, iv 56, iv 519, iv 1023] [(.int 56)])) (fun t k => XS.iload X61.here hx rfl (hb hby at_54) rfl  k) ?_
      refine Go.pull (V := T61.setTop (mkF m 57 #[iv pa, iv pb, iv 1, iv 1, iv 56, iv 56, iv 448, iv 56, iv 519, iv 1023] [(.int 1), (.int 56)])) (fun t k => XS.iloadN X61.here hx rfl (hb hby at_56) rfl  k) ?_
      obtain ⟨_, _, ⟨T62, L62, k62, n62⟩, -, X62, ⟨Lc62, hQ62, l62, y62, z62⟩, st62⟩ := Jvm.LawKit.callS X61 hx (y := (⟨"com/example/facl/facl/ModeSpecPartPinLaw", "expected", "(I)I"⟩ : MethodName)) hown (mvT hZ (hw _ (List.mem_of_getElem? (i := 8) rfl))) (mvT hZ (hw _ (List.mem_of_getElem? (i := 9) rfl))) (mvT hZ (hw _ (List.mem_of_getElem? (i := 2) rfl))) (mvT hZ (hw _ (List.mem_of_getElem? (i := 10) rfl))) (by decide) (backOf (W := 1) (rmX l Z a0 hw [] (1 : Int32) h0 n0 ) hZ (hw _ (List.mem_of_getElem? (i := 10) rfl)) (hw _ (List.mem_of_getElem? (i := 2) rfl)) (by decide) (by decide)) (g := (mkF m 57 #[iv pa, iv pb, iv 1, iv 1, iv 56, iv 56, iv 448, iv 56, iv 519, iv 1023] [(.int 1), (.int 56)])) rfl (by rw [hml]; rfl) (argsL := [(.int 1)]) (rest := [(.int 56)]) (lenOf pd_2 rfl) rfl (by show 2 * 0 + _ ≤ _; exact Nat.le_of_eq rfl) (hb hby at_57) (fun _ _ => ⟨rfl, e61, (by decide : 0 + 0 ≤ _), (by decide : 0 + 0 ≤ _)⟩)
      dsimp only [Pt.U, Pt.locs, Pt.cells, Pt.slots] at X62 l62 y62 z62 st62 hQ62
      subst l62 y62 z62
      obtain ⟨hv62, N62q, e62⟩ := hQ62
      rw [(show (own_expected (1 : Int32)) = (56 : Int32) from by decide)] at hv62; subst hv62
      have N62 := Fr.app N61 N62q
      refine Go.pull (V := T62.setTop (mkF m 60 #[iv pa, iv pb, iv 1, iv 1, iv 56, iv 56, iv 448, iv 56, iv 519, iv 1023] [(.int 56), (.int 56)])) st62 ?_
      refine Go.pull (V := T62.setTop (mkF m 63 #[iv pa, iv pb, iv 1, iv 1, iv 56, iv 56, iv 448, iv 56, iv 519, iv 1023] [])) (fun t k => XS.icmpNo X62.here hx rfl (hb hby at_60) rfl (XT.ii_ne_f (by decide)) k) ?_
      refine Go.pull (V := T62.setTop (mkF m 65 #[iv pa, iv pb, iv 1, iv 1, iv 56, iv 56, iv 448, iv 56, iv 519, iv 1023] [(.int 56)])) (fun t k => XS.iload X62.here hx rfl (hb hby at_63) rfl  k) ?_
      refine Go.pull (V := T62.setTop (mkF m 66 #[iv pa, iv pb, iv 1, iv 1, iv 56, iv 56, iv 448, iv 56, iv 519, iv 1023] [(.int 1), (.int 56)])) (fun t k => XS.iloadN X62.here hx rfl (hb hby at_65) rfl  k) ?_
      obtain ⟨_, _, ⟨T63, L63, k63, n63⟩, -, X63, ⟨Lc63, hQ63, l63, y63, z63⟩, st63⟩ := Jvm.LawKit.callS X62 hx (y := (⟨"com/example/facl/facl/ModeSpecPartPinLaw", "expected", "(I)I"⟩ : MethodName)) hown (mvT hZ (hw _ (List.mem_of_getElem? (i := 8) rfl))) (mvT hZ (hw _ (List.mem_of_getElem? (i := 9) rfl))) (mvT hZ (hw _ (List.mem_of_getElem? (i := 2) rfl))) (mvT hZ (hw _ (List.mem_of_getElem? (i := 10) rfl))) (by decide) (backOf (W := 1) (rmX l Z a0 hw [] (1 : Int32) h0 n0 ) hZ (hw _ (List.mem_of_getElem? (i := 10) rfl)) (hw _ (List.mem_of_getElem? (i := 2) rfl)) (by decide) (by decide)) (g := (mkF m 66 #[iv pa, iv pb, iv 1, iv 1, iv 56, iv 56, iv 448, iv 56, iv 519, iv 1023] [(.int 1), (.int 56)])) rfl (by rw [hml]; rfl) (argsL := [(.int 1)]) (rest := [(.int 56)]) (lenOf pd_2 rfl) rfl (by show 2 * 0 + _ ≤ _; exact Nat.le_of_eq rfl) (hb hby at_66) (fun _ _ => ⟨rfl, e62, (by decide : 0 + 0 ≤ _), (by decide : 0 + 0 ≤ _)⟩)
      dsimp only [Pt.U, Pt.locs, Pt.cells, Pt.slots] at X63 l63 y63 z63 st63 hQ63
      subst l63 y63 z63
      obtain ⟨hv63, N63q, e63⟩ := hQ63
      rw [(show (own_expected (1 : Int32)) = (56 : Int32) from by decide)] at hv63; subst hv63
      have N63 := Fr.app N62 N63q
      refine Go.pull (V := T63.setTop (mkF m 69 #[iv pa, iv pb, iv 1, iv 1, iv 56, iv 56, iv 448, iv 56, iv 519, iv 1023] [(.int 56), (.int 56)])) st63 ?_
      refine Go.pull (V := T63.setTop (mkF m 74 #[iv pa, iv pb, iv 1, iv 1, iv 56, iv 56, iv 448, iv 56, iv 519, iv 1023] [])) (fun t k => XS.icmpYes X63.here hx rfl (pc0 := 69) (pc' := 74) rfl (hb hby at_69) rfl (XT.ii_eq_t (by decide)) (by decide) (by decide) k) ?_
      refine Go.pull (V := T63.setTop (mkF m 76 #[iv pa, iv pb, iv 1, iv 1, iv 56, iv 56, iv 448, iv 56, iv 519, iv 1023] [(.int 56)])) (fun t k => XS.iload X63.here hx rfl (hb hby at_74) rfl  k) ?_
      refine Go.pull (V := T63.setTop (mkF m 79 #[iv pa, iv pb, iv 1, iv 1, iv 56, iv 56, iv 448, iv 56, iv 519, iv 1023] [(.int (-1024)), (.int 56)])) (fun t k => XS.sipush X63.here hx rfl (hb hby at_76) k) ?_
      refine Go.pull (V := T63.setTop (mkF m 80 #[iv pa, iv pb, iv 1, iv 1, iv 56, iv 56, iv 448, iv 56, iv 519, iv 1023] [(.int 0)])) (fun t k => XS.iand X63.here hx rfl (hb hby at_79) rfl k) ?_
      refine Go.pull (V := T63.setTop (mkF m 83 #[iv pa, iv pb, iv 1, iv 1, iv 56, iv 56, iv 448, iv 56, iv 519, iv 1023] [])) (fun t k => XS.ifNo X63.here hx rfl (hb hby at_80) rfl (XT.i0_ne_f (by decide)) k) ?_
      refine Go.pull (V := T63.setTop (mkF m 85 #[iv pa, iv pb, iv 1, iv 1, iv 56, iv 56, iv 448, iv 56, iv 519, iv 1023] [(.int 56)])) (fun t k => XS.iload X63.here hx rfl (hb hby at_83) rfl  k) ?_
      refine Go.pull (V := T63.setTop (mkF m 88 #[iv pa, iv pb, iv 1, iv 1, iv 56, iv 56, iv 448, iv 56, iv 519, iv 1023] [(.int (-1024)), (.int 56)])) (fun t k => XS.sipush X63.here hx rfl (hb hby at_85) k) ?_
      refine Go.pull (V := T63.setTop (mkF m 89 #[iv pa, iv pb, iv 1, iv 1, iv 56, iv 56, iv 448, iv 56, iv 519, iv 1023] [(.int 0)])) (fun t k => XS.iand X63.here hx rfl (hb hby at_88) rfl k) ?_
      refine Go.pull (V := T63.setTop (mkF m 94 #[iv pa, iv pb, iv 1, iv 1, iv 56, iv 56, iv 448, iv 56, iv 519, iv 1023] [])) (fun t k => XS.ifYes X63.here hx rfl (pc0 := 89) (pc' := 94) rfl (hb hby at_89) rfl (XT.i0_eq_t (by decide)) (by decide) (by decide) k) ?_
      refine Go.pull (V := T63.setTop (mkF m 96 #[iv pa, iv pb, iv 1, iv 1, iv 56, iv 56, iv 448, iv 56, iv 519, iv 1023] [(.int 1023)])) (fun t k => XS.iload X63.here hx rfl (hb hby at_94) rfl  k) ?_
      refine Go.pull (V := T63.setTop (mkF m 99 #[iv pa, iv pb, iv 1, iv 1, iv 56, iv 56, iv 448, iv 56, iv 519, iv 1023] [(.int 1023), (.int 1023)])) (fun t k => XS.sipush X63.here hx rfl (hb hby at_96) k) ?_
      refine Go.pull (V := T63.setTop (mkF m 102 #[iv pa, iv pb, iv 1, iv 1, iv 56, iv 56, iv 448, iv 56, iv 519, iv 1023] [])) (fun t k => XS.icmpNo X63.here hx rfl (hb hby at_99) rfl (XT.ii_ne_f (by decide)) k) ?_
      refine Go.pull (V := T63.setTop (mkF m 104 #[iv pa, iv pb, iv 1, iv 1, iv 56, iv 56, iv 448, iv 56, iv 519, iv 1023] [(.int 448)])) (fun t k => XS.iload X63.here hx rfl (hb hby at_102) rfl  k) ?_
      refine Go.pull (V := T63.setTop (mkF m 106 #[iv pa, iv pb, iv 1, iv 1, iv 56, iv 56, iv 448, iv 56, iv 519, iv 1023] [(.int 56), (.int 448)])) (fun t k => XS.iload X63.here hx rfl (hb hby at_104) rfl  k) ?_
      refine Go.pull (V := T63.setTop (mkF m 107 #[iv pa, iv pb, iv 1, iv 1, iv 56, iv 56, iv 448, iv 56, iv 519, iv 1023] [(.int 504)])) (fun t k => XS.ior X63.here hx rfl (hb hby at_106) rfl k) ?_
      refine Go.pull (V := T63.setTop (mkF m 109 #[iv pa, iv pb, iv 1, iv 1, iv 56, iv 56, iv 448, iv 56, iv 519, iv 1023] [(.int 519), (.int 504)])) (fun t k => XS.iload X63.here hx rfl (hb hby at_107) rfl  k) ?_
      refine Go.pull (V := T63.setTop (mkF m 110 #[iv pa, iv pb, iv 1, iv 1, iv 56, iv 56, iv 448, iv 56, iv 519, iv 1023] [(.int 1023)])) (fun t k => XS.ior X63.here hx rfl (hb hby at_109) rfl k) ?_
      refine Go.pull (V := T63.setTop (mkF m 112 #[iv pa, iv pb, iv 1, iv 1, iv 56, iv 56, iv 448, iv 56, iv 519, iv 1023] [(.int 1023), (.int 1023)])) (fun t k => XS.iload X63.here hx rfl (hb hby at_110) rfl  k) ?_
      refine Go.pull (V := T63.setTop (mkF m 117 #[iv pa, iv pb, iv 1, iv 1, iv 56, iv 56, iv 448, iv 56, iv 519, iv 1023] [])) (fun t k => XS.icmpYes X63.here hx rfl (pc0 := 112) (pc' := 117) rfl (hb hby at_112) rfl (XT.ii_eq_t (by decide)) (by decide) (by decide) k) ?_
      refine Go.pull (V := T63.setTop (mkF m 119 #[iv pa, iv pb, iv 1, iv 1, iv 56, iv 56, iv 448, iv 56, iv 519, iv 1023] [(.int 448)])) (fun t k => XS.iload X63.here hx rfl (hb hby at_117) rfl  k) ?_
      refine Go.pull (V := T63.setTop (mkF m 121 #[iv pa, iv pb, iv 1, iv 1, iv 56, iv 56, iv 448, iv 56, iv 519, iv 1023] [(.int 56), (.int 448)])) (fun t k => XS.iload X63.here hx rfl (hb hby at_119) rfl  k) ?_
      refine Go.pull (V := T63.setTop (mkF m 122 #[iv pa, iv pb, iv 1, iv 1, iv 56, iv 56, iv 448, iv 56, iv 519, iv 1023] [(.int 0)])) (fun t k => XS.iand X63.here hx rfl (hb hby at_121) rfl k) ?_
      refine Go.pull (V := T63.setTop (mkF m 125 #[iv pa, iv pb, iv 1, iv 1, iv 56, iv 56, iv 448, iv 56, iv 519, iv 1023] [])) (fun t k => XS.ifNo X63.here hx rfl (hb hby at_122) rfl (XT.i0_ne_f (by decide)) k) ?_
      refine Go.pull (V := T63.setTop (mkF m 127 #[iv pa, iv pb, iv 1, iv 1, iv 56, iv 56, iv 448, iv 56, iv 519, iv 1023] [(.int 448)])) (fun t k => XS.iload X63.here hx rfl (hb hby at_125) rfl  k) ?_
      refine Go.pull (V := T63.setTop (mkF m 129 #[iv pa, iv pb, iv 1, iv 1, iv 56, iv 56, iv 448, iv 56, iv 519, iv 1023] [(.int 519), (.int 448)])) (fun t k => XS.iload X63.here hx rfl (hb hby at_127) rfl  k) ?_
      refine Go.pull (V := T63.setTop (mkF m 130 #[iv pa, iv pb, iv 1, iv 1, iv 56, iv 56, iv 448, iv 56, iv 519, iv 1023] [(.int 0)])) (fun t k => XS.iand X63.here hx rfl (hb hby at_129) rfl k) ?_
      refine Go.pull (V := T63.setTop (mkF m 133 #[iv pa, iv pb, iv 1, iv 1, iv 56, iv 56, iv 448, iv 56, iv 519, iv 1023] [])) (fun t k => XS.ifNo X63.here hx rfl (hb hby at_130) rfl (XT.i0_ne_f (by decide)) k) ?_
      refine Go.pull (V := T63.setTop (mkF m 135 #[iv pa, iv pb, iv 1, iv 1, iv 56, iv 56, iv 448, iv 56, iv 519, iv 1023] [(.int 56)])) (fun t k => XS.iload X63.here hx rfl (hb hby at_133) rfl  k) ?_
      refine Go.pull (V := T63.setTop (mkF m 137 #[iv pa, iv pb, iv 1, iv 1, iv 56, iv 56, iv 448, iv 56, iv 519, iv 1023] [(.int 519), (.int 56)])) (fun t k => XS.iload X63.here hx rfl (hb hby at_135) rfl  k) ?_
      refine Go.pull (V := T63.setTop (mkF m 138 #[iv pa, iv pb, iv 1, iv 1, iv 56, iv 56, iv 448, iv 56, iv 519, iv 1023] [(.int 0)])) (fun t k => XS.iand X63.here hx rfl (hb hby at_137) rfl k) ?_
      refine Go.pull (V := T63.setTop (mkF m 143 #[iv pa, iv pb, iv 1, iv 1, iv 56, iv 56, iv 448, iv 56, iv 519, iv 1023] [])) (fun t k => XS.ifYes X63.here hx rfl (pc0 := 138) (pc' := 143) rfl (hb hby at_138) rfl (XT.i0_eq_t (by decide)) (by decide) (by decide) k) ?_
      refine Go.pull (V := T63.setTop (mkF m 144 #[iv pa, iv pb, iv 1, iv 1, iv 56, iv 56, iv 448, iv 56, iv 519, iv 1023] [(.int 1)])) (fun t k => XS.iloadN X63.here hx rfl (hb hby at_143) rfl  k) ?_
      refine Go.pull (V := T63.setTop (mkF m 145 #[iv pa, iv pb, iv 1, iv 1, iv 56, iv 56, iv 448, iv 56, iv 519, iv 1023] [(.int 1), (.int 1)])) (fun t k => XS.iloadN X63.here hx rfl (hb hby at_144) rfl  k) ?_
      refine Go.pull (V := T63.setTop (mkF m 168 #[iv pa, iv pb, iv 1, iv 1, iv 56, iv 56, iv 448, iv 56, iv 519, iv 1023] [])) (fun t k => XS.icmpYes X63.here hx rfl (pc0 := 145) (pc' := 168) rfl (hb hby at_145) rfl (XT.ii_eq_t (by decide)) (by decide) (by decide) k) ?_
      refine Go.pull (V := T63.setTop (mkF m 170 #[iv pa, iv pb, iv 1, iv 1, iv 56, iv 56, iv 448, iv 56, iv 519, iv 1023] [(.int 519)])) (fun t k => XS.iload X63.here hx rfl (hb hby at_168) rfl  k) ?_
      refine Go.pull (V := T63.setTop (mkF m 173 #[iv pa, iv pb, iv 1, iv 1, iv 56, iv 56, iv 448, iv 56, iv 519, iv 1023] [(.int 512), (.int 519)])) (fun t k => XS.sipush X63.here hx rfl (hb hby at_170) k) ?_
      refine Go.pull (V := T63.setTop (mkF m 174 #[iv pa, iv pb, iv 1, iv 1, iv 56, iv 56, iv 448, iv 56, iv 519, iv 1023] [(.int 512)])) (fun t k => XS.iand X63.here hx rfl (hb hby at_173) rfl k) ?_
      refine Go.pull (V := T63.setTop (mkF m 177 #[iv pa, iv pb, iv 1, iv 1, iv 56, iv 56, iv 448, iv 56, iv 519, iv 1023] [])) (fun t k => XS.ifNo X63.here hx rfl (hb hby at_174) rfl (XT.i0_eq_f (by decide)) k) ?_
      refine Go.pull (V := T63.setTop (mkF m 179 #[iv pa, iv pb, iv 1, iv 1, iv 56, iv 56, iv 448, iv 56, iv 519, iv 1023] [(.int 448)])) (fun t k => XS.iload X63.here hx rfl (hb hby at_177) rfl  k) ?_
      refine Go.pull (V := T63.setTop (mkF m 181 #[iv pa, iv pb, iv 1, iv 1, iv 56, iv 56, iv 448, iv 56, iv 519, iv 1023] [(.int 56), (.int 448)])) (fun t k => XS.iload X63.here hx rfl (hb hby at_179) rfl  k) ?_
      refine Go.pull (V := T63.setTop (mkF m 182 #[iv pa, iv pb, iv 1, iv 1, iv 56, iv 56, iv 448, iv 56, iv 519, iv 1023] [(.int 504)])) (fun t k => XS.ior X63.here hx rfl (hb hby at_181) rfl k) ?_
      refine Go.pull (V := T63.setTop (mkF m 185 #[iv pa, iv pb, iv 1, iv 1, iv 56, iv 56, iv 448, iv 56, iv 519, iv 1023] [(.int 512), (.int 504)])) (fun t k => XS.sipush X63.here hx rfl (hb hby at_182) k) ?_
      refine Go.pull (V := T63.setTop (mkF m 186 #[iv pa, iv pb, iv 1, iv 1, iv 56, iv 56, iv 448, iv 56, iv 519, iv 1023] [(.int 0)])) (fun t k => XS.iand X63.here hx rfl (hb hby at_185) rfl k) ?_
      refine Go.pull (V := T63.setTop (mkF m 191 #[iv pa, iv pb, iv 1, iv 1, iv 56, iv 56, iv 448, iv 56, iv 519, iv 1023] [])) (fun t k => XS.ifYes X63.here hx rfl (pc0 := 186) (pc' := 191) rfl (hb hby at_186) rfl (XT.i0_eq_t (by decide)) (by decide) (by decide) k) ?_
      refine Go.pull (V := T63.setTop (mkF m 192 #[iv pa, iv pb, iv 1, iv 1, iv 56, iv 56, iv 448, iv 56, iv 519, iv 1023] [(.int 1)])) (fun t k => XS.iconst X63.here hx rfl (hb hby at_191) k) ?_
      exact Go.retN X63 hx Bd.notSynchronized (t := .boolean) Bd.returns (by simp) (hb hby at_192) ⟨rfl, N63⟩ (by decide) (by decide)
    · subst hv43
      refine Go.pull (V := s₁.setTop (mkF m 9 #[iv pa, iv pb, iv 1, iv 2, .unset, .unset, .unset, .unset, .unset, .unset] [(.int 1)])) (fun t k => XS.iloadN X0.here hx rfl (hb hby at_8) rfl  k) ?_
      obtain ⟨_, _, ⟨T64, L64, k64, n64⟩, -, X64, ⟨Lc64, hQ64, l64, y64, z64⟩, st64⟩ := Jvm.LawKit.callS X0 hx (y := (⟨"com/example/facl/facl/ModeSpecPartPinLaw", "letter", "(I)C"⟩ : MethodName)) hown (mvT hZ (hw _ (List.mem_of_getElem? (i := 0) rfl))) (mvT hZ (hw _ (List.mem_of_getElem? (i := 1) rfl))) (mvT hZ (hw _ (List.mem_of_getElem? (i := 2) rfl))) (mvT hZ (hw _ (List.mem_of_getElem? (i := 3) rfl))) (by decide) (backOf (W := 0) (rmL l Z a0 hw [] (1 : Int32) h0 n0 ) hZ (hw _ (List.mem_of_getElem? (i := 3) rfl)) (hw _ (List.mem_of_getElem? (i := 2) rfl)) (by decide) (by decide)) (g := (mkF m 9 #[iv pa, iv pb, iv 1, iv 2, .unset, .unset, .unset, .unset, .unset, .unset] [(.int 1)])) rfl (by rw [hml]; rfl) (argsL := [(.int 1)]) (rest := []) (lenOf pd_0 rfl) rfl (by show 2 * 0 + _ ≤ _; exact Nat.le_of_eq rfl) (hb hby at_9) (fun _ _ => ⟨rfl, e0, (by decide : 0 + 0 ≤ _), (by decide : 0 + 0 ≤ _)⟩)
      dsimp only [Pt.U, Pt.locs, Pt.cells, Pt.slots] at X64 l64 y64 z64 st64 hQ64
      subst l64 y64 z64
      obtain ⟨hv64, N64q, e64⟩ := hQ64
      rw [(show (own_letter (1 : Int32)) = (103 : Int32) from by decide)] at hv64; subst hv64
      have N64 := Fr.app N0 N64q
      refine Go.pull (V := T64.setTop (mkF m 12 #[iv pa, iv pb, iv 1, iv 2, .unset, .unset, .unset, .unset, .unset, .unset] [(.int 103)])) st64 ?_
      obtain ⟨_, _, ⟨T65, L65, k65, n65⟩, -, X65, ⟨Lc65, hQ65, l65, y65, z65⟩, st65⟩ := Jvm.LawKit.callS X64 hx (y := (⟨"com/example/facl/facl/ModeSpec", "part", "(C)I"⟩ : MethodName)) hown (mvT hZ (hw _ (List.mem_of_getElem? (i := 4) rfl))) (mvT hZ (hw _ (List.mem_of_getElem? (i := 5) rfl))) (mvT hZ (hw _ (List.mem_of_getElem? (i := 6) rfl))) (mvT hZ (hw _ (List.mem_of_getElem? (i := 7) rfl))) (by decide) (backOf (W := 0) (rmP l Z a0 hw [] (103 : Int32) h0 n0 (by decide)) hZ (hw _ (List.mem_of_getElem? (i := 7) rfl)) (hw _ (List.mem_of_getElem? (i := 6) rfl)) (by decide) (by decide)) (g := (mkF m 12 #[iv pa, iv pb, iv 1, iv 2, .unset, .unset, .unset, .unset, .unset, .unset] [(.int 103)])) rfl (by rw [hml]; rfl) (argsL := [(.int 103)]) (rest := []) (lenOf pd_1 rfl) rfl (by show 2 * 0 + _ ≤ _; exact Nat.le_of_eq rfl) (hb hby at_12) (fun _ _ => ⟨rfl, e64, (by decide : 0 + 0 ≤ _), (by decide : 0 + 0 ≤ _)⟩)
      dsimp only [Pt.U, Pt.locs, Pt.cells, Pt.slots] at X65 l65 y65 z65 st65 hQ65
      subst l65 y65 z65
      obtain ⟨hv65, N65q, e65⟩ := hQ65
      rw [(show (own_part (103 : Int32)) = (56 : Int32) from by decide)] at hv65; subst hv65
      have N65 := Fr.app N64 N65q
      refine Go.pull (V := T65.setTop (mkF m 15 #[iv pa, iv pb, iv 1, iv 2, .unset, .unset, .unset, .unset, .unset, .unset] [(.int 56)])) st65 ?_
      refine Go.pull (V := T65.setTop (mkF m 17 #[iv pa, iv pb, iv 1, iv 2, iv 56, .unset, .unset, .unset, .unset, .unset] [])) (fun t k => XS.istore X65.here hx rfl (hb hby at_15) rfl (l' := #[iv pa, iv pb, iv 1, iv 2, iv 56, .unset, .unset, .unset, .unset, .unset]) rfl k) ?_
      refine Go.pull (V := T65.setTop (mkF m 18 #[iv pa, iv pb, iv 1, iv 2, iv 56, .unset, .unset, .unset, .unset, .unset] [(.int 2)])) (fun t k => XS.iloadN X65.here hx rfl (hb hby at_17) rfl  k) ?_
      obtain ⟨_, _, ⟨T66, L66, k66, n66⟩, -, X66, ⟨Lc66, hQ66, l66, y66, z66⟩, st66⟩ := Jvm.LawKit.callS X65 hx (y := (⟨"com/example/facl/facl/ModeSpecPartPinLaw", "letter", "(I)C"⟩ : MethodName)) hown (mvT hZ (hw _ (List.mem_of_getElem? (i := 0) rfl))) (mvT hZ (hw _ (List.mem_of_getElem? (i := 1) rfl))) (mvT hZ (hw _ (List.mem_of_getElem? (i := 2) rfl))) (mvT hZ (hw _ (List.mem_of_getElem? (i := 3) rfl))) (by decide) (backOf (W := 0) (rmL l Z a0 hw [] (2 : Int32) h0 n0 ) hZ (hw _ (List.mem_of_getElem? (i := 3) rfl)) (hw _ (List.mem_of_getElem? (i := 2) rfl)) (by decide) (by decide)) (g := (mkF m 18 #[iv pa, iv pb, iv 1, iv 2, iv 56, .unset, .unset, .unset, .unset, .unset] [(.int 2)])) rfl (by rw [hml]; rfl) (argsL := [(.int 2)]) (rest := []) (lenOf pd_0 rfl) rfl (by show 2 * 0 + _ ≤ _; exact Nat.le_of_eq rfl) (hb hby at_18) (fun _ _ => ⟨rfl, e65, (by decide : 0 + 0 ≤ _), (by decide : 0 + 0 ≤ _)⟩)
      dsimp only [Pt.U, Pt.locs, Pt.cells, Pt.slots] at X66 l66 y66 z66 st66 hQ66
      subst l66 y66 z66
      obtain ⟨hv66, N66q, e66⟩ := hQ66
      rw [(show (own_letter (2 : Int32)) = (111 : Int32) from by decide)] at hv66; subst hv66
      have N66 := Fr.app N65 N66q
      refine Go.pull (V := T66.setTop (mkF m 21 #[iv pa, iv pb, iv 1, iv 2, iv 56, .unset, .unset, .unset, .unset, .unset] [(.int 111)])) st66 ?_
      obtain ⟨_, _, ⟨T67, L67, k67, n67⟩, -, X67, ⟨Lc67, hQ67, l67, y67, z67⟩, st67⟩ := Jvm.LawKit.callS X66 hx (y := (⟨"com/example/facl/facl/ModeSpec", "part", "(C)I"⟩ : MethodName)) hown (mvT hZ (hw _ (List.mem_of_getElem? (i := 4) rfl))) (mvT hZ (hw _ (List.mem_of_getElem? (i := 5) rfl))) (mvT hZ (hw _ (List.mem_of_getElem? (i := 6) rfl))) (mvT hZ (hw _ (List.mem_of_getElem? (i := 7) rfl))) (by decide) (backOf (W := 0) (rmP l Z a0 hw [] (111 : Int32) h0 n0 (by decide)) hZ (hw _ (List.mem_of_getElem? (i := 7) rfl)) (hw _ (List.mem_of_getElem? (i := 6) rfl)) (by decide) (by decide)) (g := (mkF m 21 #[iv pa, iv pb, iv 1, iv 2, iv 56, .unset, .unset, .unset, .unset, .unset] [(.int 111)])) rfl (by rw [hml]; rfl) (argsL := [(.int 111)]) (rest := []) (lenOf pd_1 rfl) rfl (by show 2 * 0 + _ ≤ _; exact Nat.le_of_eq rfl) (hb hby at_21) (fun _ _ => ⟨rfl, e66, (by decide : 0 + 0 ≤ _), (by decide : 0 + 0 ≤ _)⟩)
      dsimp only [Pt.U, Pt.locs, Pt.cells, Pt.slots] at X67 l67 y67 z67 st67 hQ67
      subst l67 y67 z67
      obtain ⟨hv67, N67q, e67⟩ := hQ67
      rw [(show (own_part (111 : Int32)) = (519 : Int32) from by decide)] at hv67; subst hv67
      have N67 := Fr.app N66 N67q
      refine Go.pull (V := T67.setTop (mkF m 24 #[iv pa, iv pb, iv 1, iv 2, iv 56, .unset, .unset, .unset, .unset, .unset] [(.int 519)])) st67 ?_
      refine Go.pull (V := T67.setTop (mkF m 26 #[iv pa, iv pb, iv 1, iv 2, iv 56, iv 519, .unset, .unset, .unset, .unset] [])) (fun t k => XS.istore X67.here hx rfl (hb hby at_24) rfl (l' := #[iv pa, iv pb, iv 1, iv 2, iv 56, iv 519, .unset, .unset, .unset, .unset]) rfl k) ?_
      refine Go.pull (V := T67.setTop (mkF m 28 #[iv pa, iv pb, iv 1, iv 2, iv 56, iv 519, .unset, .unset, .unset, .unset] [(.int 117)])) (fun t k => XS.bipush X67.here hx rfl (hb hby at_26) k) ?_
      obtain ⟨_, _, ⟨T68, L68, k68, n68⟩, -, X68, ⟨Lc68, hQ68, l68, y68, z68⟩, st68⟩ := Jvm.LawKit.callS X67 hx (y := (⟨"com/example/facl/facl/ModeSpec", "part", "(C)I"⟩ : MethodName)) hown (mvT hZ (hw _ (List.mem_of_getElem? (i := 4) rfl))) (mvT hZ (hw _ (List.mem_of_getElem? (i := 5) rfl))) (mvT hZ (hw _ (List.mem_of_getElem? (i := 6) rfl))) (mvT hZ (hw _ (List.mem_of_getElem? (i := 7) rfl))) (by decide) (backOf (W := 0) (rmP l Z a0 hw [] (117 : Int32) h0 n0 (by decide)) hZ (hw _ (List.mem_of_getElem? (i := 7) rfl)) (hw _ (List.mem_of_getElem? (i := 6) rfl)) (by decide) (by decide)) (g := (mkF m 28 #[iv pa, iv pb, iv 1, iv 2, iv 56, iv 519, .unset, .unset, .unset, .unset] [(.int 117)])) rfl (by rw [hml]; rfl) (argsL := [(.int 117)]) (rest := []) (lenOf pd_1 rfl) rfl (by show 2 * 0 + _ ≤ _; exact Nat.le_of_eq rfl) (hb hby at_28) (fun _ _ => ⟨rfl, e67, (by decide : 0 + 0 ≤ _), (by decide : 0 + 0 ≤ _)⟩)
      dsimp only [Pt.U, Pt.locs, Pt.cells, Pt.slots] at X68 l68 y68 z68 st68 hQ68
      subst l68 y68 z68
      obtain ⟨hv68, N68q, e68⟩ := hQ68
      rw [(show (own_part (117 : Int32)) = (448 : Int32) from by decide)] at hv68; subst hv68
      have N68 := Fr.app N67 N68q
      refine Go.pull (V := T68.setTop (mkF m 31 #[iv pa, iv pb, iv 1, iv 2, iv 56, iv 519, .unset, .unset, .unset, .unset] [(.int 448)])) st68 ?_
      refine Go.pull (V := T68.setTop (mkF m 33 #[iv pa, iv pb, iv 1, iv 2, iv 56, iv 519, iv 448, .unset, .unset, .unset] [])) (fun t k => XS.istore X68.here hx rfl (hb hby at_31) rfl (l' := #[iv pa, iv pb, iv 1, iv 2, iv 56, iv 519, iv 448, .unset, .unset, .unset]) rfl k) ?_
      refine Go.pull (V := T68.setTop (mkF m 35 #[iv pa, iv pb, iv 1, iv 2, iv 56, iv 519, iv 448, .unset, .unset, .unset] [(.int 103)])) (fun t k => XS.bipush X68.here hx rfl (hb hby at_33) k) ?_
      obtain ⟨_, _, ⟨T69, L69, k69, n69⟩, -, X69, ⟨Lc69, hQ69, l69, y69, z69⟩, st69⟩ := Jvm.LawKit.callS X68 hx (y := (⟨"com/example/facl/facl/ModeSpec", "part", "(C)I"⟩ : MethodName)) hown (mvT hZ (hw _ (List.mem_of_getElem? (i := 4) rfl))) (mvT hZ (hw _ (List.mem_of_getElem? (i := 5) rfl))) (mvT hZ (hw _ (List.mem_of_getElem? (i := 6) rfl))) (mvT hZ (hw _ (List.mem_of_getElem? (i := 7) rfl))) (by decide) (backOf (W := 0) (rmP l Z a0 hw [] (103 : Int32) h0 n0 (by decide)) hZ (hw _ (List.mem_of_getElem? (i := 7) rfl)) (hw _ (List.mem_of_getElem? (i := 6) rfl)) (by decide) (by decide)) (g := (mkF m 35 #[iv pa, iv pb, iv 1, iv 2, iv 56, iv 519, iv 448, .unset, .unset, .unset] [(.int 103)])) rfl (by rw [hml]; rfl) (argsL := [(.int 103)]) (rest := []) (lenOf pd_1 rfl) rfl (by show 2 * 0 + _ ≤ _; exact Nat.le_of_eq rfl) (hb hby at_35) (fun _ _ => ⟨rfl, e68, (by decide : 0 + 0 ≤ _), (by decide : 0 + 0 ≤ _)⟩)
      dsimp only [Pt.U, Pt.locs, Pt.cells, Pt.slots] at X69 l69 y69 z69 st69 hQ69
      subst l69 y69 z69
      obtain ⟨hv69, N69q, e69⟩ := hQ69
      rw [(show (own_part (103 : Int32)) = (56 : Int32) from by decide)] at hv69; subst hv69
      have N69 := Fr.app N68 N69q
      refine Go.pull (V := T69.setTop (mkF m 38 #[iv pa, iv pb, iv 1, iv 2, iv 56, iv 519, iv 448, .unset, .unset, .unset] [(.int 56)])) st69 ?_
      refine Go.pull (V := T69.setTop (mkF m 40 #[iv pa, iv pb, iv 1, iv 2, iv 56, iv 519, iv 448, iv 56, .unset, .unset] [])) (fun t k => XS.istore X69.here hx rfl (hb hby at_38) rfl (l' := #[iv pa, iv pb, iv 1, iv 2, iv 56, iv 519, iv 448, iv 56, .unset, .unset]) rfl k) ?_
      refine Go.pull (V := T69.setTop (mkF m 42 #[iv pa, iv pb, iv 1, iv 2, iv 56, iv 519, iv 448, iv 56, .unset, .unset] [(.int 111)])) (fun t k => XS.bipush X69.here hx rfl (hb hby at_40) k) ?_
      obtain ⟨_, _, ⟨T70, L70, k70, n70⟩, -, X70, ⟨Lc70, hQ70, l70, y70, z70⟩, st70⟩ := Jvm.LawKit.callS X69 hx (y := (⟨"com/example/facl/facl/ModeSpec", "part", "(C)I"⟩ : MethodName)) hown (mvT hZ (hw _ (List.mem_of_getElem? (i := 4) rfl))) (mvT hZ (hw _ (List.mem_of_getElem? (i := 5) rfl))) (mvT hZ (hw _ (List.mem_of_getElem? (i := 6) rfl))) (mvT hZ (hw _ (List.mem_of_getElem? (i := 7) rfl))) (by decide) (backOf (W := 0) (rmP l Z a0 hw [] (111 : Int32) h0 n0 (by decide)) hZ (hw _ (List.mem_of_getElem? (i := 7) rfl)) (hw _ (List.mem_of_getElem? (i := 6) rfl)) (by decide) (by decide)) (g := (mkF m 42 #[iv pa, iv pb, iv 1, iv 2, iv 56, iv 519, iv 448, iv 56, .unset, .unset] [(.int 111)])) rfl (by rw [hml]; rfl) (argsL := [(.int 111)]) (rest := []) (lenOf pd_1 rfl) rfl (by show 2 * 0 + _ ≤ _; exact Nat.le_of_eq rfl) (hb hby at_42) (fun _ _ => ⟨rfl, e69, (by decide : 0 + 0 ≤ _), (by decide : 0 + 0 ≤ _)⟩)
      dsimp only [Pt.U, Pt.locs, Pt.cells, Pt.slots] at X70 l70 y70 z70 st70 hQ70
      subst l70 y70 z70
      obtain ⟨hv70, N70q, e70⟩ := hQ70
      rw [(show (own_part (111 : Int32)) = (519 : Int32) from by decide)] at hv70; subst hv70
      have N70 := Fr.app N69 N70q
      refine Go.pull (V := T70.setTop (mkF m 45 #[iv pa, iv pb, iv 1, iv 2, iv 56, iv 519, iv 448, iv 56, .unset, .unset] [(.int 519)])) st70 ?_
      refine Go.pull (V := T70.setTop (mkF m 47 #[iv pa, iv pb, iv 1, iv 2, iv 56, iv 519, iv 448, iv 56, iv 519, .unset] [])) (fun t k => XS.istore X70.here hx rfl (hb hby at_45) rfl (l' := #[iv pa, iv pb, iv 1, iv 2, iv 56, iv 519, iv 448, iv 56, iv 519, .unset]) rfl k) ?_
      refine Go.pull (V := T70.setTop (mkF m 49 #[iv pa, iv pb, iv 1, iv 2, iv 56, iv 519, iv 448, iv 56, iv 519, .unset] [(.int 97)])) (fun t k => XS.bipush X70.here hx rfl (hb hby at_47) k) ?_
      obtain ⟨_, _, ⟨T71, L71, k71, n71⟩, -, X71, ⟨Lc71, hQ71, l71, y71, z71⟩, st71⟩ := Jvm.LawKit.callS X70 hx (y := (⟨"com/example/facl/facl/ModeSpec", "part", "(C)I"⟩ : MethodName)) hown (mvT hZ (hw _ (List.mem_of_getElem? (i := 4) rfl))) (mvT hZ (hw _ (List.mem_of_getElem? (i := 5) rfl))) (mvT hZ (hw _ (List.mem_of_getElem? (i := 6) rfl))) (mvT hZ (hw _ (List.mem_of_getElem? (i := 7) rfl))) (by decide) (backOf (W := 0) (rmP l Z a0 hw [] (97 : Int32) h0 n0 (by decide)) hZ (hw _ (List.mem_of_getElem? (i := 7) rfl)) (hw _ (List.mem_of_getElem? (i := 6) rfl)) (by decide) (by decide)) (g := (mkF m 49 #[iv pa, iv pb, iv 1, iv 2, iv 56, iv 519, iv 448, iv 56, iv 519, .unset] [(.int 97)])) rfl (by rw [hml]; rfl) (argsL := [(.int 97)]) (rest := []) (lenOf pd_1 rfl) rfl (by show 2 * 0 + _ ≤ _; exact Nat.le_of_eq rfl) (hb hby at_49) (fun _ _ => ⟨rfl, e70, (by decide : 0 + 0 ≤ _), (by decide : 0 + 0 ≤ _)⟩)
      dsimp only [Pt.U, Pt.locs, Pt.cells, Pt.slots] at X71 l71 y71 z71 st71 hQ71
      subst l71 y71 z71
      obtain ⟨hv71, N71q, e71⟩ := hQ71
      rw [(show (own_part (97 : Int32)) = (1023 : Int32) from by decide)] at hv71; subst hv71
      have N71 := Fr.app N70 N71q
      refine Go.pull (V := T71.setTop (mkF m 52 #[iv pa, iv pb, iv 1, iv 2, iv 56, iv 519, iv 448, iv 56, iv 519, .unset] [(.int 1023)])) st71 ?_
      refine Go.pull (V := T71.setTop (mkF m 54 #[iv pa, iv pb, iv 1, iv 2, iv 56, iv 519, iv 448, iv 56, iv 519, iv 1023] [])) (fun t k => XS.istore X71.here hx rfl (hb hby at_52) rfl (l' := #[iv pa, iv pb, iv 1, iv 2, iv 56, iv 519, iv 448, iv 56, iv 519, iv 1023]) rfl k) ?_
      refine Go.pull (V := T71.setTop (mkF m 56 #[iv pa, iv pb, iv 1, iv 2, iv 56, iv 519, iv 448, iv 56, iv 519, iv 1023] [(.int 56)])) (fun t k => XS.iload X71.here hx rfl (hb hby at_54) rfl  k) ?_
      refine Go.pull (V := T71.setTop (mkF m 57 #[iv pa, iv pb, iv 1, iv 2, iv 56, iv 519, iv 448, iv 56, iv 519, iv 1023] [(.int 1), (.int 56)])) (fun t k => XS.iloadN X71.here hx rfl (hb hby at_56) rfl  k) ?_
      obtain ⟨_, _, ⟨T72, L72, k72, n72⟩, -, X72, ⟨Lc72, hQ72, l72, y72, z72⟩, st72⟩ := Jvm.LawKit.callS X71 hx (y := (⟨"com/example/facl/facl/ModeSpecPartPinLaw", "expected", "(I)I"⟩ : MethodName)) hown (mvT hZ (hw _ (List.mem_of_getElem? (i := 8) rfl))) (mvT hZ (hw _ (List.mem_of_getElem? (i := 9) rfl))) (mvT hZ (hw _ (List.mem_of_getElem? (i := 2) rfl))) (mvT hZ (hw _ (List.mem_of_getElem? (i := 10) rfl))) (by decide) (backOf (W := 1) (rmX l Z a0 hw [] (1 : Int32) h0 n0 ) hZ (hw _ (List.mem_of_getElem? (i := 10) rfl)) (hw _ (List.mem_of_getElem? (i := 2) rfl)) (by decide) (by decide)) (g := (mkF m 57 #[iv pa, iv pb, iv 1, iv 2, iv 56, iv 519, iv 448, iv 56, iv 519, iv 1023] [(.int 1), (.int 56)])) rfl (by rw [hml]; rfl) (argsL := [(.int 1)]) (rest := [(.int 56)]) (lenOf pd_2 rfl) rfl (by show 2 * 0 + _ ≤ _; exact Nat.le_of_eq rfl) (hb hby at_57) (fun _ _ => ⟨rfl, e71, (by decide : 0 + 0 ≤ _), (by decide : 0 + 0 ≤ _)⟩)
      dsimp only [Pt.U, Pt.locs, Pt.cells, Pt.slots] at X72 l72 y72 z72 st72 hQ72
      subst l72 y72 z72
      obtain ⟨hv72, N72q, e72⟩ := hQ72
      rw [(show (own_expected (1 : Int32)) = (56 : Int32) from by decide)] at hv72; subst hv72
      have N72 := Fr.app N71 N72q
      refine Go.pull (V := T72.setTop (mkF m 60 #[iv pa, iv pb, iv 1, iv 2, iv 56, iv 519, iv 448, iv 56, iv 519, iv 1023] [(.int 56), (.int 56)])) st72 ?_
      refine Go.pull (V := T72.setTop (mkF m 63 #[iv pa, iv pb, iv 1, iv 2, iv 56, iv 519, iv 448, iv 56, iv 519, iv 1023] [])) (fun t k => XS.icmpNo X72.here hx rfl (hb hby at_60) rfl (XT.ii_ne_f (by decide)) k) ?_
      refine Go.pull (V := T72.setTop (mkF m 65 #[iv pa, iv pb, iv 1, iv 2, iv 56, iv 519, iv 448, iv 56, iv 519, iv 1023] [(.int 519)])) (fun t k => XS.iload X72.here hx rfl (hb hby at_63) rfl  k) ?_
      refine Go.pull (V := T72.setTop (mkF m 66 #[iv pa, iv pb, iv 1, iv 2, iv 56, iv 519, iv 448, iv 56, iv 519, iv 1023] [(.int 2), (.int 519)])) (fun t k => XS.iloadN X72.here hx rfl (hb hby at_65) rfl  k) ?_
      obtain ⟨_, _, ⟨T73, L73, k73, n73⟩, -, X73, ⟨Lc73, hQ73, l73, y73, z73⟩, st73⟩ := Jvm.LawKit.callS X72 hx (y := (⟨"com/example/facl/facl/ModeSpecPartPinLaw", "expected", "(I)I"⟩ : MethodName)) hown (mvT hZ (hw _ (List.mem_of_getElem? (i := 8) rfl))) (mvT hZ (hw _ (List.mem_of_getElem? (i := 9) rfl))) (mvT hZ (hw _ (List.mem_of_getElem? (i := 2) rfl))) (mvT hZ (hw _ (List.mem_of_getElem? (i := 10) rfl))) (by decide) (backOf (W := 1) (rmX l Z a0 hw [] (2 : Int32) h0 n0 ) hZ (hw _ (List.mem_of_getElem? (i := 10) rfl)) (hw _ (List.mem_of_getElem? (i := 2) rfl)) (by decide) (by decide)) (g := (mkF m 66 #[iv pa, iv pb, iv 1, iv 2, iv 56, iv 519, iv 448, iv 56, iv 519, iv 1023] [(.int 2), (.int 519)])) rfl (by rw [hml]; rfl) (argsL := [(.int 2)]) (rest := [(.int 519)]) (lenOf pd_2 rfl) rfl (by show 2 * 0 + _ ≤ _; exact Nat.le_of_eq rfl) (hb hby at_66) (fun _ _ => ⟨rfl, e72, (by decide : 0 + 0 ≤ _), (by decide : 0 + 0 ≤ _)⟩)
      dsimp only [Pt.U, Pt.locs, Pt.cells, Pt.slots] at X73 l73 y73 z73 st73 hQ73
      subst l73 y73 z73
      obtain ⟨hv73, N73q, e73⟩ := hQ73
      rw [(show (own_expected (2 : Int32)) = (519 : Int32) from by decide)] at hv73; subst hv73
      have N73 := Fr.app N72 N73q
      refine Go.pull (V := T73.setTop (mkF m 69 #[iv pa, iv pb, iv 1, iv 2, iv 56, iv 519, iv 448, iv 56, iv 519, iv 1023] [(.int 519), (.int 519)])) st73 ?_
      refine Go.pull (V := T73.setTop (mkF m 74 #[iv pa, iv pb, iv 1, iv 2, iv 56, iv 519, iv 448, iv 56, iv 519, iv 1023] [])) (fun t k => XS.icmpYes X73.here hx rfl (pc0 := 69) (pc' := 74) rfl (hb hby at_69) rfl (XT.ii_eq_t (by decide)) (by decide) (by decide) k) ?_
      refine Go.pull (V := T73.setTop (mkF m 76 #[iv pa, iv pb, iv 1, iv 2, iv 56, iv 519, iv 448, iv 56, iv 519, iv 1023] [(.int 56)])) (fun t k => XS.iload X73.here hx rfl (hb hby at_74) rfl  k) ?_
      refine Go.pull (V := T73.setTop (mkF m 79 #[iv pa, iv pb, iv 1, iv 2, iv 56, iv 519, iv 448, iv 56, iv 519, iv 1023] [(.int (-1024)), (.int 56)])) (fun t k => XS.sipush X73.here hx rfl (hb hby at_76) k) ?_
      refine Go.pull (V := T73.setTop (mkF m 80 #[iv pa, iv pb, iv 1, iv 2, iv 56, iv 519, iv 448, iv 56, iv 519, iv 1023] [(.int 0)])) (fun t k => XS.iand X73.here hx rfl (hb hby at_79) rfl k) ?_
      refine Go.pull (V := T73.setTop (mkF m 83 #[iv pa, iv pb, iv 1, iv 2, iv 56, iv 519, iv 448, iv 56, iv 519, iv 1023] [])) (fun t k => XS.ifNo X73.here hx rfl (hb hby at_80) rfl (XT.i0_ne_f (by decide)) k) ?_
      refine Go.pull (V := T73.setTop (mkF m 85 #[iv pa, iv pb, iv 1, iv 2, iv 56, iv 519, iv 448, iv 56, iv 519, iv 1023] [(.int 519)])) (fun t k => XS.iload X73.here hx rfl (hb hby at_83) rfl  k) ?_
      refine Go.pull (V := T73.setTop (mkF m 88 #[iv pa, iv pb, iv 1, iv 2, iv 56, iv 519, iv 448, iv 56, iv 519, iv 1023] [(.int (-1024)), (.int 519)])) (fun t k => XS.sipush X73.here hx rfl (hb hby at_85) k) ?_
      refine Go.pull (V := T73.setTop (mkF m 89 #[iv pa, iv pb, iv 1, iv 2, iv 56, iv 519, iv 448, iv 56, iv 519, iv 1023] [(.int 0)])) (fun t k => XS.iand X73.here hx rfl (hb hby at_88) rfl k) ?_
      refine Go.pull (V := T73.setTop (mkF m 94 #[iv pa, iv pb, iv 1, iv 2, iv 56, iv 519, iv 448, iv 56, iv 519, iv 1023] [])) (fun t k => XS.ifYes X73.here hx rfl (pc0 := 89) (pc' := 94) rfl (hb hby at_89) rfl (XT.i0_eq_t (by decide)) (by decide) (by decide) k) ?_
      refine Go.pull (V := T73.setTop (mkF m 96 #[iv pa, iv pb, iv 1, iv 2, iv 56, iv 519, iv 448, iv 56, iv 519, iv 1023] [(.int 1023)])) (fun t k => XS.iload X73.here hx rfl (hb hby at_94) rfl  k) ?_
      refine Go.pull (V := T73.setTop (mkF m 99 #[iv pa, iv pb, iv 1, iv 2, iv 56, iv 519, iv 448, iv 56, iv 519, iv 1023] [(.int 1023), (.int 1023)])) (fun t k => XS.sipush X73.here hx rfl (hb hby at_96) k) ?_
      refine Go.pull (V := T73.setTop (mkF m 102 #[iv pa, iv pb, iv 1, iv 2, iv 56, iv 519, iv 448, iv 56, iv 519, iv 1023] [])) (fun t k => XS.icmpNo X73.here hx rfl (hb hby at_99) rfl (XT.ii_ne_f (by decide)) k) ?_
      refine Go.pull (V := T73.setTop (mkF m 104 #[iv pa, iv pb, iv 1, iv 2, iv 56, iv 519, iv 448, iv 56, iv 519, iv 1023] [(.int 448)])) (fun t k => XS.iload X73.here hx rfl (hb hby at_102) rfl  k) ?_
      refine Go.pull (V := T73.setTop (mkF m 106 #[iv pa, iv pb, iv 1, iv 2, iv 56, iv 519, iv 448, iv 56, iv 519, iv 1023] [(.int 56), (.int 448)])) (fun t k => XS.iload X73.here hx rfl (hb hby at_104) rfl  k) ?_
      refine Go.pull (V := T73.setTop (mkF m 107 #[iv pa, iv pb, iv 1, iv 2, iv 56, iv 519, iv 448, iv 56, iv 519, iv 1023] [(.int 504)])) (fun t k => XS.ior X73.here hx rfl (hb hby at_106) rfl k) ?_
      refine Go.pull (V := T73.setTop (mkF m 109 #[iv pa, iv pb, iv 1, iv 2, iv 56, iv 519, iv 448, iv 56, iv 519, iv 1023] [(.int 519), (.int 504)])) (fun t k => XS.iload X73.here hx rfl (hb hby at_107) rfl  k) ?_
      refine Go.pull (V := T73.setTop (mkF m 110 #[iv pa, iv pb, iv 1, iv 2, iv 56, iv 519, iv 448, iv 56, iv 519, iv 1023] [(.int 1023)])) (fun t k => XS.ior X73.here hx rfl (hb hby at_109) rfl k) ?_
      refine Go.pull (V := T73.setTop (mkF m 112 #[iv pa, iv pb, iv 1, iv 2, iv 56, iv 519, iv 448, iv 56, iv 519, iv 1023] [(.int 1023), (.int 1023)])) (fun t k => XS.iload X73.here hx rfl (hb hby at_110) rfl  k) ?_
      refine Go.pull (V := T73.setTop (mkF m 117 #[iv pa, iv pb, iv 1, iv 2, iv 56, iv 519, iv 448, iv 56, iv 519, iv 1023] [])) (fun t k => XS.icmpYes X73.here hx rfl (pc0 := 112) (pc' := 117) rfl (hb hby at_112) rfl (XT.ii_eq_t (by decide)) (by decide) (by decide) k) ?_
      refine Go.pull (V := T73.setTop (mkF m 119 #[iv pa, iv pb, iv 1, iv 2, iv 56, iv 519, iv 448, iv 56, iv 519, iv 1023] [(.int 448)])) (fun t k => XS.iload X73.here hx rfl (hb hby at_117) rfl  k) ?_
      refine Go.pull (V := T73.setTop (mkF m 121 #[iv pa, iv pb, iv 1, iv 2, iv 56, iv 519, iv 448, iv 56, iv 519, iv 1023] [(.int 56), (.int 448)])) (fun t k => XS.iload X73.here hx rfl (hb hby at_119) rfl  k) ?_
      refine Go.pull (V := T73.setTop (mkF m 122 #[iv pa, iv pb, iv 1, iv 2, iv 56, iv 519, iv 448, iv 56, iv 519, iv 1023] [(.int 0)])) (fun t k => XS.iand X73.here hx rfl (hb hby at_121) rfl k) ?_
      refine Go.pull (V := T73.setTop (mkF m 125 #[iv pa, iv pb, iv 1, iv 2, iv 56, iv 519, iv 448, iv 56, iv 519, iv 1023] [])) (fun t k => XS.ifNo X73.here hx rfl (hb hby at_122) rfl (XT.i0_ne_f (by decide)) k) ?_
      refine Go.pull (V := T73.setTop (mkF m 127 #[iv pa, iv pb, iv 1, iv 2, iv 56, iv 519, iv 448, iv 56, iv 519, iv 1023] [(.int 448)])) (fun t k => XS.iload X73.here hx rfl (hb hby at_125) rfl  k) ?_
      refine Go.pull (V := T73.setTop (mkF m 129 #[iv pa, iv pb, iv 1, iv 2, iv 56, iv 519, iv 448, iv 56, iv 519, iv 1023] [(.int 519), (.int 448)])) (fun t k => XS.iload X73.here hx rfl (hb hby at_127) rfl  k) ?_
      refine Go.pull (V := T73.setTop (mkF m 130 #[iv pa, iv pb, iv 1, iv 2, iv 56, iv 519, iv 448, iv 56, iv 519, iv 1023] [(.int 0)])) (fun t k => XS.iand X73.here hx rfl (hb hby at_129) rfl k) ?_
      refine Go.pull (V := T73.setTop (mkF m 133 #[iv pa, iv pb, iv 1, iv 2, iv 56, iv 519, iv 448, iv 56, iv 519, iv 1023] [])) (fun t k => XS.ifNo X73.here hx rfl (hb hby at_130) rfl (XT.i0_ne_f (by decide)) k) ?_
      refine Go.pull (V := T73.setTop (mkF m 135 #[iv pa, iv pb, iv 1, iv 2, iv 56, iv 519, iv 448, iv 56, iv 519, iv 1023] [(.int 56)])) (fun t k => XS.iload X73.here hx rfl (hb hby at_133) rfl  k) ?_
      refine Go.pull (V := T73.setTop (mkF m 137 #[iv pa, iv pb, iv 1, iv 2, iv 56, iv 519, iv 448, iv 56, iv 519, iv 1023] [(.int 519), (.int 56)])) (fun t k => XS.iload X73.here hx rfl (hb hby at_135) rfl  k) ?_
      refine Go.pull (V := T73.setTop (mkF m 138 #[iv pa, iv pb, iv 1, iv 2, iv 56, iv 519, iv 448, iv 56, iv 519, iv 1023] [(.int 0)])) (fun t k => XS.iand X73.here hx rfl (hb hby at_137) rfl k) ?_
      refine Go.pull (V := T73.setTop (mkF m 143 #[iv pa, iv pb, iv 1, iv 2, iv 56, iv 519, iv 448, iv 56, iv 519, iv 1023] [])) (fun t k => XS.ifYes X73.here hx rfl (pc0 := 138) (pc' := 143) rfl (hb hby at_138) rfl (XT.i0_eq_t (by decide)) (by decide) (by decide) k) ?_
      refine Go.pull (V := T73.setTop (mkF m 144 #[iv pa, iv pb, iv 1, iv 2, iv 56, iv 519, iv 448, iv 56, iv 519, iv 1023] [(.int 1)])) (fun t k => XS.iloadN X73.here hx rfl (hb hby at_143) rfl  k) ?_
      refine Go.pull (V := T73.setTop (mkF m 145 #[iv pa, iv pb, iv 1, iv 2, iv 56, iv 519, iv 448, iv 56, iv 519, iv 1023] [(.int 2), (.int 1)])) (fun t k => XS.iloadN X73.here hx rfl (hb hby at_144) rfl  k) ?_
      refine Go.pull (V := T73.setTop (mkF m 148 #[iv pa, iv pb, iv 1, iv 2, iv 56, iv 519, iv 448, iv 56, iv 519, iv 1023] [])) (fun t k => XS.icmpNo X73.here hx rfl (hb hby at_145) rfl (XT.ii_eq_f (by decide)) k) ?_
      refine Go.pull (V := T73.setTop (mkF m 149 #[iv pa, iv pb, iv 1, iv 2, iv 56, iv 519, iv 448, iv 56, iv 519, iv 1023] [(.int 1)])) (fun t k => XS.iloadN X73.here hx rfl (hb hby at_148) rfl  k) ?_
      refine Go.pull (V := T73.setTop (mkF m 150 #[iv pa, iv pb, iv 1, iv 2, iv 56, iv 519, iv 448, iv 56, iv 519, iv 1023] [(.int 3), (.int 1)])) (fun t k => XS.iconst X73.here hx rfl (hb hby at_149) k) ?_
      refine Go.pull (V := T73.setTop (mkF m 153 #[iv pa, iv pb, iv 1, iv 2, iv 56, iv 519, iv 448, iv 56, iv 519, iv 1023] [])) (fun t k => XS.icmpNo X73.here hx rfl (hb hby at_150) rfl (XT.ii_eq_f (by decide)) k) ?_
      refine Go.pull (V := T73.setTop (mkF m 154 #[iv pa, iv pb, iv 1, iv 2, iv 56, iv 519, iv 448, iv 56, iv 519, iv 1023] [(.int 2)])) (fun t k => XS.iloadN X73.here hx rfl (hb hby at_153) rfl  k) ?_
      refine Go.pull (V := T73.setTop (mkF m 155 #[iv pa, iv pb, iv 1, iv 2, iv 56, iv 519, iv 448, iv 56, iv 519, iv 1023] [(.int 3), (.int 2)])) (fun t k => XS.iconst X73.here hx rfl (hb hby at_154) k) ?_
      refine Go.pull (V := T73.setTop (mkF m 158 #[iv pa, iv pb, iv 1, iv 2, iv 56, iv 519, iv 448, iv 56, iv 519, iv 1023] [])) (fun t k => XS.icmpNo X73.here hx rfl (hb hby at_155) rfl (XT.ii_eq_f (by decide)) k) ?_
      refine Go.pull (V := T73.setTop (mkF m 160 #[iv pa, iv pb, iv 1, iv 2, iv 56, iv 519, iv 448, iv 56, iv 519, iv 1023] [(.int 56)])) (fun t k => XS.iload X73.here hx rfl (hb hby at_158) rfl  k) ?_
      refine Go.pull (V := T73.setTop (mkF m 162 #[iv pa, iv pb, iv 1, iv 2, iv 56, iv 519, iv 448, iv 56, iv 519, iv 1023] [(.int 519), (.int 56)])) (fun t k => XS.iload X73.here hx rfl (hb hby at_160) rfl  k) ?_
      refine Go.pull (V := T73.setTop (mkF m 163 #[iv pa, iv pb, iv 1, iv 2, iv 56, iv 519, iv 448, iv 56, iv 519, iv 1023] [(.int 0)])) (fun t k => XS.iand X73.here hx rfl (hb hby at_162) rfl k) ?_
      refine Go.pull (V := T73.setTop (mkF m 168 #[iv pa, iv pb, iv 1, iv 2, iv 56, iv 519, iv 448, iv 56, iv 519, iv 1023] [])) (fun t k => XS.ifYes X73.here hx rfl (pc0 := 163) (pc' := 168) rfl (hb hby at_163) rfl (XT.i0_eq_t (by decide)) (by decide) (by decide) k) ?_
      refine Go.pull (V := T73.setTop (mkF m 170 #[iv pa, iv pb, iv 1, iv 2, iv 56, iv 519, iv 448, iv 56, iv 519, iv 1023] [(.int 519)])) (fun t k => XS.iload X73.here hx rfl (hb hby at_168) rfl  k) ?_
      refine Go.pull (V := T73.setTop (mkF m 173 #[iv pa, iv pb, iv 1, iv 2, iv 56, iv 519, iv 448, iv 56, iv 519, iv 1023] [(.int 512), (.int 519)])) (fun t k => XS.sipush X73.here hx rfl (hb hby at_170) k) ?_
      refine Go.pull (V := T73.setTop (mkF m 174 #[iv pa, iv pb, iv 1, iv 2, iv 56, iv 519, iv 448, iv 56, iv 519, iv 1023] [(.int 512)])) (fun t k => XS.iand X73.here hx rfl (hb hby at_173) rfl k) ?_
      refine Go.pull (V := T73.setTop (mkF m 177 #[iv pa, iv pb, iv 1, iv 2, iv 56, iv 519, iv 448, iv 56, iv 519, iv 1023] [])) (fun t k => XS.ifNo X73.here hx rfl (hb hby at_174) rfl (XT.i0_eq_f (by decide)) k) ?_
      refine Go.pull (V := T73.setTop (mkF m 179 #[iv pa, iv pb, iv 1, iv 2, iv 56, iv 519, iv 448, iv 56, iv 519, iv 1023] [(.int 448)])) (fun t k => XS.iload X73.here hx rfl (hb hby at_177) rfl  k) ?_
      refine Go.pull (V := T73.setTop (mkF m 181 #[iv pa, iv pb, iv 1, iv 2, iv 56, iv 519, iv 448, iv 56, iv 519, iv 1023] [(.int 56), (.int 448)])) (fun t k => XS.iload X73.here hx rfl (hb hby at_179) rfl  k) ?_
      refine Go.pull (V := T73.setTop (mkF m 182 #[iv pa, iv pb, iv 1, iv 2, iv 56, iv 519, iv 448, iv 56, iv 519, iv 1023] [(.int 504)])) (fun t k => XS.ior X73.here hx rfl (hb hby at_181) rfl k) ?_
      refine Go.pull (V := T73.setTop (mkF m 185 #[iv pa, iv pb, iv 1, iv 2, iv 56, iv 519, iv 448, iv 56, iv 519, iv 1023] [(.int 512), (.int 504)])) (fun t k => XS.sipush X73.here hx rfl (hb hby at_182) k) ?_
      refine Go.pull (V := T73.setTop (mkF m 186 #[iv pa, iv pb, iv 1, iv 2, iv 56, iv 519, iv 448, iv 56, iv 519, iv 1023] [(.int 0)])) (fun t k => XS.iand X73.here hx rfl (hb hby at_185) rfl k) ?_
      refine Go.pull (V := T73.setTop (mkF m 191 #[iv pa, iv pb, iv 1, iv 2, iv 56, iv 519, iv 448, iv 56, iv 519, iv 1023] [])) (fun t k => XS.ifYes X73.here hx rfl (pc0 := 186) (pc' := 191) rfl (hb hby at_186) rfl (XT.i0_eq_t (by decide)) (by decide) (by decide) k) ?_
      refine Go.pull (V := T73.setTop (mkF m 192 #[iv pa, iv pb, iv 1, iv 2, iv 56, iv 519, iv 448, iv 56, iv 519, iv 1023] [(.int 1)])) (fun t k => XS.iconst X73.here hx rfl (hb hby at_191) k) ?_
      exact Go.retN X73 hx Bd.notSynchronized (t := .boolean) Bd.returns (by simp) (hb hby at_192) ⟨rfl, N73⟩ (by decide) (by decide)
    · subst hv43
      refine Go.pull (V := s₁.setTop (mkF m 9 #[iv pa, iv pb, iv 1, iv 3, .unset, .unset, .unset, .unset, .unset, .unset] [(.int 1)])) (fun t k => XS.iloadN X0.here hx rfl (hb hby at_8) rfl  k) ?_
      obtain ⟨_, _, ⟨T74, L74, k74, n74⟩, -, X74, ⟨Lc74, hQ74, l74, y74, z74⟩, st74⟩ := Jvm.LawKit.callS X0 hx (y := (⟨"com/example/facl/facl/ModeSpecPartPinLaw", "letter", "(I)C"⟩ : MethodName)) hown (mvT hZ (hw _ (List.mem_of_getElem? (i := 0) rfl))) (mvT hZ (hw _ (List.mem_of_getElem? (i := 1) rfl))) (mvT hZ (hw _ (List.mem_of_getElem? (i := 2) rfl))) (mvT hZ (hw _ (List.mem_of_getElem? (i := 3) rfl))) (by decide) (backOf (W := 0) (rmL l Z a0 hw [] (1 : Int32) h0 n0 ) hZ (hw _ (List.mem_of_getElem? (i := 3) rfl)) (hw _ (List.mem_of_getElem? (i := 2) rfl)) (by decide) (by decide)) (g := (mkF m 9 #[iv pa, iv pb, iv 1, iv 3, .unset, .unset, .unset, .unset, .unset, .unset] [(.int 1)])) rfl (by rw [hml]; rfl) (argsL := [(.int 1)]) (rest := []) (lenOf pd_0 rfl) rfl (by show 2 * 0 + _ ≤ _; exact Nat.le_of_eq rfl) (hb hby at_9) (fun _ _ => ⟨rfl, e0, (by decide : 0 + 0 ≤ _), (by decide : 0 + 0 ≤ _)⟩)
      dsimp only [Pt.U, Pt.locs, Pt.cells, Pt.slots] at X74 l74 y74 z74 st74 hQ74
      subst l74 y74 z74
      obtain ⟨hv74, N74q, e74⟩ := hQ74
      rw [(show (own_letter (1 : Int32)) = (103 : Int32) from by decide)] at hv74; subst hv74
      have N74 := Fr.app N0 N74q
      refine Go.pull (V := T74.setTop (mkF m 12 #[iv pa, iv pb, iv 1, iv 3, .unset, .unset, .unset, .unset, .unset, .unset] [(.int 103)])) st74 ?_
      obtain ⟨_, _, ⟨T75, L75, k75, n75⟩, -, X75, ⟨Lc75, hQ75, l75, y75, z75⟩, st75⟩ := Jvm.LawKit.callS X74 hx (y := (⟨"com/example/facl/facl/ModeSpec", "part", "(C)I"⟩ : MethodName)) hown (mvT hZ (hw _ (List.mem_of_getElem? (i := 4) rfl))) (mvT hZ (hw _ (List.mem_of_getElem? (i := 5) rfl))) (mvT hZ (hw _ (List.mem_of_getElem? (i := 6) rfl))) (mvT hZ (hw _ (List.mem_of_getElem? (i := 7) rfl))) (by decide) (backOf (W := 0) (rmP l Z a0 hw [] (103 : Int32) h0 n0 (by decide)) hZ (hw _ (List.mem_of_getElem? (i := 7) rfl)) (hw _ (List.mem_of_getElem? (i := 6) rfl)) (by decide) (by decide)) (g := (mkF m 12 #[iv pa, iv pb, iv 1, iv 3, .unset, .unset, .unset, .unset, .unset, .unset] [(.int 103)])) rfl (by rw [hml]; rfl) (argsL := [(.int 103)]) (rest := []) (lenOf pd_1 rfl) rfl (by show 2 * 0 + _ ≤ _; exact Nat.le_of_eq rfl) (hb hby at_12) (fun _ _ => ⟨rfl, e74, (by decide : 0 + 0 ≤ _), (by decide : 0 + 0 ≤ _)⟩)
      dsimp only [Pt.U, Pt.locs, Pt.cells, Pt.slots] at X75 l75 y75 z75 st75 hQ75
      subst l75 y75 z75
      obtain ⟨hv75, N75q, e75⟩ := hQ75
      rw [(show (own_part (103 : Int32)) = (56 : Int32) from by decide)] at hv75; subst hv75
      have N75 := Fr.app N74 N75q
      refine Go.pull (V := T75.setTop (mkF m 15 #[iv pa, iv pb, iv 1, iv 3, .unset, .unset, .unset, .unset, .unset, .unset] [(.int 56)])) st75 ?_
      refine Go.pull (V := T75.setTop (mkF m 17 #[iv pa, iv pb, iv 1, iv 3, iv 56, .unset, .unset, .unset, .unset, .unset] [])) (fun t k => XS.istore X75.here hx rfl (hb hby at_15) rfl (l' := #[iv pa, iv pb, iv 1, iv 3, iv 56, .unset, .unset, .unset, .unset, .unset]) rfl k) ?_
      refine Go.pull (V := T75.setTop (mkF m 18 #[iv pa, iv pb, iv 1, iv 3, iv 56, .unset, .unset, .unset, .unset, .unset] [(.int 3)])) (fun t k => XS.iloadN X75.here hx rfl (hb hby at_17) rfl  k) ?_
      obtain ⟨_, _, ⟨T76, L76, k76, n76⟩, -, X76, ⟨Lc76, hQ76, l76, y76, z76⟩, st76⟩ := Jvm.LawKit.callS X75 hx (y := (⟨"com/example/facl/facl/ModeSpecPartPinLaw", "letter", "(I)C"⟩ : MethodName)) hown (mvT hZ (hw _ (List.mem_of_getElem? (i := 0) rfl))) (mvT hZ (hw _ (List.mem_of_getElem? (i := 1) rfl))) (mvT hZ (hw _ (List.mem_of_getElem? (i := 2) rfl))) (mvT hZ (hw _ (List.mem_of_getElem? (i := 3) rfl))) (by decide) (backOf (W := 0) (rmL l Z a0 hw [] (3 : Int32) h0 n0 ) hZ (hw _ (List.mem_of_getElem? (i := 3) rfl)) (hw _ (List.mem_of_getElem? (i := 2) rfl)) (by decide) (by decide)) (g := (mkF m 18 #[iv pa, iv pb, iv 1, iv 3, iv 56, .unset, .unset, .unset, .unset, .unset] [(.int 3)])) rfl (by rw [hml]; rfl) (argsL := [(.int 3)]) (rest := []) (lenOf pd_0 rfl) rfl (by show 2 * 0 + _ ≤ _; exact Nat.le_of_eq rfl) (hb hby at_18) (fun _ _ => ⟨rfl, e75, (by decide : 0 + 0 ≤ _), (by decide : 0 + 0 ≤ _)⟩)
      dsimp only [Pt.U, Pt.locs, Pt.cells, Pt.slots] at X76 l76 y76 z76 st76 hQ76
      subst l76 y76 z76
      obtain ⟨hv76, N76q, e76⟩ := hQ76
      rw [(show (own_letter (3 : Int32)) = (97 : Int32) from by decide)] at hv76; subst hv76
      have N76 := Fr.app N75 N76q
      refine Go.pull (V := T76.setTop (mkF m 21 #[iv pa, iv pb, iv 1, iv 3, iv 56, .unset, .unset, .unset, .unset, .unset] [(.int 97)])) st76 ?_
      obtain ⟨_, _, ⟨T77, L77, k77, n77⟩, -, X77, ⟨Lc77, hQ77, l77, y77, z77⟩, st77⟩ := Jvm.LawKit.callS X76 hx (y := (⟨"com/example/facl/facl/ModeSpec", "part", "(C)I"⟩ : MethodName)) hown (mvT hZ (hw _ (List.mem_of_getElem? (i := 4) rfl))) (mvT hZ (hw _ (List.mem_of_getElem? (i := 5) rfl))) (mvT hZ (hw _ (List.mem_of_getElem? (i := 6) rfl))) (mvT hZ (hw _ (List.mem_of_getElem? (i := 7) rfl))) (by decide) (backOf (W := 0) (rmP l Z a0 hw [] (97 : Int32) h0 n0 (by decide)) hZ (hw _ (List.mem_of_getElem? (i := 7) rfl)) (hw _ (List.mem_of_getElem? (i := 6) rfl)) (by decide) (by decide)) (g := (mkF m 21 #[iv pa, iv pb, iv 1, iv 3, iv 56, .unset, .unset, .unset, .unset, .unset] [(.int 97)])) rfl (by rw [hml]; rfl) (argsL := [(.int 97)]) (rest := []) (lenOf pd_1 rfl) rfl (by show 2 * 0 + _ ≤ _; exact Nat.le_of_eq rfl) (hb hby at_21) (fun _ _ => ⟨rfl, e76, (by decide : 0 + 0 ≤ _), (by decide : 0 + 0 ≤ _)⟩)
      dsimp only [Pt.U, Pt.locs, Pt.cells, Pt.slots] at X77 l77 y77 z77 st77 hQ77
      subst l77 y77 z77
      obtain ⟨hv77, N77q, e77⟩ := hQ77
      rw [(show (own_part (97 : Int32)) = (1023 : Int32) from by decide)] at hv77; subst hv77
      have N77 := Fr.app N76 N77q
      refine Go.pull (V := T77.setTop (mkF m 24 #[iv pa, iv pb, iv 1, iv 3, iv 56, .unset, .unset, .unset, .unset, .unset] [(.int 1023)])) st77 ?_
      refine Go.pull (V := T77.setTop (mkF m 26 #[iv pa, iv pb, iv 1, iv 3, iv 56, iv 1023, .unset, .unset, .unset, .unset] [])) (fun t k => XS.istore X77.here hx rfl (hb hby at_24) rfl (l' := #[iv pa, iv pb, iv 1, iv 3, iv 56, iv 1023, .unset, .unset, .unset, .unset]) rfl k) ?_
      refine Go.pull (V := T77.setTop (mkF m 28 #[iv pa, iv pb, iv 1, iv 3, iv 56, iv 1023, .unset, .unset, .unset, .unset] [(.int 117)])) (fun t k => XS.bipush X77.here hx rfl (hb hby at_26) k) ?_
      obtain ⟨_, _, ⟨T78, L78, k78, n78⟩, -, X78, ⟨Lc78, hQ78, l78, y78, z78⟩, st78⟩ := Jvm.LawKit.callS X77 hx (y := (⟨"com/example/facl/facl/ModeSpec", "part", "(C)I"⟩ : MethodName)) hown (mvT hZ (hw _ (List.mem_of_getElem? (i := 4) rfl))) (mvT hZ (hw _ (List.mem_of_getElem? (i := 5) rfl))) (mvT hZ (hw _ (List.mem_of_getElem? (i := 6) rfl))) (mvT hZ (hw _ (List.mem_of_getElem? (i := 7) rfl))) (by decide) (backOf (W := 0) (rmP l Z a0 hw [] (117 : Int32) h0 n0 (by decide)) hZ (hw _ (List.mem_of_getElem? (i := 7) rfl)) (hw _ (List.mem_of_getElem? (i := 6) rfl)) (by decide) (by decide)) (g := (mkF m 28 #[iv pa, iv pb, iv 1, iv 3, iv 56, iv 1023, .unset, .unset, .unset, .unset] [(.int 117)])) rfl (by rw [hml]; rfl) (argsL := [(.int 117)]) (rest := []) (lenOf pd_1 rfl) rfl (by show 2 * 0 + _ ≤ _; exact Nat.le_of_eq rfl) (hb hby at_28) (fun _ _ => ⟨rfl, e77, (by decide : 0 + 0 ≤ _), (by decide : 0 + 0 ≤ _)⟩)
      dsimp only [Pt.U, Pt.locs, Pt.cells, Pt.slots] at X78 l78 y78 z78 st78 hQ78
      subst l78 y78 z78
      obtain ⟨hv78, N78q, e78⟩ := hQ78
      rw [(show (own_part (117 : Int32)) = (448 : Int32) from by decide)] at hv78; subst hv78
      have N78 := Fr.app N77 N78q
      refine Go.pull (V := T78.setTop (mkF m 31 #[iv pa, iv pb, iv 1, iv 3, iv 56, iv 1023, .unset, .unset, .unset, .unset] [(.int 448)])) st78 ?_
      refine Go.pull (V := T78.setTop (mkF m 33 #[iv pa, iv pb, iv 1, iv 3, iv 56, iv 1023, iv 448, .unset, .unset, .unset] [])) (fun t k => XS.istore X78.here hx rfl (hb hby at_31) rfl (l' := #[iv pa, iv pb, iv 1, iv 3, iv 56, iv 1023, iv 448, .unset, .unset, .unset]) rfl k) ?_
      refine Go.pull (V := T78.setTop (mkF m 35 #[iv pa, iv pb, iv 1, iv 3, iv 56, iv 1023, iv 448, .unset, .unset, .unset] [(.int 103)])) (fun t k => XS.bipush X78.here hx rfl (hb hby at_33) k) ?_
      obtain ⟨_, _, ⟨T79, L79, k79, n79⟩, -, X79, ⟨Lc79, hQ79, l79, y79, z79⟩, st79⟩ := Jvm.LawKit.callS X78 hx (y := (⟨"com/example/facl/facl/ModeSpec", "part", "(C)I"⟩ : MethodName)) hown (mvT hZ (hw _ (List.mem_of_getElem? (i := 4) rfl))) (mvT hZ (hw _ (List.mem_of_getElem? (i := 5) rfl))) (mvT hZ (hw _ (List.mem_of_getElem? (i := 6) rfl))) (mvT hZ (hw _ (List.mem_of_getElem? (i := 7) rfl))) (by decide) (backOf (W := 0) (rmP l Z a0 hw [] (103 : Int32) h0 n0 (by decide)) hZ (hw _ (List.mem_of_getElem? (i := 7) rfl)) (hw _ (List.mem_of_getElem? (i := 6) rfl)) (by decide) (by decide)) (g := (mkF m 35 #[iv pa, iv pb, iv 1, iv 3, iv 56, iv 1023, iv 448, .unset, .unset, .unset] [(.int 103)])) rfl (by rw [hml]; rfl) (argsL := [(.int 103)]) (rest := []) (lenOf pd_1 rfl) rfl (by show 2 * 0 + _ ≤ _; exact Nat.le_of_eq rfl) (hb hby at_35) (fun _ _ => ⟨rfl, e78, (by decide : 0 + 0 ≤ _), (by decide : 0 + 0 ≤ _)⟩)
      dsimp only [Pt.U, Pt.locs, Pt.cells, Pt.slots] at X79 l79 y79 z79 st79 hQ79
      subst l79 y79 z79
      obtain ⟨hv79, N79q, e79⟩ := hQ79
      rw [(show (own_part (103 : Int32)) = (56 : Int32) from by decide)] at hv79; subst hv79
      have N79 := Fr.app N78 N79q
      refine Go.pull (V := T79.setTop (mkF m 38 #[iv pa, iv pb, iv 1, iv 3, iv 56, iv 1023, iv 448, .unset, .unset, .unset] [(.int 56)])) st79 ?_
      refine Go.pull (V := T79.setTop (mkF m 40 #[iv pa, iv pb, iv 1, iv 3, iv 56, iv 1023, iv 448, iv 56, .unset, .unset] [])) (fun t k => XS.istore X79.here hx rfl (hb hby at_38) rfl (l' := #[iv pa, iv pb, iv 1, iv 3, iv 56, iv 1023, iv 448, iv 56, .unset, .unset]) rfl k) ?_
      refine Go.pull (V := T79.setTop (mkF m 42 #[iv pa, iv pb, iv 1, iv 3, iv 56, iv 1023, iv 448, iv 56, .unset, .unset] [(.int 111)])) (fun t k => XS.bipush X79.here hx rfl (hb hby at_40) k) ?_
      obtain ⟨_, _, ⟨T80, L80, k80, n80⟩, -, X80, ⟨Lc80, hQ80, l80, y80, z80⟩, st80⟩ := Jvm.LawKit.callS X79 hx (y := (⟨"com/example/facl/facl/ModeSpec", "part", "(C)I"⟩ : MethodName)) hown (mvT hZ (hw _ (List.mem_of_getElem? (i := 4) rfl))) (mvT hZ (hw _ (List.mem_of_getElem? (i := 5) rfl))) (mvT hZ (hw _ (List.mem_of_getElem? (i := 6) rfl))) (mvT hZ (hw _ (List.mem_of_getElem? (i := 7) rfl))) (by decide) (backOf (W := 0) (rmP l Z a0 hw [] (111 : Int32) h0 n0 (by decide)) hZ (hw _ (List.mem_of_getElem? (i := 7) rfl)) (hw _ (List.mem_of_getElem? (i := 6) rfl)) (by decide) (by decide)) (g := (mkF m 42 #[iv pa, iv pb, iv 1, iv 3, iv 56, iv 1023, iv 448, iv 56, .unset, .unset] [(.int 111)])) rfl (by rw [hml]; rfl) (argsL := [(.int 111)]) (rest := []) (lenOf pd_1 rfl) rfl (by show 2 * 0 + _ ≤ _; exact Nat.le_of_eq rfl) (hb hby at_42) (fun _ _ => ⟨rfl, e79, (by decide : 0 + 0 ≤ _), (by decide : 0 + 0 ≤ _)⟩)
      dsimp only [Pt.U, Pt.locs, Pt.cells, Pt.slots] at X80 l80 y80 z80 st80 hQ80
      subst l80 y80 z80
      obtain ⟨hv80, N80q, e80⟩ := hQ80
      rw [(show (own_part (111 : Int32)) = (519 : Int32) from by decide)] at hv80; subst hv80
      have N80 := Fr.app N79 N80q
      refine Go.pull (V := T80.setTop (mkF m 45 #[iv pa, iv pb, iv 1, iv 3, iv 56, iv 1023, iv 448, iv 56, .unset, .unset] [(.int 519)])) st80 ?_
      refine Go.pull (V := T80.setTop (mkF m 47 #[iv pa, iv pb, iv 1, iv 3, iv 56, iv 1023, iv 448, iv 56, iv 519, .unset] [])) (fun t k => XS.istore X80.here hx rfl (hb hby at_45) rfl (l' := #[iv pa, iv pb, iv 1, iv 3, iv 56, iv 1023, iv 448, iv 56, iv 519, .unset]) rfl k) ?_
      refine Go.pull (V := T80.setTop (mkF m 49 #[iv pa, iv pb, iv 1, iv 3, iv 56, iv 1023, iv 448, iv 56, iv 519, .unset] [(.int 97)])) (fun t k => XS.bipush X80.here hx rfl (hb hby at_47) k) ?_
      obtain ⟨_, _, ⟨T81, L81, k81, n81⟩, -, X81, ⟨Lc81, hQ81, l81, y81, z81⟩, st81⟩ := Jvm.LawKit.callS X80 hx (y := (⟨"com/example/facl/facl/ModeSpec", "part", "(C)I"⟩ : MethodName)) hown (mvT hZ (hw _ (List.mem_of_getElem? (i := 4) rfl))) (mvT hZ (hw _ (List.mem_of_getElem? (i := 5) rfl))) (mvT hZ (hw _ (List.mem_of_getElem? (i := 6) rfl))) (mvT hZ (hw _ (List.mem_of_getElem? (i := 7) rfl))) (by decide) (backOf (W := 0) (rmP l Z a0 hw [] (97 : Int32) h0 n0 (by decide)) hZ (hw _ (List.mem_of_getElem? (i := 7) rfl)) (hw _ (List.mem_of_getElem? (i := 6) rfl)) (by decide) (by decide)) (g := (mkF m 49 #[iv pa, iv pb, iv 1, iv 3, iv 56, iv 1023, iv 448, iv 56, iv 519, .unset] [(.int 97)])) rfl (by rw [hml]; rfl) (argsL := [(.int 97)]) (rest := []) (lenOf pd_1 rfl) rfl (by show 2 * 0 + _ ≤ _; exact Nat.le_of_eq rfl) (hb hby at_49) (fun _ _ => ⟨rfl, e80, (by decide : 0 + 0 ≤ _), (by decide : 0 + 0 ≤ _)⟩)
      dsimp only [Pt.U, Pt.locs, Pt.cells, Pt.slots] at X81 l81 y81 z81 st81 hQ81
      subst l81 y81 z81
      obtain ⟨hv81, N81q, e81⟩ := hQ81
      rw [(show (own_part (97 : Int32)) = (1023 : Int32) from by decide)] at hv81; subst hv81
      have N81 := Fr.app N80 N81q
      refine Go.pull (V := T81.setTop (mkF m 52 #[iv pa, iv pb, iv 1, iv 3, iv 56, iv 1023, iv 448, iv 56, iv 519, .unset] [(.int 1023)])) st81 ?_
      refine Go.pull (V := T81.setTop (mkF m 54 #[iv pa, iv pb, iv 1, iv 3, iv 56, iv 1023, iv 448, iv 56, iv 519, iv 1023] [])) (fun t k => XS.istore X81.here hx rfl (hb hby at_52) rfl (l' := #[iv pa, iv pb, iv 1, iv 3, iv 56, iv 1023, iv 448, iv 56, iv 519, iv 1023]) rfl k) ?_
      refine Go.pull (V := T81.setTop (mkF m 56 #[iv pa, iv pb, iv 1, iv 3, iv 56, iv 1023, iv 448, iv 56, iv 519, iv 1023] [(.int 56)])) (fun t k => XS.iload X81.here hx rfl (hb hby at_54) rfl  k) ?_
      refine Go.pull (V := T81.setTop (mkF m 57 #[iv pa, iv pb, iv 1, iv 3, iv 56, iv 1023, iv 448, iv 56, iv 519, iv 1023] [(.int 1), (.int 56)])) (fun t k => XS.iloadN X81.here hx rfl (hb hby at_56) rfl  k) ?_
      obtain ⟨_, _, ⟨T82, L82, k82, n82⟩, -, X82, ⟨Lc82, hQ82, l82, y82, z82⟩, st82⟩ := Jvm.LawKit.callS X81 hx (y := (⟨"com/example/facl/facl/ModeSpecPartPinLaw", "expected", "(I)I"⟩ : MethodName)) hown (mvT hZ (hw _ (List.mem_of_getElem? (i := 8) rfl))) (mvT hZ (hw _ (List.mem_of_getElem? (i := 9) rfl))) (mvT hZ (hw _ (List.mem_of_getElem? (i := 2) rfl))) (mvT hZ (hw _ (List.mem_of_getElem? (i := 10) rfl))) (by decide) (backOf (W := 1) (rmX l Z a0 hw [] (1 : Int32) h0 n0 ) hZ (hw _ (List.mem_of_getElem? (i := 10) rfl)) (hw _ (List.mem_of_getElem? (i := 2) rfl)) (by decide) (by decide)) (g := (mkF m 57 #[iv pa, iv pb, iv 1, iv 3, iv 56, iv 1023, iv 448, iv 56, iv 519, iv 1023] [(.int 1), (.int 56)])) rfl (by rw [hml]; rfl) (argsL := [(.int 1)]) (rest := [(.int 56)]) (lenOf pd_2 rfl) rfl (by show 2 * 0 + _ ≤ _; exact Nat.le_of_eq rfl) (hb hby at_57) (fun _ _ => ⟨rfl, e81, (by decide : 0 + 0 ≤ _), (by decide : 0 + 0 ≤ _)⟩)
      dsimp only [Pt.U, Pt.locs, Pt.cells, Pt.slots] at X82 l82 y82 z82 st82 hQ82
      subst l82 y82 z82
      obtain ⟨hv82, N82q, e82⟩ := hQ82
      rw [(show (own_expected (1 : Int32)) = (56 : Int32) from by decide)] at hv82; subst hv82
      have N82 := Fr.app N81 N82q
      refine Go.pull (V := T82.setTop (mkF m 60 #[iv pa, iv pb, iv 1, iv 3, iv 56, iv 1023, iv 448, iv 56, iv 519, iv 1023] [(.int 56), (.int 56)])) st82 ?_
      refine Go.pull (V := T82.setTop (mkF m 63 #[iv pa, iv pb, iv 1, iv 3, iv 56, iv 1023, iv 448, iv 56, iv 519, iv 1023] [])) (fun t k => XS.icmpNo X82.here hx rfl (hb hby at_60) rfl (XT.ii_ne_f (by decide)) k) ?_
      refine Go.pull (V := T82.setTop (mkF m 65 #[iv pa, iv pb, iv 1, iv 3, iv 56, iv 1023, iv 448, iv 56, iv 519, iv 1023] [(.int 1023)])) (fun t k => XS.iload X82.here hx rfl (hb hby at_63) rfl  k) ?_
      refine Go.pull (V := T82.setTop (mkF m 66 #[iv pa, iv pb, iv 1, iv 3, iv 56, iv 1023, iv 448, iv 56, iv 519, iv 1023] [(.int 3), (.int 1023)])) (fun t k => XS.iloadN X82.here hx rfl (hb hby at_65) rfl  k) ?_
      obtain ⟨_, _, ⟨T83, L83, k83, n83⟩, -, X83, ⟨Lc83, hQ83, l83, y83, z83⟩, st83⟩ := Jvm.LawKit.callS X82 hx (y := (⟨"com/example/facl/facl/ModeSpecPartPinLaw", "expected", "(I)I"⟩ : MethodName)) hown (mvT hZ (hw _ (List.mem_of_getElem? (i := 8) rfl))) (mvT hZ (hw _ (List.mem_of_getElem? (i := 9) rfl))) (mvT hZ (hw _ (List.mem_of_getElem? (i := 2) rfl))) (mvT hZ (hw _ (List.mem_of_getElem? (i := 10) rfl))) (by decide) (backOf (W := 1) (rmX l Z a0 hw [] (3 : Int32) h0 n0 ) hZ (hw _ (List.mem_of_getElem? (i := 10) rfl)) (hw _ (List.mem_of_getElem? (i := 2) rfl)) (by decide) (by decide)) (g := (mkF m 66 #[iv pa, iv pb, iv 1, iv 3, iv 56, iv 1023, iv 448, iv 56, iv 519, iv 1023] [(.int 3), (.int 1023)])) rfl (by rw [hml]; rfl) (argsL := [(.int 3)]) (rest := [(.int 1023)]) (lenOf pd_2 rfl) rfl (by show 2 * 0 + _ ≤ _; exact Nat.le_of_eq rfl) (hb hby at_66) (fun _ _ => ⟨rfl, e82, (by decide : 0 + 0 ≤ _), (by decide : 0 + 0 ≤ _)⟩)
      dsimp only [Pt.U, Pt.locs, Pt.cells, Pt.slots] at X83 l83 y83 z83 st83 hQ83
      subst l83 y83 z83
      obtain ⟨hv83, N83q, e83⟩ := hQ83
      rw [(show (own_expected (3 : Int32)) = (1023 : Int32) from by decide)] at hv83; subst hv83
      have N83 := Fr.app N82 N83q
      refine Go.pull (V := T83.setTop (mkF m 69 #[iv pa, iv pb, iv 1, iv 3, iv 56, iv 1023, iv 448, iv 56, iv 519, iv 1023] [(.int 1023), (.int 1023)])) st83 ?_
      refine Go.pull (V := T83.setTop (mkF m 74 #[iv pa, iv pb, iv 1, iv 3, iv 56, iv 1023, iv 448, iv 56, iv 519, iv 1023] [])) (fun t k => XS.icmpYes X83.here hx rfl (pc0 := 69) (pc' := 74) rfl (hb hby at_69) rfl (XT.ii_eq_t (by decide)) (by decide) (by decide) k) ?_
      refine Go.pull (V := T83.setTop (mkF m 76 #[iv pa, iv pb, iv 1, iv 3, iv 56, iv 1023, iv 448, iv 56, iv 519, iv 1023] [(.int 56)])) (fun t k => XS.iload X83.here hx rfl (hb hby at_74) rfl  k) ?_
      refine Go.pull (V := T83.setTop (mkF m 79 #[iv pa, iv pb, iv 1, iv 3, iv 56, iv 1023, iv 448, iv 56, iv 519, iv 1023] [(.int (-1024)), (.int 56)])) (fun t k => XS.sipush X83.here hx rfl (hb hby at_76) k) ?_
      refine Go.pull (V := T83.setTop (mkF m 80 #[iv pa, iv pb, iv 1, iv 3, iv 56, iv 1023, iv 448, iv 56, iv 519, iv 1023] [(.int 0)])) (fun t k => XS.iand X83.here hx rfl (hb hby at_79) rfl k) ?_
      refine Go.pull (V := T83.setTop (mkF m 83 #[iv pa, iv pb, iv 1, iv 3, iv 56, iv 1023, iv 448, iv 56, iv 519, iv 1023] [])) (fun t k => XS.ifNo X83.here hx rfl (hb hby at_80) rfl (XT.i0_ne_f (by decide)) k) ?_
      refine Go.pull (V := T83.setTop (mkF m 85 #[iv pa, iv pb, iv 1, iv 3, iv 56, iv 1023, iv 448, iv 56, iv 519, iv 1023] [(.int 1023)])) (fun t k => XS.iload X83.here hx rfl (hb hby at_83) rfl  k) ?_
      refine Go.pull (V := T83.setTop (mkF m 88 #[iv pa, iv pb, iv 1, iv 3, iv 56, iv 1023, iv 448, iv 56, iv 519, iv 1023] [(.int (-1024)), (.int 1023)])) (fun t k => XS.sipush X83.here hx rfl (hb hby at_85) k) ?_
      refine Go.pull (V := T83.setTop (mkF m 89 #[iv pa, iv pb, iv 1, iv 3, iv 56, iv 1023, iv 448, iv 56, iv 519, iv 1023] [(.int 0)])) (fun t k => XS.iand X83.here hx rfl (hb hby at_88) rfl k) ?_
      refine Go.pull (V := T83.setTop (mkF m 94 #[iv pa, iv pb, iv 1, iv 3, iv 56, iv 1023, iv 448, iv 56, iv 519, iv 1023] [])) (fun t k => XS.ifYes X83.here hx rfl (pc0 := 89) (pc' := 94) rfl (hb hby at_89) rfl (XT.i0_eq_t (by decide)) (by decide) (by decide) k) ?_
      refine Go.pull (V := T83.setTop (mkF m 96 #[iv pa, iv pb, iv 1, iv 3, iv 56, iv 1023, iv 448, iv 56, iv 519, iv 1023] [(.int 1023)])) (fun t k => XS.iload X83.here hx rfl (hb hby at_94) rfl  k) ?_
      refine Go.pull (V := T83.setTop (mkF m 99 #[iv pa, iv pb, iv 1, iv 3, iv 56, iv 1023, iv 448, iv 56, iv 519, iv 1023] [(.int 1023), (.int 1023)])) (fun t k => XS.sipush X83.here hx rfl (hb hby at_96) k) ?_
      refine Go.pull (V := T83.setTop (mkF m 102 #[iv pa, iv pb, iv 1, iv 3, iv 56, iv 1023, iv 448, iv 56, iv 519, iv 1023] [])) (fun t k => XS.icmpNo X83.here hx rfl (hb hby at_99) rfl (XT.ii_ne_f (by decide)) k) ?_
      refine Go.pull (V := T83.setTop (mkF m 104 #[iv pa, iv pb, iv 1, iv 3, iv 56, iv 1023, iv 448, iv 56, iv 519, iv 1023] [(.int 448)])) (fun t k => XS.iload X83.here hx rfl (hb hby at_102) rfl  k) ?_
      refine Go.pull (V := T83.setTop (mkF m 106 #[iv pa, iv pb, iv 1, iv 3, iv 56, iv 1023, iv 448, iv 56, iv 519, iv 1023] [(.int 56), (.int 448)])) (fun t k => XS.iload X83.here hx rfl (hb hby at_104) rfl  k) ?_
      refine Go.pull (V := T83.setTop (mkF m 107 #[iv pa, iv pb, iv 1, iv 3, iv 56, iv 1023, iv 448, iv 56, iv 519, iv 1023] [(.int 504)])) (fun t k => XS.ior X83.here hx rfl (hb hby at_106) rfl k) ?_
      refine Go.pull (V := T83.setTop (mkF m 109 #[iv pa, iv pb, iv 1, iv 3, iv 56, iv 1023, iv 448, iv 56, iv 519, iv 1023] [(.int 519), (.int 504)])) (fun t k => XS.iload X83.here hx rfl (hb hby at_107) rfl  k) ?_
      refine Go.pull (V := T83.setTop (mkF m 110 #[iv pa, iv pb, iv 1, iv 3, iv 56, iv 1023, iv 448, iv 56, iv 519, iv 1023] [(.int 1023)])) (fun t k => XS.ior X83.here hx rfl (hb hby at_109) rfl k) ?_
      refine Go.pull (V := T83.setTop (mkF m 112 #[iv pa, iv pb, iv 1, iv 3, iv 56, iv 1023, iv 448, iv 56, iv 519, iv 1023] [(.int 1023), (.int 1023)])) (fun t k => XS.iload X83.here hx rfl (hb hby at_110) rfl  k) ?_
      refine Go.pull (V := T83.setTop (mkF m 117 #[iv pa, iv pb, iv 1, iv 3, iv 56, iv 1023, iv 448, iv 56, iv 519, iv 1023] [])) (fun t k => XS.icmpYes X83.here hx rfl (pc0 := 112) (pc' := 117) rfl (hb hby at_112) rfl (XT.ii_eq_t (by decide)) (by decide) (by decide) k) ?_
      refine Go.pull (V := T83.setTop (mkF m 119 #[iv pa, iv pb, iv 1, iv 3, iv 56, iv 1023, iv 448, iv 56, iv 519, iv 1023] [(.int 448)])) (fun t k => XS.iload X83.here hx rfl (hb hby at_117) rfl  k) ?_
      refine Go.pull (V := T83.setTop (mkF m 121 #[iv pa, iv pb, iv 1, iv 3, iv 56, iv 1023, iv 448, iv 56, iv 519, iv 1023] [(.int 56), (.int 448)])) (fun t k => XS.iload X83.here hx rfl (hb hby at_119) rfl  k) ?_
      refine Go.pull (V := T83.setTop (mkF m 122 #[iv pa, iv pb, iv 1, iv 3, iv 56, iv 1023, iv 448, iv 56, iv 519, iv 1023] [(.int 0)])) (fun t k => XS.iand X83.here hx rfl (hb hby at_121) rfl k) ?_
      refine Go.pull (V := T83.setTop (mkF m 125 #[iv pa, iv pb, iv 1, iv 3, iv 56, iv 1023, iv 448, iv 56, iv 519, iv 1023] [])) (fun t k => XS.ifNo X83.here hx rfl (hb hby at_122) rfl (XT.i0_ne_f (by decide)) k) ?_
      refine Go.pull (V := T83.setTop (mkF m 127 #[iv pa, iv pb, iv 1, iv 3, iv 56, iv 1023, iv 448, iv 56, iv 519, iv 1023] [(.int 448)])) (fun t k => XS.iload X83.here hx rfl (hb hby at_125) rfl  k) ?_
      refine Go.pull (V := T83.setTop (mkF m 129 #[iv pa, iv pb, iv 1, iv 3, iv 56, iv 1023, iv 448, iv 56, iv 519, iv 1023] [(.int 519), (.int 448)])) (fun t k => XS.iload X83.here hx rfl (hb hby at_127) rfl  k) ?_
      refine Go.pull (V := T83.setTop (mkF m 130 #[iv pa, iv pb, iv 1, iv 3, iv 56, iv 1023, iv 448, iv 56, iv 519, iv 1023] [(.int 0)])) (fun t k => XS.iand X83.here hx rfl (hb hby at_129) rfl k) ?_
      refine Go.pull (V := T83.setTop (mkF m 133 #[iv pa, iv pb, iv 1, iv 3, iv 56, iv 1023, iv 448, iv 56, iv 519, iv 1023] [])) (fun t k => XS.ifNo X83.here hx rfl (hb hby at_130) rfl (XT.i0_ne_f (by decide)) k) ?_
      refine Go.pull (V := T83.setTop (mkF m 135 #[iv pa, iv pb, iv 1, iv 3, iv 56, iv 1023, iv 448, iv 56, iv 519, iv 1023] [(.int 56)])) (fun t k => XS.iload X83.here hx rfl (hb hby at_133) rfl  k) ?_
      refine Go.pull (V := T83.setTop (mkF m 137 #[iv pa, iv pb, iv 1, iv 3, iv 56, iv 1023, iv 448, iv 56, iv 519, iv 1023] [(.int 519), (.int 56)])) (fun t k => XS.iload X83.here hx rfl (hb hby at_135) rfl  k) ?_
      refine Go.pull (V := T83.setTop (mkF m 138 #[iv pa, iv pb, iv 1, iv 3, iv 56, iv 1023, iv 448, iv 56, iv 519, iv 1023] [(.int 0)])) (fun t k => XS.iand X83.here hx rfl (hb hby at_137) rfl k) ?_
      refine Go.pull (V := T83.setTop (mkF m 143 #[iv pa, iv pb, iv 1, iv 3, iv 56, iv 1023, iv 448, iv 56, iv 519, iv 1023] [])) (fun t k => XS.ifYes X83.here hx rfl (pc0 := 138) (pc' := 143) rfl (hb hby at_138) rfl (XT.i0_eq_t (by decide)) (by decide) (by decide) k) ?_
      refine Go.pull (V := T83.setTop (mkF m 144 #[iv pa, iv pb, iv 1, iv 3, iv 56, iv 1023, iv 448, iv 56, iv 519, iv 1023] [(.int 1)])) (fun t k => XS.iloadN X83.here hx rfl (hb hby at_143) rfl  k) ?_
      refine Go.pull (V := T83.setTop (mkF m 145 #[iv pa, iv pb, iv 1, iv 3, iv 56, iv 1023, iv 448, iv 56, iv 519, iv 1023] [(.int 3), (.int 1)])) (fun t k => XS.iloadN X83.here hx rfl (hb hby at_144) rfl  k) ?_
      refine Go.pull (V := T83.setTop (mkF m 148 #[iv pa, iv pb, iv 1, iv 3, iv 56, iv 1023, iv 448, iv 56, iv 519, iv 1023] [])) (fun t k => XS.icmpNo X83.here hx rfl (hb hby at_145) rfl (XT.ii_eq_f (by decide)) k) ?_
      refine Go.pull (V := T83.setTop (mkF m 149 #[iv pa, iv pb, iv 1, iv 3, iv 56, iv 1023, iv 448, iv 56, iv 519, iv 1023] [(.int 1)])) (fun t k => XS.iloadN X83.here hx rfl (hb hby at_148) rfl  k) ?_
      refine Go.pull (V := T83.setTop (mkF m 150 #[iv pa, iv pb, iv 1, iv 3, iv 56, iv 1023, iv 448, iv 56, iv 519, iv 1023] [(.int 3), (.int 1)])) (fun t k => XS.iconst X83.here hx rfl (hb hby at_149) k) ?_
      refine Go.pull (V := T83.setTop (mkF m 153 #[iv pa, iv pb, iv 1, iv 3, iv 56, iv 1023, iv 448, iv 56, iv 519, iv 1023] [])) (fun t k => XS.icmpNo X83.here hx rfl (hb hby at_150) rfl (XT.ii_eq_f (by decide)) k) ?_
      refine Go.pull (V := T83.setTop (mkF m 154 #[iv pa, iv pb, iv 1, iv 3, iv 56, iv 1023, iv 448, iv 56, iv 519, iv 1023] [(.int 3)])) (fun t k => XS.iloadN X83.here hx rfl (hb hby at_153) rfl  k) ?_
      refine Go.pull (V := T83.setTop (mkF m 155 #[iv pa, iv pb, iv 1, iv 3, iv 56, iv 1023, iv 448, iv 56, iv 519, iv 1023] [(.int 3), (.int 3)])) (fun t k => XS.iconst X83.here hx rfl (hb hby at_154) k) ?_
      refine Go.pull (V := T83.setTop (mkF m 168 #[iv pa, iv pb, iv 1, iv 3, iv 56, iv 1023, iv 448, iv 56, iv 519, iv 1023] [])) (fun t k => XS.icmpYes X83.here hx rfl (pc0 := 155) (pc' := 168) rfl (hb hby at_155) rfl (XT.ii_eq_t (by decide)) (by decide) (by decide) k) ?_
      refine Go.pull (V := T83.setTop (mkF m 170 #[iv pa, iv pb, iv 1, iv 3, iv 56, iv 1023, iv 448, iv 56, iv 519, iv 1023] [(.int 519)])) (fun t k => XS.iload X83.here hx rfl (hb hby at_168) rfl  k) ?_
      refine Go.pull (V := T83.setTop (mkF m 173 #[iv pa, iv pb, iv 1, iv 3, iv 56, iv 1023, iv 448, iv 56, iv 519, iv 1023] [(.int 512), (.int 519)])) (fun t k => XS.sipush X83.here hx rfl (hb hby at_170) k) ?_
      refine Go.pull (V := T83.setTop (mkF m 174 #[iv pa, iv pb, iv 1, iv 3, iv 56, iv 1023, iv 448, iv 56, iv 519, iv 1023] [(.int 512)])) (fun t k => XS.iand X83.here hx rfl (hb hby at_173) rfl k) ?_
      refine Go.pull (V := T83.setTop (mkF m 177 #[iv pa, iv pb, iv 1, iv 3, iv 56, iv 1023, iv 448, iv 56, iv 519, iv 1023] [])) (fun t k => XS.ifNo X83.here hx rfl (hb hby at_174) rfl (XT.i0_eq_f (by decide)) k) ?_
      refine Go.pull (V := T83.setTop (mkF m 179 #[iv pa, iv pb, iv 1, iv 3, iv 56, iv 1023, iv 448, iv 56, iv 519, iv 1023] [(.int 448)])) (fun t k => XS.iload X83.here hx rfl (hb hby at_177) rfl  k) ?_
      refine Go.pull (V := T83.setTop (mkF m 181 #[iv pa, iv pb, iv 1, iv 3, iv 56, iv 1023, iv 448, iv 56, iv 519, iv 1023] [(.int 56), (.int 448)])) (fun t k => XS.iload X83.here hx rfl (hb hby at_179) rfl  k) ?_
      refine Go.pull (V := T83.setTop (mkF m 182 #[iv pa, iv pb, iv 1, iv 3, iv 56, iv 1023, iv 448, iv 56, iv 519, iv 1023] [(.int 504)])) (fun t k => XS.ior X83.here hx rfl (hb hby at_181) rfl k) ?_
      refine Go.pull (V := T83.setTop (mkF m 185 #[iv pa, iv pb, iv 1, iv 3, iv 56, iv 1023, iv 448, iv 56, iv 519, iv 1023] [(.int 512), (.int 504)])) (fun t k => XS.sipush X83.here hx rfl (hb hby at_182) k) ?_
      refine Go.pull (V := T83.setTop (mkF m 186 #[iv pa, iv pb, iv 1, iv 3, iv 56, iv 1023, iv 448, iv 56, iv 519, iv 1023] [(.int 0)])) (fun t k => XS.iand X83.here hx rfl (hb hby at_185) rfl k) ?_
      refine Go.pull (V := T83.setTop (mkF m 191 #[iv pa, iv pb, iv 1, iv 3, iv 56, iv 1023, iv 448, iv 56, iv 519, iv 1023] [])) (fun t k => XS.ifYes X83.here hx rfl (pc0 := 186) (pc' := 191) rfl (hb hby at_186) rfl (XT.i0_eq_t (by decide)) (by decide) (by decide) k) ?_
      refine Go.pull (V := T83.setTop (mkF m 192 #[iv pa, iv pb, iv 1, iv 3, iv 56, iv 1023, iv 448, iv 56, iv 519, iv 1023] [(.int 1)])) (fun t k => XS.iconst X83.here hx rfl (hb hby at_191) k) ?_
      exact Go.retN X83 hx Bd.notSynchronized (t := .boolean) Bd.returns (by simp) (hb hby at_192) ⟨rfl, N83⟩ (by decide) (by decide)
  · subst hv1
    refine Go.pull (V := s₁.setTop (mkF m 5 #[iv pa, iv pb, iv 2, .unset, .unset, .unset, .unset, .unset, .unset, .unset] [(.int pb)])) (fun t k => XS.iloadN X0.here hx rfl (hb hby at_4) rfl  k) ?_
    refine Go.pull (V := s₁.setTop (mkF m 6 #[iv pa, iv pb, iv 2, .unset, .unset, .unset, .unset, .unset, .unset, .unset] [(.int 3), (.int pb)])) (fun t k => XS.iconst X0.here hx rfl (hb hby at_5) k) ?_
    refine Go.pull (V := s₁.setTop (mkF m 7 #[iv pa, iv pb, iv 2, .unset, .unset, .unset, .unset, .unset, .unset, .unset] [(.int (pb &&& (3 : Int32)))])) (fun t k => XS.iand X0.here hx rfl (hb hby at_6) rfl k) ?_
    refine Go.pull (V := s₁.setTop (mkF m 8 #[iv pa, iv pb, iv 2, iv (pb &&& (3 : Int32)), .unset, .unset, .unset, .unset, .unset, .unset] [])) (fun t k => XS.istoreN X0.here hx rfl (hb hby at_7) rfl (l' := #[iv pa, iv pb, iv 2, iv (pb &&& (3 : Int32)), .unset, .unset, .unset, .unset, .unset, .unset]) rfl k) ?_
    generalize gv84 : (pb &&& (3 : Int32)) = v84
    obtain hv84 | hv84 | hv84 | hv84 := own_and3 _ gv84
    · subst hv84
      refine Go.pull (V := s₁.setTop (mkF m 9 #[iv pa, iv pb, iv 2, iv 0, .unset, .unset, .unset, .unset, .unset, .unset] [(.int 2)])) (fun t k => XS.iloadN X0.here hx rfl (hb hby at_8) rfl  k) ?_
      obtain ⟨_, _, ⟨T85, L85, k85, n85⟩, -, X85, ⟨Lc85, hQ85, l85, y85, z85⟩, st85⟩ := Jvm.LawKit.callS X0 hx (y := (⟨"com/example/facl/facl/ModeSpecPartPinLaw", "letter", "(I)C"⟩ : MethodName)) hown (mvT hZ (hw _ (List.mem_of_getElem? (i := 0) rfl))) (mvT hZ (hw _ (List.mem_of_getElem? (i := 1) rfl))) (mvT hZ (hw _ (List.mem_of_getElem? (i := 2) rfl))) (mvT hZ (hw _ (List.mem_of_getElem? (i := 3) rfl))) (by decide) (backOf (W := 0) (rmL l Z a0 hw [] (2 : Int32) h0 n0 ) hZ (hw _ (List.mem_of_getElem? (i := 3) rfl)) (hw _ (List.mem_of_getElem? (i := 2) rfl)) (by decide) (by decide)) (g := (mkF m 9 #[iv pa, iv pb, iv 2, iv 0, .unset, .unset, .unset, .unset, .unset, .unset] [(.int 2)])) rfl (by rw [hml]; rfl) (argsL := [(.int 2)]) (rest := []) (lenOf pd_0 rfl) rfl (by show 2 * 0 + _ ≤ _; exact Nat.le_of_eq rfl) (hb hby at_9) (fun _ _ => ⟨rfl, e0, (by decide : 0 + 0 ≤ _), (by decide : 0 + 0 ≤ _)⟩)
      dsimp only [Pt.U, Pt.locs, Pt.cells, Pt.slots] at X85 l85 y85 z85 st85 hQ85
      subst l85 y85 z85
      obtain ⟨hv85, N85q, e85⟩ := hQ85
      rw [(show (own_letter (2 : Int32)) = (111 : Int32) from by decide)] at hv85; subst hv85
      have N85 := Fr.app N0 N85q
      refine Go.pull (V := T85.setTop (mkF m 12 #[iv pa, iv pb, iv 2, iv 0, .unset, .unset, .unset, .unset, .unset, .unset] [(.int 111)])) st85 ?_
      obtain ⟨_, _, ⟨T86, L86, k86, n86⟩, -, X86, ⟨Lc86, hQ86, l86, y86, z86⟩, st86⟩ := Jvm.LawKit.callS X85 hx (y := (⟨"com/example/facl/facl/ModeSpec", "part", "(C)I"⟩ : MethodName)) hown (mvT hZ (hw _ (List.mem_of_getElem? (i := 4) rfl))) (mvT hZ (hw _ (List.mem_of_getElem? (i := 5) rfl))) (mvT hZ (hw _ (List.mem_of_getElem? (i := 6) rfl))) (mvT hZ (hw _ (List.mem_of_getElem? (i := 7) rfl))) (by decide) (backOf (W := 0) (rmP l Z a0 hw [] (111 : Int32) h0 n0 (by decide)) hZ (hw _ (List.mem_of_getElem? (i := 7) rfl)) (hw _ (List.mem_of_getElem? (i := 6) rfl)) (by decide) (by decide)) (g := (mkF m 12 #[iv pa, iv pb, iv 2, iv 0, .unset, .unset, .unset, .unset, .unset, .unset] [(.int 111)])) rfl (by rw [hml]; rfl) (argsL := [(.int 111)]) (rest := []) (lenOf pd_1 rfl) rfl (by show 2 * 0 + _ ≤ _; exact Nat.le_of_eq rfl) (hb hby at_12) (fun _ _ => ⟨rfl, e85, (by decide : 0 + 0 ≤ _), (by decide : 0 + 0 ≤ _)⟩)
      dsimp only [Pt.U, Pt.locs, Pt.cells, Pt.slots] at X86 l86 y86 z86 st86 hQ86
      subst l86 y86 z86
      obtain ⟨hv86, N86q, e86⟩ := hQ86
      rw [(show (own_part (111 : Int32)) = (519 : Int32) from by decide)] at hv86; subst hv86
      have N86 := Fr.app N85 N86q
      refine Go.pull (V := T86.setTop (mkF m 15 #[iv pa, iv pb, iv 2, iv 0, .unset, .unset, .unset, .unset, .unset, .unset] [(.int 519)])) st86 ?_
      refine Go.pull (V := T86.setTop (mkF m 17 #[iv pa, iv pb, iv 2, iv 0, iv 519, .unset, .unset, .unset, .unset, .unset] [])) (fun t k => XS.istore X86.here hx rfl (hb hby at_15) rfl (l' := #[iv pa, iv pb, iv 2, iv 0, iv 519, .unset, .unset, .unset, .unset, .unset]) rfl k) ?_
      refine Go.pull (V := T86.setTop (mkF m 18 #[iv pa, iv pb, iv 2, iv 0, iv 519, .unset, .unset, .unset, .unset, .unset] [(.int 0)])) (fun t k => XS.iloadN X86.here hx rfl (hb hby at_17) rfl  k) ?_
      obtain ⟨_, _, ⟨T87, L87, k87, n87⟩, -, X87, ⟨Lc87, hQ87, l87, y87, z87⟩, st87⟩ := Jvm.LawKit.callS X86 hx (y := (⟨"com/example/facl/facl/ModeSpecPartPinLaw", "letter", "(I)C"⟩ : MethodName)) hown (mvT hZ (hw _ (List.mem_of_getElem? (i := 0) rfl))) (mvT hZ (hw _ (List.mem_of_getElem? (i := 1) rfl))) (mvT hZ (hw _ (List.mem_of_getElem? (i := 2) rfl))) (mvT hZ (hw _ (List.mem_of_getElem? (i := 3) rfl))) (by decide) (backOf (W := 0) (rmL l Z a0 hw [] (0 : Int32) h0 n0 ) hZ (hw _ (List.mem_of_getElem? (i := 3) rfl)) (hw _ (List.mem_of_getElem? (i := 2) rfl)) (by decide) (by decide)) (g := (mkF m 18 #[iv pa, iv pb, iv 2, iv 0, iv 519, .unset, .unset, .unset, .unset, .unset] [(.int 0)])) rfl (by rw [hml]; rfl) (argsL := [(.int 0)]) (rest := []) (lenOf pd_0 rfl) rfl (by show 2 * 0 + _ ≤ _; exact Nat.le_of_eq rfl) (hb hby at_18) (fun _ _ => ⟨rfl, e86, (by decide : 0 + 0 ≤ _), (by decide : 0 + 0 ≤ _)⟩)
      dsimp only [Pt.U, Pt.locs, Pt.cells, Pt.slots] at X87 l87 y87 z87 st87 hQ87
      subst l87 y87 z87
      obtain ⟨hv87, N87q, e87⟩ := hQ87
      rw [(show (own_letter (0 : Int32)) = (117 : Int32) from by decide)] at hv87; subst hv87
      have N87 := Fr.app N86 N87q
      refine Go.pull (V := T87.setTop (mkF m 21 #[iv pa, iv pb, iv 2, iv 0, iv 519, .unset, .unset, .unset, .unset, .unset] [(.int 117)])) st87 ?_
      obtain ⟨_, _, ⟨T88, L88, k88, n88⟩, -, X88, ⟨Lc88, hQ88, l88, y88, z88⟩, st88⟩ := Jvm.LawKit.callS X87 hx (y := (⟨"com/example/facl/facl/ModeSpec", "part", "(C)I"⟩ : MethodName)) hown (mvT hZ (hw _ (List.mem_of_getElem? (i := 4) rfl))) (mvT hZ (hw _ (List.mem_of_getElem? (i := 5) rfl))) (mvT hZ (hw _ (List.mem_of_getElem? (i := 6) rfl))) (mvT hZ (hw _ (List.mem_of_getElem? (i := 7) rfl))) (by decide) (backOf (W := 0) (rmP l Z a0 hw [] (117 : Int32) h0 n0 (by decide)) hZ (hw _ (List.mem_of_getElem? (i := 7) rfl)) (hw _ (List.mem_of_getElem? (i := 6) rfl)) (by decide) (by decide)) (g := (mkF m 21 #[iv pa, iv pb, iv 2, iv 0, iv 519, .unset, .unset, .unset, .unset, .unset] [(.int 117)])) rfl (by rw [hml]; rfl) (argsL := [(.int 117)]) (rest := []) (lenOf pd_1 rfl) rfl (by show 2 * 0 + _ ≤ _; exact Nat.le_of_eq rfl) (hb hby at_21) (fun _ _ => ⟨rfl, e87, (by decide : 0 + 0 ≤ _), (by decide : 0 + 0 ≤ _)⟩)
      dsimp only [Pt.U, Pt.locs, Pt.cells, Pt.slots] at X88 l88 y88 z88 st88 hQ88
      subst l88 y88 z88
      obtain ⟨hv88, N88q, e88⟩ := hQ88
      rw [(show (own_part (117 : Int32)) = (448 : Int32) from by decide)] at hv88; subst hv88
      have N88 := Fr.app N87 N88q
      refine Go.pull (V := T88.setTop (mkF m 24 #[iv pa, iv pb, iv 2, iv 0, iv 519, .unset, .unset, .unset, .unset, .unset] [(.int 448)])) st88 ?_
      refine Go.pull (V := T88.setTop (mkF m 26 #[iv pa, iv pb, iv 2, iv 0, iv 519, iv 448, .unset, .unset, .unset, .unset] [])) (fun t k => XS.istore X88.here hx rfl (hb hby at_24) rfl (l' := #[iv pa, iv pb, iv 2, iv 0, iv 519, iv 448, .unset, .unset, .unset, .unset]) rfl k) ?_
      refine Go.pull (V := T88.setTop (mkF m 28 #[iv pa, iv pb, iv 2, iv 0, iv 519, iv 448, .unset, .unset, .unset, .unset] [(.int 117)])) (fun t k => XS.bipush X88.here hx rfl (hb hby at_26) k) ?_
      obtain ⟨_, _, ⟨T89, L89, k89, n89⟩, -, X89, ⟨Lc89, hQ89, l89, y89, z89⟩, st89⟩ := Jvm.LawKit.callS X88 hx (y := (⟨"com/example/facl/facl/ModeSpec", "part", "(C)I"⟩ : MethodName)) hown (mvT hZ (hw _ (List.mem_of_getElem? (i := 4) rfl))) (mvT hZ (hw _ (List.mem_of_getElem? (i := 5) rfl))) (mvT hZ (hw _ (List.mem_of_getElem? (i := 6) rfl))) (mvT hZ (hw _ (List.mem_of_getElem? (i := 7) rfl))) (by decide) (backOf (W := 0) (rmP l Z a0 hw [] (117 : Int32) h0 n0 (by decide)) hZ (hw _ (List.mem_of_getElem? (i := 7) rfl)) (hw _ (List.mem_of_getElem? (i := 6) rfl)) (by decide) (by decide)) (g := (mkF m 28 #[iv pa, iv pb, iv 2, iv 0, iv 519, iv 448, .unset, .unset, .unset, .unset] [(.int 117)])) rfl (by rw [hml]; rfl) (argsL := [(.int 117)]) (rest := []) (lenOf pd_1 rfl) rfl (by show 2 * 0 + _ ≤ _; exact Nat.le_of_eq rfl) (hb hby at_28) (fun _ _ => ⟨rfl, e88, (by decide : 0 + 0 ≤ _), (by decide : 0 + 0 ≤ _)⟩)
      dsimp only [Pt.U, Pt.locs, Pt.cells, Pt.slots] at X89 l89 y89 z89 st89 hQ89
      subst l89 y89 z89
      obtain ⟨hv89, N89q, e89⟩ := hQ89
      rw [(show (own_part (117 : Int32)) = (448 : Int32) from by decide)] at hv89; subst hv89
      have N89 := Fr.app N88 N89q
      refine Go.pull (V := T89.setTop (mkF m 31 #[iv pa, iv pb, iv 2, iv 0, iv 519, iv 448, .unset, .unset, .unset, .unset] [(.int 448)])) st89 ?_
      refine Go.pull (V := T89.setTop (mkF m 33 #[iv pa, iv pb, iv 2, iv 0, iv 519, iv 448, iv 448, .unset, .unset, .unset] [])) (fun t k => XS.istore X89.here hx rfl (hb hby at_31) rfl (l' := #[iv pa, iv pb, iv 2, iv 0, iv 519, iv 448, iv 448, .unset, .unset, .unset]) rfl k) ?_
      refine Go.pull (V := T89.setTop (mkF m 35 #[iv pa, iv pb, iv 2, iv 0, iv 519, iv 448, iv 448, .unset, .unset, .unset] [(.int 103)])) (fun t k => XS.bipush X89.here hx rfl (hb hby at_33) k) ?_
      obtain ⟨_, _, ⟨T90, L90, k90, n90⟩, -, X90, ⟨Lc90, hQ90, l90, y90, z90⟩, st90⟩ := Jvm.LawKit.callS X89 hx (y := (⟨"com/example/facl/facl/ModeSpec", "part", "(C)I"⟩ : MethodName)) hown (mvT hZ (hw _ (List.mem_of_getElem? (i := 4) rfl))) (mvT hZ (hw _ (List.mem_of_getElem? (i := 5) rfl))) (mvT hZ (hw _ (List.mem_of_getElem? (i := 6) rfl))) (mvT hZ (hw _ (List.mem_of_getElem? (i := 7) rfl))) (by decide) (backOf (W := 0) (rmP l Z a0 hw [] (103 : Int32) h0 n0 (by decide)) hZ (hw _ (List.mem_of_getElem? (i := 7) rfl)) (hw _ (List.mem_of_getElem? (i := 6) rfl)) (by decide) (by decide)) (g := (mkF m 35 #[iv pa, iv pb, iv 2, iv 0, iv 519, iv 448, iv 448, .unset, .unset, .unset] [(.int 103)])) rfl (by rw [hml]; rfl) (argsL := [(.int 103)]) (rest := []) (lenOf pd_1 rfl) rfl (by show 2 * 0 + _ ≤ _; exact Nat.le_of_eq rfl) (hb hby at_35) (fun _ _ => ⟨rfl, e89, (by decide : 0 + 0 ≤ _), (by decide : 0 + 0 ≤ _)⟩)
      dsimp only [Pt.U, Pt.locs, Pt.cells, Pt.slots] at X90 l90 y90 z90 st90 hQ90
      subst l90 y90 z90
      obtain ⟨hv90, N90q, e90⟩ := hQ90
      rw [(show (own_part (103 : Int32)) = (56 : Int32) from by decide)] at hv90; subst hv90
      have N90 := Fr.app N89 N90q
      refine Go.pull (V := T90.setTop (mkF m 38 #[iv pa, iv pb, iv 2, iv 0, iv 519, iv 448, iv 448, .unset, .unset, .unset] [(.int 56)])) st90 ?_
      refine Go.pull (V := T90.setTop (mkF m 40 #[iv pa, iv pb, iv 2, iv 0, iv 519, iv 448, iv 448, iv 56, .unset, .unset] [])) (fun t k => XS.istore X90.here hx rfl (hb hby at_38) rfl (l' := #[iv pa, iv pb, iv 2, iv 0, iv 519, iv 448, iv 448, iv 56, .unset, .unset]) rfl k) ?_
      refine Go.pull (V := T90.setTop (mkF m 42 #[iv pa, iv pb, iv 2, iv 0, iv 519, iv 448, iv 448, iv 56, .unset, .unset] [(.int 111)])) (fun t k => XS.bipush X90.here hx rfl (hb hby at_40) k) ?_
      obtain ⟨_, _, ⟨T91, L91, k91, n91⟩, -, X91, ⟨Lc91, hQ91, l91, y91, z91⟩, st91⟩ := Jvm.LawKit.callS X90 hx (y := (⟨"com/example/facl/facl/ModeSpec", "part", "(C)I"⟩ : MethodName)) hown (mvT hZ (hw _ (List.mem_of_getElem? (i := 4) rfl))) (mvT hZ (hw _ (List.mem_of_getElem? (i := 5) rfl))) (mvT hZ (hw _ (List.mem_of_getElem? (i := 6) rfl))) (mvT hZ (hw _ (List.mem_of_getElem? (i := 7) rfl))) (by decide) (backOf (W := 0) (rmP l Z a0 hw [] (111 : Int32) h0 n0 (by decide)) hZ (hw _ (List.mem_of_getElem? (i := 7) rfl)) (hw _ (List.mem_of_getElem? (i := 6) rfl)) (by decide) (by decide)) (g := (mkF m 42 #[iv pa, iv pb, iv 2, iv 0, iv 519, iv 448, iv 448, iv 56, .unset, .unset] [(.int 111)])) rfl (by rw [hml]; rfl) (argsL := [(.int 111)]) (rest := []) (lenOf pd_1 rfl) rfl (by show 2 * 0 + _ ≤ _; exact Nat.le_of_eq rfl) (hb hby at_42) (fun _ _ => ⟨rfl, e90, (by decide : 0 + 0 ≤ _), (by decide : 0 + 0 ≤ _)⟩)
      dsimp only [Pt.U, Pt.locs, Pt.cells, Pt.slots] at X91 l91 y91 z91 st91 hQ91
      subst l91 y91 z91
      obtain ⟨hv91, N91q, e91⟩ := hQ91
      rw [(show (own_part (111 : Int32)) = (519 : Int32) from by decide)] at hv91; subst hv91
      have N91 := Fr.app N90 N91q
      refine Go.pull (V := T91.setTop (mkF m 45 #[iv pa, iv pb, iv 2, iv 0, iv 519, iv 448, iv 448, iv 56, .unset, .unset] [(.int 519)])) st91 ?_
      refine Go.pull (V := T91.setTop (mkF m 47 #[iv pa, iv pb, iv 2, iv 0, iv 519, iv 448, iv 448, iv 56, iv 519, .unset] [])) (fun t k => XS.istore X91.here hx rfl (hb hby at_45) rfl (l' := #[iv pa, iv pb, iv 2, iv 0, iv 519, iv 448, iv 448, iv 56, iv 519, .unset]) rfl k) ?_
      refine Go.pull (V := T91.setTop (mkF m 49 #[iv pa, iv pb, iv 2, iv 0, iv 519, iv 448, iv 448, iv 56, iv 519, .unset] [(.int 97)])) (fun t k => XS.bipush X91.here hx rfl (hb hby at_47) k) ?_
      obtain ⟨_, _, ⟨T92, L92, k92, n92⟩, -, X92, ⟨Lc92, hQ92, l92, y92, z92⟩, st92⟩ := Jvm.LawKit.callS X91 hx (y := (⟨"com/example/facl/facl/ModeSpec", "part", "(C)I"⟩ : MethodName)) hown (mvT hZ (hw _ (List.mem_of_getElem? (i := 4) rfl))) (mvT hZ (hw _ (List.mem_of_getElem? (i := 5) rfl))) (mvT hZ (hw _ (List.mem_of_getElem? (i := 6) rfl))) (mvT hZ (hw _ (List.mem_of_getElem? (i := 7) rfl))) (by decide) (backOf (W := 0) (rmP l Z a0 hw [] (97 : Int32) h0 n0 (by decide)) hZ (hw _ (List.mem_of_getElem? (i := 7) rfl)) (hw _ (List.mem_of_getElem? (i := 6) rfl)) (by decide) (by decide)) (g := (mkF m 49 #[iv pa, iv pb, iv 2, iv 0, iv 519, iv 448, iv 448, iv 56, iv 519, .unset] [(.int 97)])) rfl (by rw [hml]; rfl) (argsL := [(.int 97)]) (rest := []) (lenOf pd_1 rfl) rfl (by show 2 * 0 + _ ≤ _; exact Nat.le_of_eq rfl) (hb hby at_49) (fun _ _ => ⟨rfl, e91, (by decide : 0 + 0 ≤ _), (by decide : 0 + 0 ≤ _)⟩)
      dsimp only [Pt.U, Pt.locs, Pt.cells, Pt.slots] at X92 l92 y92 z92 st92 hQ92
      subst l92 y92 z92
      obtain ⟨hv92, N92q, e92⟩ := hQ92
      rw [(show (own_part (97 : Int32)) = (1023 : Int32) from by decide)] at hv92; subst hv92
      have N92 := Fr.app N91 N92q
      refine Go.pull (V := T92.setTop (mkF m 52 #[iv pa, iv pb, iv 2, iv 0, iv 519, iv 448, iv 448, iv 56, iv 519, .unset] [(.int 1023)])) st92 ?_
      refine Go.pull (V := T92.setTop (mkF m 54 #[iv pa, iv pb, iv 2, iv 0, iv 519, iv 448, iv 448, iv 56, iv 519, iv 1023] [])) (fun t k => XS.istore X92.here hx rfl (hb hby at_52) rfl (l' := #[iv pa, iv pb, iv 2, iv 0, iv 519, iv 448, iv 448, iv 56, iv 519, iv 1023]) rfl k) ?_
      refine Go.pull (V := T92.setTop (mkF m 56 #[iv pa, iv pb, iv 2, iv 0, iv 519, iv 448, iv 448, iv 56, iv 519, iv 1023] [(.int 519)])) (fun t k => XS.iload X92.here hx rfl (hb hby at_54) rfl  k) ?_
      refine Go.pull (V := T92.setTop (mkF m 57 #[iv pa, iv pb, iv 2, iv 0, iv 519, iv 448, iv 448, iv 56, iv 519, iv 1023] [(.int 2), (.int 519)])) (fun t k => XS.iloadN X92.here hx rfl (hb hby at_56) rfl  k) ?_
      obtain ⟨_, _, ⟨T93, L93, k93, n93⟩, -, X93, ⟨Lc93, hQ93, l93, y93, z93⟩, st93⟩ := Jvm.LawKit.callS X92 hx (y := (⟨"com/example/facl/facl/ModeSpecPartPinLaw", "expected", "(I)I"⟩ : MethodName)) hown (mvT hZ (hw _ (List.mem_of_getElem? (i := 8) rfl))) (mvT hZ (hw _ (List.mem_of_getElem? (i := 9) rfl))) (mvT hZ (hw _ (List.mem_of_getElem? (i := 2) rfl))) (mvT hZ (hw _ (List.mem_of_getElem? (i := 10) rfl))) (by decide) (backOf (W := 1) (rmX l Z a0 hw [] (2 : Int32) h0 n0 ) hZ (hw _ (List.mem_of_getElem? (i := 10) rfl)) (hw _ (List.mem_of_getElem? (i := 2) rfl)) (by decide) (by decide)) (g := (mkF m 57 #[iv pa, iv pb, iv 2, iv 0, iv 519, iv 448, iv 448, iv 56, iv 519, iv 1023] [(.int 2), (.int 519)])) rfl (by rw [hml]; rfl) (argsL := [(.int 2)]) (rest := [(.int 519)]) (lenOf pd_2 rfl) rfl (by show 2 * 0 + _ ≤ _; exact Nat.le_of_eq rfl) (hb hby at_57) (fun _ _ => ⟨rfl, e92, (by decide : 0 + 0 ≤ _), (by decide : 0 + 0 ≤ _)⟩)
      dsimp only [Pt.U, Pt.locs, Pt.cells, Pt.slots] at X93 l93 y93 z93 st93 hQ93
      subst l93 y93 z93
      obtain ⟨hv93, N93q, e93⟩ := hQ93
      rw [(show (own_expected (2 : Int32)) = (519 : Int32) from by decide)] at hv93; subst hv93
      have N93 := Fr.app N92 N93q
      refine Go.pull (V := T93.setTop (mkF m 60 #[iv pa, iv pb, iv 2, iv 0, iv 519, iv 448, iv 448, iv 56, iv 519, iv 1023] [(.int 519), (.int 519)])) st93 ?_
      refine Go.pull (V := T93.setTop (mkF m 63 #[iv pa, iv pb, iv 2, iv 0, iv 519, iv 448, iv 448, iv 56, iv 519, iv 1023] [])) (fun t k => XS.icmpNo X93.here hx rfl (hb hby at_60) rfl (XT.ii_ne_f (by decide)) k) ?_
      refine Go.pull (V := T93.setTop (mkF m 65 #[iv pa, iv pb, iv 2, iv 0, iv 519, iv 448, iv 448, iv 56, iv 519, iv 1023] [(.int 448)])) (fun t k => XS.iload X93.here hx rfl (hb hby at_63) rfl  k) ?_
      refine Go.pull (V := T93.setTop (mkF m 66 #[iv pa, iv pb, iv 2, iv 0, iv 519, iv 448, iv 448, iv 56, iv 519, iv 1023] [(.int 0), (.int 448)])) (fun t k => XS.iloadN X93.here hx rfl (hb hby at_65) rfl  k) ?_
      obtain ⟨_, _, ⟨T94, L94, k94, n94⟩, -, X94, ⟨Lc94, hQ94, l94, y94, z94⟩, st94⟩ := Jvm.LawKit.callS X93 hx (y := (⟨"com/example/facl/facl/ModeSpecPartPinLaw", "expected", "(I)I"⟩ : MethodName)) hown (mvT hZ (hw _ (List.mem_of_getElem? (i := 8) rfl))) (mvT hZ (hw _ (List.mem_of_getElem? (i := 9) rfl))) (mvT hZ (hw _ (List.mem_of_getElem? (i := 2) rfl))) (mvT hZ (hw _ (List.mem_of_getElem? (i := 10) rfl))) (by decide) (backOf (W := 1) (rmX l Z a0 hw [] (0 : Int32) h0 n0 ) hZ (hw _ (List.mem_of_getElem? (i := 10) rfl)) (hw _ (List.mem_of_getElem? (i := 2) rfl)) (by decide) (by decide)) (g := (mkF m 66 #[iv pa, iv pb, iv 2, iv 0, iv 519, iv 448, iv 448, iv 56, iv 519, iv 1023] [(.int 0), (.int 448)])) rfl (by rw [hml]; rfl) (argsL := [(.int 0)]) (rest := [(.int 448)]) (lenOf pd_2 rfl) rfl (by show 2 * 0 + _ ≤ _; exact Nat.le_of_eq rfl) (hb hby at_66) (fun _ _ => ⟨rfl, e93, (by decide : 0 + 0 ≤ _), (by decide : 0 + 0 ≤ _)⟩)
      dsimp only [Pt.U, Pt.locs, Pt.cells, Pt.slots] at X94 l94 y94 z94 st94 hQ94
      subst l94 y94 z94
      obtain ⟨hv94, N94q, e94⟩ := hQ94
      rw [(show (own_expected (0 : Int32)) = (448 : Int32) from by decide)] at hv94; subst hv94
      have N94 := Fr.app N93 N94q
      refine Go.pull (V := T94.setTop (mkF m 69 #[iv pa, iv pb, iv 2, iv 0, iv 519, iv 448, iv 448, iv 56, iv 519, iv 1023] [(.int 448), (.int 448)])) st94 ?_
      refine Go.pull (V := T94.setTop (mkF m 74 #[iv pa, iv pb, iv 2, iv 0, iv 519, iv 448, iv 448, iv 56, iv 519, iv 1023] [])) (fun t k => XS.icmpYes X94.here hx rfl (pc0 := 69) (pc' := 74) rfl (hb hby at_69) rfl (XT.ii_eq_t (by decide)) (by decide) (by decide) k) ?_
      refine Go.pull (V := T94.setTop (mkF m 76 #[iv pa, iv pb, iv 2, iv 0, iv 519, iv 448, iv 448, iv 56, iv 519, iv 1023] [(.int 519)])) (fun t k => XS.iload X94.here hx rfl (hb hby at_74) rfl  k) ?_
      refine Go.pull (V := T94.setTop (mkF m 79 #[iv pa, iv pb, iv 2, iv 0, iv 519, iv 448, iv 448, iv 56, iv 519, iv 1023] [(.int (-1024)), (.int 519)])) (fun t k => XS.sipush X94.here hx rfl (hb hby at_76) k) ?_
      refine Go.pull (V := T94.setTop (mkF m 80 #[iv pa, iv pb, iv 2, iv 0, iv 519, iv 448, iv 448, iv 56, iv 519, iv 1023] [(.int 0)])) (fun t k => XS.iand X94.here hx rfl (hb hby at_79) rfl k) ?_
      refine Go.pull (V := T94.setTop (mkF m 83 #[iv pa, iv pb, iv 2, iv 0, iv 519, iv 448, iv 448, iv 56, iv 519, iv 1023] [])) (fun t k => XS.ifNo X94.here hx rfl (hb hby at_80) rfl (XT.i0_ne_f (by decide)) k) ?_
      refine Go.pull (V := T94.setTop (mkF m 85 #[iv pa, iv pb, iv 2, iv 0, iv 519, iv 448, iv 448, iv 56, iv 519, iv 1023] [(.int 448)])) (fun t k => XS.iload X94.here hx rfl (hb hby at_83) rfl  k) ?_
      refine Go.pull (V := T94.setTop (mkF m 88 #[iv pa, iv pb, iv 2, iv 0, iv 519, iv 448, iv 448, iv 56, iv 519, iv 1023] [(.int (-1024)), (.int 448)])) (fun t k => XS.sipush X94.here hx rfl (hb hby at_85) k) ?_
      refine Go.pull (V := T94.setTop (mkF m 89 #[iv pa, iv pb, iv 2, iv 0, iv 519, iv 448, iv 448, iv 56, iv 519, iv 1023] [(.int 0)])) (fun t k => XS.iand X94.here hx rfl (hb hby at_88) rfl k) ?_
      refine Go.pull (V := T94.setTop (mkF m 94 #[iv pa, iv pb, iv 2, iv 0, iv 519, iv 448, iv 448, iv 56, iv 519, iv 1023] [])) (fun t k => XS.ifYes X94.here hx rfl (pc0 := 89) (pc' := 94) rfl (hb hby at_89) rfl (XT.i0_eq_t (by decide)) (by decide) (by decide) k) ?_
      refine Go.pull (V := T94.setTop (mkF m 96 #[iv pa, iv pb, iv 2, iv 0, iv 519, iv 448, iv 448, iv 56, iv 519, iv 1023] [(.int 1023)])) (fun t k => XS.iload X94.here hx rfl (hb hby at_94) rfl  k) ?_
      refine Go.pull (V := T94.setTop (mkF m 99 #[iv pa, iv pb, iv 2, iv 0, iv 519, iv 448, iv 448, iv 56, iv 519, iv 1023] [(.int 1023), (.int 1023)])) (fun t k => XS.sipush X94.here hx rfl (hb hby at_96) k) ?_
      refine Go.pull (V := T94.setTop (mkF m 102 #[iv pa, iv pb, iv 2, iv 0, iv 519, iv 448, iv 448, iv 56, iv 519, iv 1023] [])) (fun t k => XS.icmpNo X94.here hx rfl (hb hby at_99) rfl (XT.ii_ne_f (by decide)) k) ?_
      refine Go.pull (V := T94.setTop (mkF m 104 #[iv pa, iv pb, iv 2, iv 0, iv 519, iv 448, iv 448, iv 56, iv 519, iv 1023] [(.int 448)])) (fun t k => XS.iload X94.here hx rfl (hb hby at_102) rfl  k) ?_
      refine Go.pull (V := T94.setTop (mkF m 106 #[iv pa, iv pb, iv 2, iv 0, iv 519, iv 448, iv 448, iv 56, iv 519, iv 1023] [(.int 56), (.int 448)])) (fun t k => XS.iload X94.here hx rfl (hb hby at_104) rfl  k) ?_
      refine Go.pull (V := T94.setTop (mkF m 107 #[iv pa, iv pb, iv 2, iv 0, iv 519, iv 448, iv 448, iv 56, iv 519, iv 1023] [(.int 504)])) (fun t k => XS.ior X94.here hx rfl (hb hby at_106) rfl k) ?_
      refine Go.pull (V := T94.setTop (mkF m 109 #[iv pa, iv pb, iv 2, iv 0, iv 519, iv 448, iv 448, iv 56, iv 519, iv 1023] [(.int 519), (.int 504)])) (fun t k => XS.iload X94.here hx rfl (hb hby at_107) rfl  k) ?_
      refine Go.pull (V := T94.setTop (mkF m 110 #[iv pa, iv pb, iv 2, iv 0, iv 519, iv 448, iv 448, iv 56, iv 519, iv 1023] [(.int 1023)])) (fun t k => XS.ior X94.here hx rfl (hb hby at_109) rfl k) ?_
      refine Go.pull (V := T94.setTop (mkF m 112 #[iv pa, iv pb, iv 2, iv 0, iv 519, iv 448, iv 448, iv 56, iv 519, iv 1023] [(.int 1023), (.int 1023)])) (fun t k => XS.iload X94.here hx rfl (hb hby at_110) rfl  k) ?_
      refine Go.pull (V := T94.setTop (mkF m 117 #[iv pa, iv pb, iv 2, iv 0, iv 519, iv 448, iv 448, iv 56, iv 519, iv 1023] [])) (fun t k => XS.icmpYes X94.here hx rfl (pc0 := 112) (pc' := 117) rfl (hb hby at_112) rfl (XT.ii_eq_t (by decide)) (by decide) (by decide) k) ?_
      refine Go.pull (V := T94.setTop (mkF m 119 #[iv pa, iv pb, iv 2, iv 0, iv 519, iv 448, iv 448, iv 56, iv 519, iv 1023] [(.int 448)])) (fun t k => XS.iload X94.here hx rfl (hb hby at_117) rfl  k) ?_
      refine Go.pull (V := T94.setTop (mkF m 121 #[iv pa, iv pb, iv 2, iv 0, iv 519, iv 448, iv 448, iv 56, iv 519, iv 1023] [(.int 56), (.int 448)])) (fun t k => XS.iload X94.here hx rfl (hb hby at_119) rfl  k) ?_
      refine Go.pull (V := T94.setTop (mkF m 122 #[iv pa, iv pb, iv 2, iv 0, iv 519, iv 448, iv 448, iv 56, iv 519, iv 1023] [(.int 0)])) (fun t k => XS.iand X94.here hx rfl (hb hby at_121) rfl k) ?_
      refine Go.pull (V := T94.setTop (mkF m 125 #[iv pa, iv pb, iv 2, iv 0, iv 519, iv 448, iv 448, iv 56, iv 519, iv 1023] [])) (fun t k => XS.ifNo X94.here hx rfl (hb hby at_122) rfl (XT.i0_ne_f (by decide)) k) ?_
      refine Go.pull (V := T94.setTop (mkF m 127 #[iv pa, iv pb, iv 2, iv 0, iv 519, iv 448, iv 448, iv 56, iv 519, iv 1023] [(.int 448)])) (fun t k => XS.iload X94.here hx rfl (hb hby at_125) rfl  k) ?_
      refine Go.pull (V := T94.setTop (mkF m 129 #[iv pa, iv pb, iv 2, iv 0, iv 519, iv 448, iv 448, iv 56, iv 519, iv 1023] [(.int 519), (.int 448)])) (fun t k => XS.iload X94.here hx rfl (hb hby at_127) rfl  k) ?_
      refine Go.pull (V := T94.setTop (mkF m 130 #[iv pa, iv pb, iv 2, iv 0, iv 519, iv 448, iv 448, iv 56, iv 519, iv 1023] [(.int 0)])) (fun t k => XS.iand X94.here hx rfl (hb hby at_129) rfl k) ?_
      refine Go.pull (V := T94.setTop (mkF m 133 #[iv pa, iv pb, iv 2, iv 0, iv 519, iv 448, iv 448, iv 56, iv 519, iv 1023] [])) (fun t k => XS.ifNo X94.here hx rfl (hb hby at_130) rfl (XT.i0_ne_f (by decide)) k) ?_
      refine Go.pull (V := T94.setTop (mkF m 135 #[iv pa, iv pb, iv 2, iv 0, iv 519, iv 448, iv 448, iv 56, iv 519, iv 1023] [(.int 56)])) (fun t k => XS.iload X94.here hx rfl (hb hby at_133) rfl  k) ?_
      refine Go.pull (V := T94.setTop (mkF m 137 #[iv pa, iv pb, iv 2, iv 0, iv 519, iv 448, iv 448, iv 56, iv 519, iv 1023] [(.int 519), (.int 56)])) (fun t k => XS.iload X94.here hx rfl (hb hby at_135) rfl  k) ?_
      refine Go.pull (V := T94.setTop (mkF m 138 #[iv pa, iv pb, iv 2, iv 0, iv 519, iv 448, iv 448, iv 56, iv 519, iv 1023] [(.int 0)])) (fun t k => XS.iand X94.here hx rfl (hb hby at_137) rfl k) ?_
      refine Go.pull (V := T94.setTop (mkF m 143 #[iv pa, iv pb, iv 2, iv 0, iv 519, iv 448, iv 448, iv 56, iv 519, iv 1023] [])) (fun t k => XS.ifYes X94.here hx rfl (pc0 := 138) (pc' := 143) rfl (hb hby at_138) rfl (XT.i0_eq_t (by decide)) (by decide) (by decide) k) ?_
      refine Go.pull (V := T94.setTop (mkF m 144 #[iv pa, iv pb, iv 2, iv 0, iv 519, iv 448, iv 448, iv 56, iv 519, iv 1023] [(.int 2)])) (fun t k => XS.iloadN X94.here hx rfl (hb hby at_143) rfl  k) ?_
      refine Go.pull (V := T94.setTop (mkF m 145 #[iv pa, iv pb, iv 2, iv 0, iv 519, iv 448, iv 448, iv 56, iv 519, iv 1023] [(.int 0), (.int 2)])) (fun t k => XS.iloadN X94.here hx rfl (hb hby at_144) rfl  k) ?_
      refine Go.pull (V := T94.setTop (mkF m 148 #[iv pa, iv pb, iv 2, iv 0, iv 519, iv 448, iv 448, iv 56, iv 519, iv 1023] [])) (fun t k => XS.icmpNo X94.here hx rfl (hb hby at_145) rfl (XT.ii_eq_f (by decide)) k) ?_
      refine Go.pull (V := T94.setTop (mkF m 149 #[iv pa, iv pb, iv 2, iv 0, iv 519, iv 448, iv 448, iv 56, iv 519, iv 1023] [(.int 2)])) (fun t k => XS.iloadN X94.here hx rfl (hb hby at_148) rfl  k) ?_
      refine Go.pull (V := T94.setTop (mkF m 150 #[iv pa, iv pb, iv 2, iv 0, iv 519, iv 448, iv 448, iv 56, iv 519, iv 1023] [(.int 3), (.int 2)])) (fun t k => XS.iconst X94.here hx rfl (hb hby at_149) k) ?_
      refine Go.pull (V := T94.setTop (mkF m 153 #[iv pa, iv pb, iv 2, iv 0, iv 519, iv 448, iv 448, iv 56, iv 519, iv 1023] [])) (fun t k => XS.icmpNo X94.here hx rfl (hb hby at_150) rfl (XT.ii_eq_f (by decide)) k) ?_
      refine Go.pull (V := T94.setTop (mkF m 154 #[iv pa, iv pb, iv 2, iv 0, iv 519, iv 448, iv 448, iv 56, iv 519, iv 1023] [(.int 0)])) (fun t k => XS.iloadN X94.here hx rfl (hb hby at_153) rfl  k) ?_
      refine Go.pull (V := T94.setTop (mkF m 155 #[iv pa, iv pb, iv 2, iv 0, iv 519, iv 448, iv 448, iv 56, iv 519, iv 1023] [(.int 3), (.int 0)])) (fun t k => XS.iconst X94.here hx rfl (hb hby at_154) k) ?_
      refine Go.pull (V := T94.setTop (mkF m 158 #[iv pa, iv pb, iv 2, iv 0, iv 519, iv 448, iv 448, iv 56, iv 519, iv 1023] [])) (fun t k => XS.icmpNo X94.here hx rfl (hb hby at_155) rfl (XT.ii_eq_f (by decide)) k) ?_
      refine Go.pull (V := T94.setTop (mkF m 160 #[iv pa, iv pb, iv 2, iv 0, iv 519, iv 448, iv 448, iv 56, iv 519, iv 1023] [(.int 519)])) (fun t k => XS.iload X94.here hx rfl (hb hby at_158) rfl  k) ?_
      refine Go.pull (V := T94.setTop (mkF m 162 #[iv pa, iv pb, iv 2, iv 0, iv 519, iv 448, iv 448, iv 56, iv 519, iv 1023] [(.int 448), (.int 519)])) (fun t k => XS.iload X94.here hx rfl (hb hby at_160) rfl  k) ?_
      refine Go.pull (V := T94.setTop (mkF m 163 #[iv pa, iv pb, iv 2, iv 0, iv 519, iv 448, iv 448, iv 56, iv 519, iv 1023] [(.int 0)])) (fun t k => XS.iand X94.here hx rfl (hb hby at_162) rfl k) ?_
      refine Go.pull (V := T94.setTop (mkF m 168 #[iv pa, iv pb, iv 2, iv 0, iv 519, iv 448, iv 448, iv 56, iv 519, iv 1023] [])) (fun t k => XS.ifYes X94.here hx rfl (pc0 := 163) (pc' := 168) rfl (hb hby at_163) rfl (XT.i0_eq_t (by decide)) (by decide) (by decide) k) ?_
      refine Go.pull (V := T94.setTop (mkF m 170 #[iv pa, iv pb, iv 2, iv 0, iv 519, iv 448, iv 448, iv 56, iv 519, iv 1023] [(.int 519)])) (fun t k => XS.iload X94.here hx rfl (hb hby at_168) rfl  k) ?_
      refine Go.pull (V := T94.setTop (mkF m 173 #[iv pa, iv pb, iv 2, iv 0, iv 519, iv 448, iv 448, iv 56, iv 519, iv 1023] [(.int 512), (.int 519)])) (fun t k => XS.sipush X94.here hx rfl (hb hby at_170) k) ?_
      refine Go.pull (V := T94.setTop (mkF m 174 #[iv pa, iv pb, iv 2, iv 0, iv 519, iv 448, iv 448, iv 56, iv 519, iv 1023] [(.int 512)])) (fun t k => XS.iand X94.here hx rfl (hb hby at_173) rfl k) ?_
      refine Go.pull (V := T94.setTop (mkF m 177 #[iv pa, iv pb, iv 2, iv 0, iv 519, iv 448, iv 448, iv 56, iv 519, iv 1023] [])) (fun t k => XS.ifNo X94.here hx rfl (hb hby at_174) rfl (XT.i0_eq_f (by decide)) k) ?_
      refine Go.pull (V := T94.setTop (mkF m 179 #[iv pa, iv pb, iv 2, iv 0, iv 519, iv 448, iv 448, iv 56, iv 519, iv 1023] [(.int 448)])) (fun t k => XS.iload X94.here hx rfl (hb hby at_177) rfl  k) ?_
      refine Go.pull (V := T94.setTop (mkF m 181 #[iv pa, iv pb, iv 2, iv 0, iv 519, iv 448, iv 448, iv 56, iv 519, iv 1023] [(.int 56), (.int 448)])) (fun t k => XS.iload X94.here hx rfl (hb hby at_179) rfl  k) ?_
      refine Go.pull (V := T94.setTop (mkF m 182 #[iv pa, iv pb, iv 2, iv 0, iv 519, iv 448, iv 448, iv 56, iv 519, iv 1023] [(.int 504)])) (fun t k => XS.ior X94.here hx rfl (hb hby at_181) rfl k) ?_
      refine Go.pull (V := T94.setTop (mkF m 185 #[iv pa, iv pb, iv 2, iv 0, iv 519, iv 448, iv 448, iv 56, iv 519, iv 1023] [(.int 512), (.int 504)])) (fun t k => XS.sipush X94.here hx rfl (hb hby at_182) k) ?_
      refine Go.pull (V := T94.setTop (mkF m 186 #[iv pa, iv pb, iv 2, iv 0, iv 519, iv 448, iv 448, iv 56, iv 519, iv 1023] [(.int 0)])) (fun t k => XS.iand X94.here hx rfl (hb hby at_185) rfl k) ?_
      refine Go.pull (V := T94.setTop (mkF m 191 #[iv pa, iv pb, iv 2, iv 0, iv 519, iv 448, iv 448, iv 56, iv 519, iv 1023] [])) (fun t k => XS.ifYes X94.here hx rfl (pc0 := 186) (pc' := 191) rfl (hb hby at_186) rfl (XT.i0_eq_t (by decide)) (by decide) (by decide) k) ?_
      refine Go.pull (V := T94.setTop (mkF m 192 #[iv pa, iv pb, iv 2, iv 0, iv 519, iv 448, iv 448, iv 56, iv 519, iv 1023] [(.int 1)])) (fun t k => XS.iconst X94.here hx rfl (hb hby at_191) k) ?_
      exact Go.retN X94 hx Bd.notSynchronized (t := .boolean) Bd.returns (by simp) (hb hby at_192) ⟨rfl, N94⟩ (by decide) (by decide)
    · subst hv84
      refine Go.pull (V := s₁.setTop (mkF m 9 #[iv pa, iv pb, iv 2, iv 1, .unset, .unset, .unset, .unset, .unset, .unset] [(.int 2)])) (fun t k => XS.iloadN X0.here hx rfl (hb hby at_8) rfl  k) ?_
      obtain ⟨_, _, ⟨T95, L95, k95, n95⟩, -, X95, ⟨Lc95, hQ95, l95, y95, z95⟩, st95⟩ := Jvm.LawKit.callS X0 hx (y := (⟨"com/example/facl/facl/ModeSpecPartPinLaw", "letter", "(I)C"⟩ : MethodName)) hown (mvT hZ (hw _ (List.mem_of_getElem? (i := 0) rfl))) (mvT hZ (hw _ (List.mem_of_getElem? (i := 1) rfl))) (mvT hZ (hw _ (List.mem_of_getElem? (i := 2) rfl))) (mvT hZ (hw _ (List.mem_of_getElem? (i := 3) rfl))) (by decide) (backOf (W := 0) (rmL l Z a0 hw [] (2 : Int32) h0 n0 ) hZ (hw _ (List.mem_of_getElem? (i := 3) rfl)) (hw _ (List.mem_of_getElem? (i := 2) rfl)) (by decide) (by decide)) (g := (mkF m 9 #[iv pa, iv pb, iv 2, iv 1, .unset, .unset, .unset, .unset, .unset, .unset] [(.int 2)])) rfl (by rw [hml]; rfl) (argsL := [(.int 2)]) (rest := []) (lenOf pd_0 rfl) rfl (by show 2 * 0 + _ ≤ _; exact Nat.le_of_eq rfl) (hb hby at_9) (fun _ _ => ⟨rfl, e0, (by decide : 0 + 0 ≤ _), (by decide : 0 + 0 ≤ _)⟩)
      dsimp only [Pt.U, Pt.locs, Pt.cells, Pt.slots] at X95 l95 y95 z95 st95 hQ95
      subst l95 y95 z95
      obtain ⟨hv95, N95q, e95⟩ := hQ95
      rw [(show (own_letter (2 : Int32)) = (111 : Int32) from by decide)] at hv95; subst hv95
      have N95 := Fr.app N0 N95q
      refine Go.pull (V := T95.setTop (mkF m 12 #[iv pa, iv pb, iv 2, iv 1, .unset, .unset, .unset, .unset, .unset, .unset] [(.int 111)])) st95 ?_
      obtain ⟨_, _, ⟨T96, L96, k96, n96⟩, -, X96, ⟨Lc96, hQ96, l96, y96, z96⟩, st96⟩ := Jvm.LawKit.callS X95 hx (y := (⟨"com/example/facl/facl/ModeSpec", "part", "(C)I"⟩ : MethodName)) hown (mvT hZ (hw _ (List.mem_of_getElem? (i := 4) rfl))) (mvT hZ (hw _ (List.mem_of_getElem? (i := 5) rfl))) (mvT hZ (hw _ (List.mem_of_getElem? (i := 6) rfl))) (mvT hZ (hw _ (List.mem_of_getElem? (i := 7) rfl))) (by decide) (backOf (W := 0) (rmP l Z a0 hw [] (111 : Int32) h0 n0 (by decide)) hZ (hw _ (List.mem_of_getElem? (i := 7) rfl)) (hw _ (List.mem_of_getElem? (i := 6) rfl)) (by decide) (by decide)) (g := (mkF m 12 #[iv pa, iv pb, iv 2, iv 1, .unset, .unset, .unset, .unset, .unset, .unset] [(.int 111)])) rfl (by rw [hml]; rfl) (argsL := [(.int 111)]) (rest := []) (lenOf pd_1 rfl) rfl (by show 2 * 0 + _ ≤ _; exact Nat.le_of_eq rfl) (hb hby at_12) (fun _ _ => ⟨rfl, e95, (by decide : 0 + 0 ≤ _), (by decide : 0 + 0 ≤ _)⟩)
      dsimp only [Pt.U, Pt.locs, Pt.cells, Pt.slots] at X96 l96 y96 z96 st96 hQ96
      subst l96 y96 z96
      obtain ⟨hv96, N96q, e96⟩ := hQ96
      rw [(show (own_part (111 : Int32)) = (519 : Int32) from by decide)] at hv96; subst hv96
      have N96 := Fr.app N95 N96q
      refine Go.pull (V := T96.setTop (mkF m 15 #[iv pa, iv pb, iv 2, iv 1, .unset, .unset, .unset, .unset, .unset, .unset] [(.int 519)])) st96 ?_
      refine Go.pull (V := T96.setTop (mkF m 17 #[iv pa, iv pb, iv 2, iv 1, iv 519, .unset, .unset, .unset, .unset, .unset] [])) (fun t k => XS.istore X96.here hx rfl (hb hby at_15) rfl (l' := #[iv pa, iv pb, iv 2, iv 1, iv 519, .unset, .unset, .unset, .unset, .unset]) rfl k) ?_
      refine Go.pull (V := T96.setTop (mkF m 18 #[iv pa, iv pb, iv 2, iv 1, iv 519, .unset, .unset, .unset, .unset, .unset] [(.int 1)])) (fun t k => XS.iloadN X96.here hx rfl (hb hby at_17) rfl  k) ?_
      obtain ⟨_, _, ⟨T97, L97, k97, n97⟩, -, X97, ⟨Lc97, hQ97, l97, y97, z97⟩, st97⟩ := Jvm.LawKit.callS X96 hx (y := (⟨"com/example/facl/facl/ModeSpecPartPinLaw", "letter", "(I)C"⟩ : MethodName)) hown (mvT hZ (hw _ (List.mem_of_getElem? (i := 0) rfl))) (mvT hZ (hw _ (List.mem_of_getElem? (i := 1) rfl))) (mvT hZ (hw _ (List.mem_of_getElem? (i := 2) rfl))) (mvT hZ (hw _ (List.mem_of_getElem? (i := 3) rfl))) (by decide) (backOf (W := 0) (rmL l Z a0 hw [] (1 : Int32) h0 n0 ) hZ (hw _ (List.mem_of_getElem? (i := 3) rfl)) (hw _ (List.mem_of_getElem? (i := 2) rfl)) (by decide) (by decide)) (g := (mkF m 18 #[iv pa, iv pb, iv 2, iv 1, iv 519, .unset, .unset, .unset, .unset, .unset] [(.int 1)])) rfl (by rw [hml]; rfl) (argsL := [(.int 1)]) (rest := []) (lenOf pd_0 rfl) rfl (by show 2 * 0 + _ ≤ _; exact Nat.le_of_eq rfl) (hb hby at_18) (fun _ _ => ⟨rfl, e96, (by decide : 0 + 0 ≤ _), (by decide : 0 + 0 ≤ _)⟩)
      dsimp only [Pt.U, Pt.locs, Pt.cells, Pt.slots] at X97 l97 y97 z97 st97 hQ97
      subst l97 y97 z97
      obtain ⟨hv97, N97q, e97⟩ := hQ97
      rw [(show (own_letter (1 : Int32)) = (103 : Int32) from by decide)] at hv97; subst hv97
      have N97 := Fr.app N96 N97q
      refine Go.pull (V := T97.setTop (mkF m 21 #[iv pa, iv pb, iv 2, iv 1, iv 519, .unset, .unset, .unset, .unset, .unset] [(.int 103)])) st97 ?_
      obtain ⟨_, _, ⟨T98, L98, k98, n98⟩, -, X98, ⟨Lc98, hQ98, l98, y98, z98⟩, st98⟩ := Jvm.LawKit.callS X97 hx (y := (⟨"com/example/facl/facl/ModeSpec", "part", "(C)I"⟩ : MethodName)) hown (mvT hZ (hw _ (List.mem_of_getElem? (i := 4) rfl))) (mvT hZ (hw _ (List.mem_of_getElem? (i := 5) rfl))) (mvT hZ (hw _ (List.mem_of_getElem? (i := 6) rfl))) (mvT hZ (hw _ (List.mem_of_getElem? (i := 7) rfl))) (by decide) (backOf (W := 0) (rmP l Z a0 hw [] (103 : Int32) h0 n0 (by decide)) hZ (hw _ (List.mem_of_getElem? (i := 7) rfl)) (hw _ (List.mem_of_getElem? (i := 6) rfl)) (by decide) (by decide)) (g := (mkF m 21 #[iv pa, iv pb, iv 2, iv 1, iv 519, .unset, .unset, .unset, .unset, .unset] [(.int 103)])) rfl (by rw [hml]; rfl) (argsL := [(.int 103)]) (rest := []) (lenOf pd_1 rfl) rfl (by show 2 * 0 + _ ≤ _; exact Nat.le_of_eq rfl) (hb hby at_21) (fun _ _ => ⟨rfl, e97, (by decide : 0 + 0 ≤ _), (by decide : 0 + 0 ≤ _)⟩)
      dsimp only [Pt.U, Pt.locs, Pt.cells, Pt.slots] at X98 l98 y98 z98 st98 hQ98
      subst l98 y98 z98
      obtain ⟨hv98, N98q, e98⟩ := hQ98
      rw [(show (own_part (103 : Int32)) = (56 : Int32) from by decide)] at hv98; subst hv98
      have N98 := Fr.app N97 N98q
      refine Go.pull (V := T98.setTop (mkF m 24 #[iv pa, iv pb, iv 2, iv 1, iv 519, .unset, .unset, .unset, .unset, .unset] [(.int 56)])) st98 ?_
      refine Go.pull (V := T98.setTop (mkF m 26 #[iv pa, iv pb, iv 2, iv 1, iv 519, iv 56, .unset, .unset, .unset, .unset] [])) (fun t k => XS.istore X98.here hx rfl (hb hby at_24) rfl (l' := #[iv pa, iv pb, iv 2, iv 1, iv 519, iv 56, .unset, .unset, .unset, .unset]) rfl k) ?_
      refine Go.pull (V := T98.setTop (mkF m 28 #[iv pa, iv pb, iv 2, iv 1, iv 519, iv 56, .unset, .unset, .unset, .unset] [(.int 117)])) (fun t k => XS.bipush X98.here hx rfl (hb hby at_26) k) ?_
      obtain ⟨_, _, ⟨T99, L99, k99, n99⟩, -, X99, ⟨Lc99, hQ99, l99, y99, z99⟩, st99⟩ := Jvm.LawKit.callS X98 hx (y := (⟨"com/example/facl/facl/ModeSpec", "part", "(C)I"⟩ : MethodName)) hown (mvT hZ (hw _ (List.mem_of_getElem? (i := 4) rfl))) (mvT hZ (hw _ (List.mem_of_getElem? (i := 5) rfl))) (mvT hZ (hw _ (List.mem_of_getElem? (i := 6) rfl))) (mvT hZ (hw _ (List.mem_of_getElem? (i := 7) rfl))) (by decide) (backOf (W := 0) (rmP l Z a0 hw [] (117 : Int32) h0 n0 (by decide)) hZ (hw _ (List.mem_of_getElem? (i := 7) rfl)) (hw _ (List.mem_of_getElem? (i := 6) rfl)) (by decide) (by decide)) (g := (mkF m 28 #[iv pa, iv pb, iv 2, iv 1, iv 519, iv 56, .unset, .unset, .unset, .unset] [(.int 117)])) rfl (by rw [hml]; rfl) (argsL := [(.int 117)]) (rest := []) (lenOf pd_1 rfl) rfl (by show 2 * 0 + _ ≤ _; exact Nat.le_of_eq rfl) (hb hby at_28) (fun _ _ => ⟨rfl, e98, (by decide : 0 + 0 ≤ _), (by decide : 0 + 0 ≤ _)⟩)
      dsimp only [Pt.U, Pt.locs, Pt.cells, Pt.slots] at X99 l99 y99 z99 st99 hQ99
      subst l99 y99 z99
      obtain ⟨hv99, N99q, e99⟩ := hQ99
      rw [(show (own_part (117 : Int32)) = (448 : Int32) from by decide)] at hv99; subst hv99
      have N99 := Fr.app N98 N99q
      refine Go.pull (V := T99.setTop (mkF m 31 #[iv pa, iv pb, iv 2, iv 1, iv 519, iv 56, .unset, .unset, .unset, .unset] [(.int 448)])) st99 ?_
      refine Go.pull (V := T99.setTop (mkF m 33 #[iv pa, iv pb, iv 2, iv 1, iv 519, iv 56, iv 448, .unset, .unset, .unset] [])) (fun t k => XS.istore X99.here hx rfl (hb hby at_31) rfl (l' := #[iv pa, iv pb, iv 2, iv 1, iv 519, iv 56, iv 448, .unset, .unset, .unset]) rfl k) ?_
      refine Go.pull (V := T99.setTop (mkF m 35 #[iv pa, iv pb, iv 2, iv 1, iv 519, iv 56, iv 448, .unset, .unset, .unset] [(.int 103)])) (fun t k => XS.bipush X99.here hx rfl (hb hby at_33) k) ?_
      obtain ⟨_, _, ⟨T100, L100, k100, n100⟩, -, X100, ⟨Lc100, hQ100, l100, y100, z100⟩, st100⟩ := Jvm.LawKit.callS X99 hx (y := (⟨"com/example/facl/facl/ModeSpec", "part", "(C)I"⟩ : MethodName)) hown (mvT hZ (hw _ (List.mem_of_getElem? (i := 4) rfl))) (mvT hZ (hw _ (List.mem_of_getElem? (i := 5) rfl))) (mvT hZ (hw _ (List.mem_of_getElem? (i := 6) rfl))) (mvT hZ (hw _ (List.mem_of_getElem? (i := 7) rfl))) (by decide) (backOf (W := 0) (rmP l Z a0 hw [] (103 : Int32) h0 n0 (by decide)) hZ (hw _ (List.mem_of_getElem? (i := 7) rfl)) (hw _ (List.mem_of_getElem? (i := 6) rfl)) (by decide) (by decide)) (g := (mkF m 35 #[iv pa, iv pb, iv 2, iv 1, iv 519, iv 56, iv 448, .unset, .unset, .unset] [(.int 103)])) rfl (by rw [hml]; rfl) (argsL := [(.int 103)]) (rest := []) (lenOf pd_1 rfl) rfl (by show 2 * 0 + _ ≤ _; exact Nat.le_of_eq rfl) (hb hby at_35) (fun _ _ => ⟨rfl, e99, (by decide : 0 + 0 ≤ _), (by decide : 0 + 0 ≤ _)⟩)
      dsimp only [Pt.U, Pt.locs, Pt.cells, Pt.slots] at X100 l100 y100 z100 st100 hQ100
      subst l100 y100 z100
      obtain ⟨hv100, N100q, e100⟩ := hQ100
      rw [(show (own_part (103 : Int32)) = (56 : Int32) from by decide)] at hv100; subst hv100
      have N100 := Fr.app N99 N100q
      refine Go.pull (V := T100.setTop (mkF m 38 #[iv pa, iv pb, iv 2, iv 1, iv 519, iv 56, iv 448, .unset, .unset, .unset] [(.int 56)])) st100 ?_
      refine Go.pull (V := T100.setTop (mkF m 40 #[iv pa, iv pb, iv 2, iv 1, iv 519, iv 56, iv 448, iv 56, .unset, .unset] [])) (fun t k => XS.istore X100.here hx rfl (hb hby at_38) rfl (l' := #[iv pa, iv pb, iv 2, iv 1, iv 519, iv 56, iv 448, iv 56, .unset, .unset]) rfl k) ?_
      refine Go.pull (V := T100.setTop (mkF m 42 #[iv pa, iv pb, iv 2, iv 1, iv 519, iv 56, iv 448, iv 56, .unset, .unset] [(.int 111)])) (fun t k => XS.bipush X100.here hx rfl (hb hby at_40) k) ?_
      obtain ⟨_, _, ⟨T101, L101, k101, n101⟩, -, X101, ⟨Lc101, hQ101, l101, y101, z101⟩, st101⟩ := Jvm.LawKit.callS X100 hx (y := (⟨"com/example/facl/facl/ModeSpec", "part", "(C)I"⟩ : MethodName)) hown (mvT hZ (hw _ (List.mem_of_getElem? (i := 4) rfl))) (mvT hZ (hw _ (List.mem_of_getElem? (i := 5) rfl))) (mvT hZ (hw _ (List.mem_of_getElem? (i := 6) rfl))) (mvT hZ (hw _ (List.mem_of_getElem? (i := 7) rfl))) (by decide) (backOf (W := 0) (rmP l Z a0 hw [] (111 : Int32) h0 n0 (by decide)) hZ (hw _ (List.mem_of_getElem? (i := 7) rfl)) (hw _ (List.mem_of_getElem? (i := 6) rfl)) (by decide) (by decide)) (g := (mkF m 42 #[iv pa, iv pb, iv 2, iv 1, iv 519, iv 56, iv 448, iv 56, .unset, .unset] [(.int 111)])) rfl (by rw [hml]; rfl) (argsL := [(.int 111)]) (rest := []) (lenOf pd_1 rfl) rfl (by show 2 * 0 + _ ≤ _; exact Nat.le_of_eq rfl) (hb hby at_42) (fun _ _ => ⟨rfl, e100, (by decide : 0 + 0 ≤ _), (by decide : 0 + 0 ≤ _)⟩)
      dsimp only [Pt.U, Pt.locs, Pt.cells, Pt.slots] at X101 l101 y101 z101 st101 hQ101
      subst l101 y101 z101
      obtain ⟨hv101, N101q, e101⟩ := hQ101
      rw [(show (own_part (111 : Int32)) = (519 : Int32) from by decide)] at hv101; subst hv101
      have N101 := Fr.app N100 N101q
      refine Go.pull (V := T101.setTop (mkF m 45 #[iv pa, iv pb, iv 2, iv 1, iv 519, iv 56, iv 448, iv 56, .unset, .unset] [(.int 519)])) st101 ?_
      refine Go.pull (V := T101.setTop (mkF m 47 #[iv pa, iv pb, iv 2, iv 1, iv 519, iv 56, iv 448, iv 56, iv 519, .unset] [])) (fun t k => XS.istore X101.here hx rfl (hb hby at_45) rfl (l' := #[iv pa, iv pb, iv 2, iv 1, iv 519, iv 56, iv 448, iv 56, iv 519, .unset]) rfl k) ?_
      refine Go.pull (V := T101.setTop (mkF m 49 #[iv pa, iv pb, iv 2, iv 1, iv 519, iv 56, iv 448, iv 56, iv 519, .unset] [(.int 97)])) (fun t k => XS.bipush X101.here hx rfl (hb hby at_47) k) ?_
      obtain ⟨_, _, ⟨T102, L102, k102, n102⟩, -, X102, ⟨Lc102, hQ102, l102, y102, z102⟩, st102⟩ := Jvm.LawKit.callS X101 hx (y := (⟨"com/example/facl/facl/ModeSpec", "part", "(C)I"⟩ : MethodName)) hown (mvT hZ (hw _ (List.mem_of_getElem? (i := 4) rfl))) (mvT hZ (hw _ (List.mem_of_getElem? (i := 5) rfl))) (mvT hZ (hw _ (List.mem_of_getElem? (i := 6) rfl))) (mvT hZ (hw _ (List.mem_of_getElem? (i := 7) rfl))) (by decide) (backOf (W := 0) (rmP l Z a0 hw [] (97 : Int32) h0 n0 (by decide)) hZ (hw _ (List.mem_of_getElem? (i := 7) rfl)) (hw _ (List.mem_of_getElem? (i := 6) rfl)) (by decide) (by decide)) (g := (mkF m 49 #[iv pa, iv pb, iv 2, iv 1, iv 519, iv 56, iv 448, iv 56, iv 519, .unset] [(.int 97)])) rfl (by rw [hml]; rfl) (argsL := [(.int 97)]) (rest := []) (lenOf pd_1 rfl) rfl (by show 2 * 0 + _ ≤ _; exact Nat.le_of_eq rfl) (hb hby at_49) (fun _ _ => ⟨rfl, e101, (by decide : 0 + 0 ≤ _), (by decide : 0 + 0 ≤ _)⟩)
      dsimp only [Pt.U, Pt.locs, Pt.cells, Pt.slots] at X102 l102 y102 z102 st102 hQ102
      subst l102 y102 z102
      obtain ⟨hv102, N102q, e102⟩ := hQ102
      rw [(show (own_part (97 : Int32)) = (1023 : Int32) from by decide)] at hv102; subst hv102
      have N102 := Fr.app N101 N102q
      refine Go.pull (V := T102.setTop (mkF m 52 #[iv pa, iv pb, iv 2, iv 1, iv 519, iv 56, iv 448, iv 56, iv 519, .unset] [(.int 1023)])) st102 ?_
      refine Go.pull (V := T102.setTop (mkF m 54 #[iv pa, iv pb, iv 2, iv 1, iv 519, iv 56, iv 448, iv 56, iv 519, iv 1023] [])) (fun t k => XS.istore X102.here hx rfl (hb hby at_52) rfl (l' := #[iv pa, iv pb, iv 2, iv 1, iv 519, iv 56, iv 448, iv 56, iv 519, iv 1023]) rfl k) ?_
      refine Go.pull (V := T102.setTop (mkF m 56 #[iv pa, iv pb, iv 2, iv 1, iv 519, iv 56, iv 448, iv 56, iv 519, iv 1023] [(.int 519)])) (fun t k => XS.iload X102.here hx rfl (hb hby at_54) rfl  k) ?_
      refine Go.pull (V := T102.setTop (mkF m 57 #[iv pa, iv pb, iv 2, iv 1, iv 519, iv 56, iv 448, iv 56, iv 519, iv 1023] [(.int 2), (.int 519)])) (fun t k => XS.iloadN X102.here hx rfl (hb hby at_56) rfl  k) ?_
      obtain ⟨_, _, ⟨T103, L103, k103, n103⟩, -, X103, ⟨Lc103, hQ103, l103, y103, z103⟩, st103⟩ := Jvm.LawKit.callS X102 hx (y := (⟨"com/example/facl/facl/ModeSpecPartPinLaw", "expected", "(I)I"⟩ : MethodName)) hown (mvT hZ (hw _ (List.mem_of_getElem? (i := 8) rfl))) (mvT hZ (hw _ (List.mem_of_getElem? (i := 9) rfl))) (mvT hZ (hw _ (List.mem_of_getElem? (i := 2) rfl))) (mvT hZ (hw _ (List.mem_of_getElem? (i := 10) rfl))) (by decide) (backOf (W := 1) (rmX l Z a0 hw [] (2 : Int32) h0 n0 ) hZ (hw _ (List.mem_of_getElem? (i := 10) rfl)) (hw _ (List.mem_of_getElem? (i := 2) rfl)) (by decide) (by decide)) (g := (mkF m 57 #[iv pa, iv pb, iv 2, iv 1, iv 519, iv 56, iv 448, iv 56, iv 519, iv 1023] [(.int 2), (.int 519)])) rfl (by rw [hml]; rfl) (argsL := [(.int 2)]) (rest := [(.int 519)]) (lenOf pd_2 rfl) rfl (by show 2 * 0 + _ ≤ _; exact Nat.le_of_eq rfl) (hb hby at_57) (fun _ _ => ⟨rfl, e102, (by decide : 0 + 0 ≤ _), (by decide : 0 + 0 ≤ _)⟩)
      dsimp only [Pt.U, Pt.locs, Pt.cells, Pt.slots] at X103 l103 y103 z103 st103 hQ103
      subst l103 y103 z103
      obtain ⟨hv103, N103q, e103⟩ := hQ103
      rw [(show (own_expected (2 : Int32)) = (519 : Int32) from by decide)] at hv103; subst hv103
      have N103 := Fr.app N102 N103q
      refine Go.pull (V := T103.setTop (mkF m 60 #[iv pa, iv pb, iv 2, iv 1, iv 519, iv 56, iv 448, iv 56, iv 519, iv 1023] [(.int 519), (.int 519)])) st103 ?_
      refine Go.pull (V := T103.setTop (mkF m 63 #[iv pa, iv pb, iv 2, iv 1, iv 519, iv 56, iv 448, iv 56, iv 519, iv 1023] [])) (fun t k => XS.icmpNo X103.here hx rfl (hb hby at_60) rfl (XT.ii_ne_f (by decide)) k) ?_
      refine Go.pull (V := T103.setTop (mkF m 65 #[iv pa, iv pb, iv 2, iv 1, iv 519, iv 56, iv 448, iv 56, iv 519, iv 1023] [(.int 56)])) (fun t k => XS.iload X103.here hx rfl (hb hby at_63) rfl  k) ?_
      refine Go.pull (V := T103.setTop (mkF m 66 #[iv pa, iv pb, iv 2, iv 1, iv 519, iv 56, iv 448, iv 56, iv 519, iv 1023] [(.int 1), (.int 56)])) (fun t k => XS.iloadN X103.here hx rfl (hb hby at_65) rfl  k) ?_
      obtain ⟨_, _, ⟨T104, L104, k104, n104⟩, -, X104, ⟨Lc104, hQ104, l104, y104, z104⟩, st104⟩ := Jvm.LawKit.callS X103 hx (y := (⟨"com/example/facl/facl/ModeSpecPartPinLaw", "expected", "(I)I"⟩ : MethodName)) hown (mvT hZ (hw _ (List.mem_of_getElem? (i := 8) rfl))) (mvT hZ (hw _ (List.mem_of_getElem? (i := 9) rfl))) (mvT hZ (hw _ (List.mem_of_getElem? (i := 2) rfl))) (mvT hZ (hw _ (List.mem_of_getElem? (i := 10) rfl))) (by decide) (backOf (W := 1) (rmX l Z a0 hw [] (1 : Int32) h0 n0 ) hZ (hw _ (List.mem_of_getElem? (i := 10) rfl)) (hw _ (List.mem_of_getElem? (i := 2) rfl)) (by decide) (by decide)) (g := (mkF m 66 #[iv pa, iv pb, iv 2, iv 1, iv 519, iv 56, iv 448, iv 56, iv 519, iv 1023] [(.int 1), (.int 56)])) rfl (by rw [hml]; rfl) (argsL := [(.int 1)]) (rest := [(.int 56)]) (lenOf pd_2 rfl) rfl (by show 2 * 0 + _ ≤ _; exact Nat.le_of_eq rfl) (hb hby at_66) (fun _ _ => ⟨rfl, e103, (by decide : 0 + 0 ≤ _), (by decide : 0 + 0 ≤ _)⟩)
      dsimp only [Pt.U, Pt.locs, Pt.cells, Pt.slots] at X104 l104 y104 z104 st104 hQ104
      subst l104 y104 z104
      obtain ⟨hv104, N104q, e104⟩ := hQ104
      rw [(show (own_expected (1 : Int32)) = (56 : Int32) from by decide)] at hv104; subst hv104
      have N104 := Fr.app N103 N104q
      refine Go.pull (V := T104.setTop (mkF m 69 #[iv pa, iv pb, iv 2, iv 1, iv 519, iv 56, iv 448, iv 56, iv 519, iv 1023] [(.int 56), (.int 56)])) st104 ?_
      refine Go.pull (V := T104.setTop (mkF m 74 #[iv pa, iv pb, iv 2, iv 1, iv 519, iv 56, iv 448, iv 56, iv 519, iv 1023] [])) (fun t k => XS.icmpYes X104.here hx rfl (pc0 := 69) (pc' := 74) rfl (hb hby at_69) rfl (XT.ii_eq_t (by decide)) (by decide) (by decide) k) ?_
      refine Go.pull (V := T104.setTop (mkF m 76 #[iv pa, iv pb, iv 2, iv 1, iv 519, iv 56, iv 448, iv 56, iv 519, iv 1023] [(.int 519)])) (fun t k => XS.iload X104.here hx rfl (hb hby at_74) rfl  k) ?_
      refine Go.pull (V := T104.setTop (mkF m 79 #[iv pa, iv pb, iv 2, iv 1, iv 519, iv 56, iv 448, iv 56, iv 519, iv 1023] [(.int (-1024)), (.int 519)])) (fun t k => XS.sipush X104.here hx rfl (hb hby at_76) k) ?_
      refine Go.pull (V := T104.setTop (mkF m 80 #[iv pa, iv pb, iv 2, iv 1, iv 519, iv 56, iv 448, iv 56, iv 519, iv 1023] [(.int 0)])) (fun t k => XS.iand X104.here hx rfl (hb hby at_79) rfl k) ?_
      refine Go.pull (V := T104.setTop (mkF m 83 #[iv pa, iv pb, iv 2, iv 1, iv 519, iv 56, iv 448, iv 56, iv 519, iv 1023] [])) (fun t k => XS.ifNo X104.here hx rfl (hb hby at_80) rfl (XT.i0_ne_f (by decide)) k) ?_
      refine Go.pull (V := T104.setTop (mkF m 85 #[iv pa, iv pb, iv 2, iv 1, iv 519, iv 56, iv 448, iv 56, iv 519, iv 1023] [(.int 56)])) (fun t k => XS.iload X104.here hx rfl (hb hby at_83) rfl  k) ?_
      refine Go.pull (V := T104.setTop (mkF m 88 #[iv pa, iv pb, iv 2, iv 1, iv 519, iv 56, iv 448, iv 56, iv 519, iv 1023] [(.int (-1024)), (.int 56)])) (fun t k => XS.sipush X104.here hx rfl (hb hby at_85) k) ?_
      refine Go.pull (V := T104.setTop (mkF m 89 #[iv pa, iv pb, iv 2, iv 1, iv 519, iv 56, iv 448, iv 56, iv 519, iv 1023] [(.int 0)])) (fun t k => XS.iand X104.here hx rfl (hb hby at_88) rfl k) ?_
      refine Go.pull (V := T104.setTop (mkF m 94 #[iv pa, iv pb, iv 2, iv 1, iv 519, iv 56, iv 448, iv 56, iv 519, iv 1023] [])) (fun t k => XS.ifYes X104.here hx rfl (pc0 := 89) (pc' := 94) rfl (hb hby at_89) rfl (XT.i0_eq_t (by decide)) (by decide) (by decide) k) ?_
      refine Go.pull (V := T104.setTop (mkF m 96 #[iv pa, iv pb, iv 2, iv 1, iv 519, iv 56, iv 448, iv 56, iv 519, iv 1023] [(.int 1023)])) (fun t k => XS.iload X104.here hx rfl (hb hby at_94) rfl  k) ?_
      refine Go.pull (V := T104.setTop (mkF m 99 #[iv pa, iv pb, iv 2, iv 1, iv 519, iv 56, iv 448, iv 56, iv 519, iv 1023] [(.int 1023), (.int 1023)])) (fun t k => XS.sipush X104.here hx rfl (hb hby at_96) k) ?_
      refine Go.pull (V := T104.setTop (mkF m 102 #[iv pa, iv pb, iv 2, iv 1, iv 519, iv 56, iv 448, iv 56, iv 519, iv 1023] [])) (fun t k => XS.icmpNo X104.here hx rfl (hb hby at_99) rfl (XT.ii_ne_f (by decide)) k) ?_
      refine Go.pull (V := T104.setTop (mkF m 104 #[iv pa, iv pb, iv 2, iv 1, iv 519, iv 56, iv 448, iv 56, iv 519, iv 1023] [(.int 448)])) (fun t k => XS.iload X104.here hx rfl (hb hby at_102) rfl  k) ?_
      refine Go.pull (V := T104.setTop (mkF m 106 #[iv pa, iv pb, iv 2, iv 1, iv 519, iv 56, iv 448, iv 56, iv 519, iv 1023] [(.int 56), (.int 448)])) (fun t k => XS.iload X104.here hx rfl (hb hby at_104) rfl  k) ?_
      refine Go.pull (V := T104.setTop (mkF m 107 #[iv pa, iv pb, iv 2, iv 1, iv 519, iv 56, iv 448, iv 56, iv 519, iv 1023] [(.int 504)])) (fun t k => XS.ior X104.here hx rfl (hb hby at_106) rfl k) ?_
      refine Go.pull (V := T104.setTop (mkF m 109 #[iv pa, iv pb, iv 2, iv 1, iv 519, iv 56, iv 448, iv 56, iv 519, iv 1023] [(.int 519), (.int 504)])) (fun t k => XS.iload X104.here hx rfl (hb hby at_107) rfl  k) ?_
      refine Go.pull (V := T104.setTop (mkF m 110 #[iv pa, iv pb, iv 2, iv 1, iv 519, iv 56, iv 448, iv 56, iv 519, iv 1023] [(.int 1023)])) (fun t k => XS.ior X104.here hx rfl (hb hby at_109) rfl k) ?_
      refine Go.pull (V := T104.setTop (mkF m 112 #[iv pa, iv pb, iv 2, iv 1, iv 519, iv 56, iv 448, iv 56, iv 519, iv 1023] [(.int 1023), (.int 1023)])) (fun t k => XS.iload X104.here hx rfl (hb hby at_110) rfl  k) ?_
      refine Go.pull (V := T104.setTop (mkF m 117 #[iv pa, iv pb, iv 2, iv 1, iv 519, iv 56, iv 448, iv 56, iv 519, iv 1023] [])) (fun t k => XS.icmpYes X104.here hx rfl (pc0 := 112) (pc' := 117) rfl (hb hby at_112) rfl (XT.ii_eq_t (by decide)) (by decide) (by decide) k) ?_
      refine Go.pull (V := T104.setTop (mkF m 119 #[iv pa, iv pb, iv 2, iv 1, iv 519, iv 56, iv 448, iv 56, iv 519, iv 1023] [(.int 448)])) (fun t k => XS.iload X104.here hx rfl (hb hby at_117) rfl  k) ?_
      refine Go.pull (V := T104.setTop (mkF m 121 #[iv pa, iv pb, iv 2, iv 1, iv 519, iv 56, iv 448, iv 56, iv 519, iv 1023] [(.int 56), (.int 448)])) (fun t k => XS.iload X104.here hx rfl (hb hby at_119) rfl  k) ?_
      refine Go.pull (V := T104.setTop (mkF m 122 #[iv pa, iv pb, iv 2, iv 1, iv 519, iv 56, iv 448, iv 56, iv 519, iv 1023] [(.int 0)])) (fun t k => XS.iand X104.here hx rfl (hb hby at_121) rfl k) ?_
      refine Go.pull (V := T104.setTop (mkF m 125 #[iv pa, iv pb, iv 2, iv 1, iv 519, iv 56, iv 448, iv 56, iv 519, iv 1023] [])) (fun t k => XS.ifNo X104.here hx rfl (hb hby at_122) rfl (XT.i0_ne_f (by decide)) k) ?_
      refine Go.pull (V := T104.setTop (mkF m 127 #[iv pa, iv pb, iv 2, iv 1, iv 519, iv 56, iv 448, iv 56, iv 519, iv 1023] [(.int 448)])) (fun t k => XS.iload X104.here hx rfl (hb hby at_125) rfl  k) ?_
      refine Go.pull (V := T104.setTop (mkF m 129 #[iv pa, iv pb, iv 2, iv 1, iv 519, iv 56, iv 448, iv 56, iv 519, iv 1023] [(.int 519), (.int 448)])) (fun t k => XS.iload X104.here hx rfl (hb hby at_127) rfl  k) ?_
      refine Go.pull (V := T104.setTop (mkF m 130 #[iv pa, iv pb, iv 2, iv 1, iv 519, iv 56, iv 448, iv 56, iv 519, iv 1023] [(.int 0)])) (fun t k => XS.iand X104.here hx rfl (hb hby at_129) rfl k) ?_
      refine Go.pull (V := T104.setTop (mkF m 133 #[iv pa, iv pb, iv 2, iv 1, iv 519, iv 56, iv 448, iv 56, iv 519, iv 1023] [])) (fun t k => XS.ifNo X104.here hx rfl (hb hby at_130) rfl (XT.i0_ne_f (by decide)) k) ?_
      refine Go.pull (V := T104.setTop (mkF m 135 #[iv pa, iv pb, iv 2, iv 1, iv 519, iv 56, iv 448, iv 56, iv 519, iv 1023] [(.int 56)])) (fun t k => XS.iload X104.here hx rfl (hb hby at_133) rfl  k) ?_
      refine Go.pull (V := T104.setTop (mkF m 137 #[iv pa, iv pb, iv 2, iv 1, iv 519, iv 56, iv 448, iv 56, iv 519, iv 1023] [(.int 519), (.int 56)])) (fun t k => XS.iload X104.here hx rfl (hb hby at_135) rfl  k) ?_
      refine Go.pull (V := T104.setTop (mkF m 138 #[iv pa, iv pb, iv 2, iv 1, iv 519, iv 56, iv 448, iv 56, iv 519, iv 1023] [(.int 0)])) (fun t k => XS.iand X104.here hx rfl (hb hby at_137) rfl k) ?_
      refine Go.pull (V := T104.setTop (mkF m 143 #[iv pa, iv pb, iv 2, iv 1, iv 519, iv 56, iv 448, iv 56, iv 519, iv 1023] [])) (fun t k => XS.ifYes X104.here hx rfl (pc0 := 138) (pc' := 143) rfl (hb hby at_138) rfl (XT.i0_eq_t (by decide)) (by decide) (by decide) k) ?_
      refine Go.pull (V := T104.setTop (mkF m 144 #[iv pa, iv pb, iv 2, iv 1, iv 519, iv 56, iv 448, iv 56, iv 519, iv 1023] [(.int 2)])) (fun t k => XS.iloadN X104.here hx rfl (hb hby at_143) rfl  k) ?_
      refine Go.pull (V := T104.setTop (mkF m 145 #[iv pa, iv pb, iv 2, iv 1, iv 519, iv 56, iv 448, iv 56, iv 519, iv 1023] [(.int 1), (.int 2)])) (fun t k => XS.iloadN X104.here hx rfl (hb hby at_144) rfl  k) ?_
      refine Go.pull (V := T104.setTop (mkF m 148 #[iv pa, iv pb, iv 2, iv 1, iv 519, iv 56, iv 448, iv 56, iv 519, iv 1023] [])) (fun t k => XS.icmpNo X104.here hx rfl (hb hby at_145) rfl (XT.ii_eq_f (by decide)) k) ?_
      refine Go.pull (V := T104.setTop (mkF m 149 #[iv pa, iv pb, iv 2, iv 1, iv 519, iv 56, iv 448, iv 56, iv 519, iv 1023] [(.int 2)])) (fun t k => XS.iloadN X104.here hx rfl (hb hby at_148) rfl  k) ?_
      refine Go.pull (V := T104.setTop (mkF m 150 #[iv pa, iv pb, iv 2, iv 1, iv 519, iv 56, iv 448, iv 56, iv 519, iv 1023] [(.int 3), (.int 2)])) (fun t k => XS.iconst X104.here hx rfl (hb hby at_149) k) ?_
      refine Go.pull (V := T104.setTop (mkF m 153 #[iv pa, iv pb, iv 2, iv 1, iv 519, iv 56, iv 448, iv 56, iv 519, iv 1023] [])) (fun t k => XS.icmpNo X104.here hx rfl (hb hby at_150) rfl (XT.ii_eq_f (by decide)) k) ?_
      refine Go.pull (V := T104.setTop (mkF m 154 #[iv pa, iv pb, iv 2, iv 1, iv 519, iv 56, iv 448, iv 56, iv 519, iv 1023] [(.int 1)])) (fun t k => XS.iloadN X104.here hx rfl (hb hby at_153) rfl  k) ?_
      refine Go.pull (V := T104.setTop (mkF m 155 #[iv pa, iv pb, iv 2, iv 1, iv 519, iv 56, iv 448, iv 56, iv 519, iv 1023] [(.int 3), (.int 1)])) (fun t k => XS.iconst X104.here hx rfl (hb hby at_154) k) ?_
      refine Go.pull (V := T104.setTop (mkF m 158 #[iv pa, iv pb, iv 2, iv 1, iv 519, iv 56, iv 448, iv 56, iv 519, iv 1023] [])) (fun t k => XS.icmpNo X104.here hx rfl (hb hby at_155) rfl (XT.ii_eq_f (by decide)) k) ?_
      refine Go.pull (V := T104.setTop (mkF m 160 #[iv pa, iv pb, iv 2, iv 1, iv 519, iv 56, iv 448, iv 56, iv 519, iv 1023] [(.int 519)])) (fun t k => XS.iload X104.here hx rfl (hb hby at_158) rfl  k) ?_
      refine Go.pull (V := T104.setTop (mkF m 162 #[iv pa, iv pb, iv 2, iv 1, iv 519, iv 56, iv 448, iv 56, iv 519, iv 1023] [(.int 56), (.int 519)])) (fun t k => XS.iload X104.here hx rfl (hb hby at_160) rfl  k) ?_
      refine Go.pull (V := T104.setTop (mkF m 163 #[iv pa, iv pb, iv 2, iv 1, iv 519, iv 56, iv 448, iv 56, iv 519, iv 1023] [(.int 0)])) (fun t k => XS.iand X104.here hx rfl (hb hby at_162) rfl k) ?_
      refine Go.pull (V := T104.setTop (mkF m 168 #[iv pa, iv pb, iv 2, iv 1, iv 519, iv 56, iv 448, iv 56, iv 519, iv 1023] [])) (fun t k => XS.ifYes X104.here hx rfl (pc0 := 163) (pc' := 168) rfl (hb hby at_163) rfl (XT.i0_eq_t (by decide)) (by decide) (by decide) k) ?_
      refine Go.pull (V := T104.setTop (mkF m 170 #[iv pa, iv pb, iv 2, iv 1, iv 519, iv 56, iv 448, iv 56, iv 519, iv 1023] [(.int 519)])) (fun t k => XS.iload X104.here hx rfl (hb hby at_168) rfl  k) ?_
      refine Go.pull (V := T104.setTop (mkF m 173 #[iv pa, iv pb, iv 2, iv 1, iv 519, iv 56, iv 448, iv 56, iv 519, iv 1023] [(.int 512), (.int 519)])) (fun t k => XS.sipush X104.here hx rfl (hb hby at_170) k) ?_
      refine Go.pull (V := T104.setTop (mkF m 174 #[iv pa, iv pb, iv 2, iv 1, iv 519, iv 56, iv 448, iv 56, iv 519, iv 1023] [(.int 512)])) (fun t k => XS.iand X104.here hx rfl (hb hby at_173) rfl k) ?_
      refine Go.pull (V := T104.setTop (mkF m 177 #[iv pa, iv pb, iv 2, iv 1, iv 519, iv 56, iv 448, iv 56, iv 519, iv 1023] [])) (fun t k => XS.ifNo X104.here hx rfl (hb hby at_174) rfl (XT.i0_eq_f (by decide)) k) ?_
      refine Go.pull (V := T104.setTop (mkF m 179 #[iv pa, iv pb, iv 2, iv 1, iv 519, iv 56, iv 448, iv 56, iv 519, iv 1023] [(.int 448)])) (fun t k => XS.iload X104.here hx rfl (hb hby at_177) rfl  k) ?_
      refine Go.pull (V := T104.setTop (mkF m 181 #[iv pa, iv pb, iv 2, iv 1, iv 519, iv 56, iv 448, iv 56, iv 519, iv 1023] [(.int 56), (.int 448)])) (fun t k => XS.iload X104.here hx rfl (hb hby at_179) rfl  k) ?_
      refine Go.pull (V := T104.setTop (mkF m 182 #[iv pa, iv pb, iv 2, iv 1, iv 519, iv 56, iv 448, iv 56, iv 519, iv 1023] [(.int 504)])) (fun t k => XS.ior X104.here hx rfl (hb hby at_181) rfl k) ?_
      refine Go.pull (V := T104.setTop (mkF m 185 #[iv pa, iv pb, iv 2, iv 1, iv 519, iv 56, iv 448, iv 56, iv 519, iv 1023] [(.int 512), (.int 504)])) (fun t k => XS.sipush X104.here hx rfl (hb hby at_182) k) ?_
      refine Go.pull (V := T104.setTop (mkF m 186 #[iv pa, iv pb, iv 2, iv 1, iv 519, iv 56, iv 448, iv 56, iv 519, iv 1023] [(.int 0)])) (fun t k => XS.iand X104.here hx rfl (hb hby at_185) rfl k) ?_
      refine Go.pull (V := T104.setTop (mkF m 191 #[iv pa, iv pb, iv 2, iv 1, iv 519, iv 56, iv 448, iv 56, iv 519, iv 1023] [])) (fun t k => XS.ifYes X104.here hx rfl (pc0 := 186) (pc' := 191) rfl (hb hby at_186) rfl (XT.i0_eq_t (by decide)) (by decide) (by decide) k) ?_
      refine Go.pull (V := T104.setTop (mkF m 192 #[iv pa, iv pb, iv 2, iv 1, iv 519, iv 56, iv 448, iv 56, iv 519, iv 1023] [(.int 1)])) (fun t k => XS.iconst X104.here hx rfl (hb hby at_191) k) ?_
      exact Go.retN X104 hx Bd.notSynchronized (t := .boolean) Bd.returns (by simp) (hb hby at_192) ⟨rfl, N104⟩ (by decide) (by decide)
    · subst hv84
      refine Go.pull (V := s₁.setTop (mkF m 9 #[iv pa, iv pb, iv 2, iv 2, .unset, .unset, .unset, .unset, .unset, .unset] [(.int 2)])) (fun t k => XS.iloadN X0.here hx rfl (hb hby at_8) rfl  k) ?_
      obtain ⟨_, _, ⟨T105, L105, k105, n105⟩, -, X105, ⟨Lc105, hQ105, l105, y105, z105⟩, st105⟩ := Jvm.LawKit.callS X0 hx (y := (⟨"com/example/facl/facl/ModeSpecPartPinLaw", "letter", "(I)C"⟩ : MethodName)) hown (mvT hZ (hw _ (List.mem_of_getElem? (i := 0) rfl))) (mvT hZ (hw _ (List.mem_of_getElem? (i := 1) rfl))) (mvT hZ (hw _ (List.mem_of_getElem? (i := 2) rfl))) (mvT hZ (hw _ (List.mem_of_getElem? (i := 3) rfl))) (by decide) (backOf (W := 0) (rmL l Z a0 hw [] (2 : Int32) h0 n0 ) hZ (hw _ (List.mem_of_getElem? (i := 3) rfl)) (hw _ (List.mem_of_getElem? (i := 2) rfl)) (by decide) (by decide)) (g := (mkF m 9 #[iv pa, iv pb, iv 2, iv 2, .unset, .unset, .unset, .unset, .unset, .unset] [(.int 2)])) rfl (by rw [hml]; rfl) (argsL := [(.int 2)]) (rest := []) (lenOf pd_0 rfl) rfl (by show 2 * 0 + _ ≤ _; exact Nat.le_of_eq rfl) (hb hby at_9) (fun _ _ => ⟨rfl, e0, (by decide : 0 + 0 ≤ _), (by decide : 0 + 0 ≤ _)⟩)
      dsimp only [Pt.U, Pt.locs, Pt.cells, Pt.slots] at X105 l105 y105 z105 st105 hQ105
      subst l105 y105 z105
      obtain ⟨hv105, N105q, e105⟩ := hQ105
      rw [(show (own_letter (2 : Int32)) = (111 : Int32) from by decide)] at hv105; subst hv105
      have N105 := Fr.app N0 N105q
      refine Go.pull (V := T105.setTop (mkF m 12 #[iv pa, iv pb, iv 2, iv 2, .unset, .unset, .unset, .unset, .unset, .unset] [(.int 111)])) st105 ?_
      obtain ⟨_, _, ⟨T106, L106, k106, n106⟩, -, X106, ⟨Lc106, hQ106, l106, y106, z106⟩, st106⟩ := Jvm.LawKit.callS X105 hx (y := (⟨"com/example/facl/facl/ModeSpec", "part", "(C)I"⟩ : MethodName)) hown (mvT hZ (hw _ (List.mem_of_getElem? (i := 4) rfl))) (mvT hZ (hw _ (List.mem_of_getElem? (i := 5) rfl))) (mvT hZ (hw _ (List.mem_of_getElem? (i := 6) rfl))) (mvT hZ (hw _ (List.mem_of_getElem? (i := 7) rfl))) (by decide) (backOf (W := 0) (rmP l Z a0 hw [] (111 : Int32) h0 n0 (by decide)) hZ (hw _ (List.mem_of_getElem? (i := 7) rfl)) (hw _ (List.mem_of_getElem? (i := 6) rfl)) (by decide) (by decide)) (g := (mkF m 12 #[iv pa, iv pb, iv 2, iv 2, .unset, .unset, .unset, .unset, .unset, .unset] [(.int 111)])) rfl (by rw [hml]; rfl) (argsL := [(.int 111)]) (rest := []) (lenOf pd_1 rfl) rfl (by show 2 * 0 + _ ≤ _; exact Nat.le_of_eq rfl) (hb hby at_12) (fun _ _ => ⟨rfl, e105, (by decide : 0 + 0 ≤ _), (by decide : 0 + 0 ≤ _)⟩)
      dsimp only [Pt.U, Pt.locs, Pt.cells, Pt.slots] at X106 l106 y106 z106 st106 hQ106
      subst l106 y106 z106
      obtain ⟨hv106, N106q, e106⟩ := hQ106
      rw [(show (own_part (111 : Int32)) = (519 : Int32) from by decide)] at hv106; subst hv106
      have N106 := Fr.app N105 N106q
      refine Go.pull (V := T106.setTop (mkF m 15 #[iv pa, iv pb, iv 2, iv 2, .unset, .unset, .unset, .unset, .unset, .unset] [(.int 519)])) st106 ?_
      refine Go.pull (V := T106.setTop (mkF m 17 #[iv pa, iv pb, iv 2, iv 2, iv 519, .unset, .unset, .unset, .unset, .unset] [])) (fun t k => XS.istore X106.here hx rfl (hb hby at_15) rfl (l' := #[iv pa, iv pb, iv 2, iv 2, iv 519, .unset, .unset, .unset, .unset, .unset]) rfl k) ?_
      refine Go.pull (V := T106.setTop (mkF m 18 #[iv pa, iv pb, iv 2, iv 2, iv 519, .unset, .unset, .unset, .unset, .unset] [(.int 2)])) (fun t k => XS.iloadN X106.here hx rfl (hb hby at_17) rfl  k) ?_
      obtain ⟨_, _, ⟨T107, L107, k107, n107⟩, -, X107, ⟨Lc107, hQ107, l107, y107, z107⟩, st107⟩ := Jvm.LawKit.callS X106 hx (y := (⟨"com/example/facl/facl/ModeSpecPartPinLaw", "letter", "(I)C"⟩ : MethodName)) hown (mvT hZ (hw _ (List.mem_of_getElem? (i := 0) rfl))) (mvT hZ (hw _ (List.mem_of_getElem? (i := 1) rfl))) (mvT hZ (hw _ (List.mem_of_getElem? (i := 2) rfl))) (mvT hZ (hw _ (List.mem_of_getElem? (i := 3) rfl))) (by decide) (backOf (W := 0) (rmL l Z a0 hw [] (2 : Int32) h0 n0 ) hZ (hw _ (List.mem_of_getElem? (i := 3) rfl)) (hw _ (List.mem_of_getElem? (i := 2) rfl)) (by decide) (by decide)) (g := (mkF m 18 #[iv pa, iv pb, iv 2, iv 2, iv 519, .unset, .unset, .unset, .unset, .unset] [(.int 2)])) rfl (by rw [hml]; rfl) (argsL := [(.int 2)]) (rest := []) (lenOf pd_0 rfl) rfl (by show 2 * 0 + _ ≤ _; exact Nat.le_of_eq rfl) (hb hby at_18) (fun _ _ => ⟨rfl, e106, (by decide : 0 + 0 ≤ _), (by decide : 0 + 0 ≤ _)⟩)
      dsimp only [Pt.U, Pt.locs, Pt.cells, Pt.slots] at X107 l107 y107 z107 st107 hQ107
      subst l107 y107 z107
      obtain ⟨hv107, N107q, e107⟩ := hQ107
      rw [(show (own_letter (2 : Int32)) = (111 : Int32) from by decide)] at hv107; subst hv107
      have N107 := Fr.app N106 N107q
      refine Go.pull (V := T107.setTop (mkF m 21 #[iv pa, iv pb, iv 2, iv 2, iv 519, .unset, .unset, .unset, .unset, .unset] [(.int 111)])) st107 ?_
      obtain ⟨_, _, ⟨T108, L108, k108, n108⟩, -, X108, ⟨Lc108, hQ108, l108, y108, z108⟩, st108⟩ := Jvm.LawKit.callS X107 hx (y := (⟨"com/example/facl/facl/ModeSpec", "part", "(C)I"⟩ : MethodName)) hown (mvT hZ (hw _ (List.mem_of_getElem? (i := 4) rfl))) (mvT hZ (hw _ (List.mem_of_getElem? (i := 5) rfl))) (mvT hZ (hw _ (List.mem_of_getElem? (i := 6) rfl))) (mvT hZ (hw _ (List.mem_of_getElem? (i := 7) rfl))) (by decide) (backOf (W := 0) (rmP l Z a0 hw [] (111 : Int32) h0 n0 (by decide)) hZ (hw _ (List.mem_of_getElem? (i := 7) rfl)) (hw _ (List.mem_of_getElem? (i := 6) rfl)) (by decide) (by decide)) (g := (mkF m 21 #[iv pa, iv pb, iv 2, iv 2, iv 519, .unset, .unset, .unset, .unset, .unset] [(.int 111)])) rfl (by rw [hml]; rfl) (argsL := [(.int 111)]) (rest := []) (lenOf pd_1 rfl) rfl (by show 2 * 0 + _ ≤ _; exact Nat.le_of_eq rfl) (hb hby at_21) (fun _ _ => ⟨rfl, e107, (by decide : 0 + 0 ≤ _), (by decide : 0 + 0 ≤ _)⟩)
      dsimp only [Pt.U, Pt.locs, Pt.cells, Pt.slots] at X108 l108 y108 z108 st108 hQ108
      subst l108 y108 z108
      obtain ⟨hv108, N108q, e108⟩ := hQ108
      rw [(show (own_part (111 : Int32)) = (519 : Int32) from by decide)] at hv108; subst hv108
      have N108 := Fr.app N107 N108q
      refine Go.pull (V := T108.setTop (mkF m 24 #[iv pa, iv pb, iv 2, iv 2, iv 519, .unset, .unset, .unset, .unset, .unset] [(.int 519)])) st108 ?_
      refine Go.pull (V := T108.setTop (mkF m 26 #[iv pa, iv pb, iv 2, iv 2, iv 519, iv 519, .unset, .unset, .unset, .unset] [])) (fun t k => XS.istore X108.here hx rfl (hb hby at_24) rfl (l' := #[iv pa, iv pb, iv 2, iv 2, iv 519, iv 519, .unset, .unset, .unset, .unset]) rfl k) ?_
      refine Go.pull (V := T108.setTop (mkF m 28 #[iv pa, iv pb, iv 2, iv 2, iv 519, iv 519, .unset, .unset, .unset, .unset] [(.int 117)])) (fun t k => XS.bipush X108.here hx rfl (hb hby at_26) k) ?_
      obtain ⟨_, _, ⟨T109, L109, k109, n109⟩, -, X109, ⟨Lc109, hQ109, l109, y109, z109⟩, st109⟩ := Jvm.LawKit.callS X108 hx (y := (⟨"com/example/facl/facl/ModeSpec", "part", "(C)I"⟩ : MethodName)) hown (mvT hZ (hw _ (List.mem_of_getElem? (i := 4) rfl))) (mvT hZ (hw _ (List.mem_of_getElem? (i := 5) rfl))) (mvT hZ (hw _ (List.mem_of_getElem? (i := 6) rfl))) (mvT hZ (hw _ (List.mem_of_getElem? (i := 7) rfl))) (by decide) (backOf (W := 0) (rmP l Z a0 hw [] (117 : Int32) h0 n0 (by decide)) hZ (hw _ (List.mem_of_getElem? (i := 7) rfl)) (hw _ (List.mem_of_getElem? (i := 6) rfl)) (by decide) (by decide)) (g := (mkF m 28 #[iv pa, iv pb, iv 2, iv 2, iv 519, iv 519, .unset, .unset, .unset, .unset] [(.int 117)])) rfl (by rw [hml]; rfl) (argsL := [(.int 117)]) (rest := []) (lenOf pd_1 rfl) rfl (by show 2 * 0 + _ ≤ _; exact Nat.le_of_eq rfl) (hb hby at_28) (fun _ _ => ⟨rfl, e108, (by decide : 0 + 0 ≤ _), (by decide : 0 + 0 ≤ _)⟩)
      dsimp only [Pt.U, Pt.locs, Pt.cells, Pt.slots] at X109 l109 y109 z109 st109 hQ109
      subst l109 y109 z109
      obtain ⟨hv109, N109q, e109⟩ := hQ109
      rw [(show (own_part (117 : Int32)) = (448 : Int32) from by decide)] at hv109; subst hv109
      have N109 := Fr.app N108 N109q
      refine Go.pull (V := T109.setTop (mkF m 31 #[iv pa, iv pb, iv 2, iv 2, iv 519, iv 519, .unset, .unset, .unset, .unset] [(.int 448)])) st109 ?_
      refine Go.pull (V := T109.setTop (mkF m 33 #[iv pa, iv pb, iv 2, iv 2, iv 519, iv 519, iv 448, .unset, .unset, .unset] [])) (fun t k => XS.istore X109.here hx rfl (hb hby at_31) rfl (l' := #[iv pa, iv pb, iv 2, iv 2, iv 519, iv 519, iv 448, .unset, .unset, .unset]) rfl k) ?_
      refine Go.pull (V := T109.setTop (mkF m 35 #[iv pa, iv pb, iv 2, iv 2, iv 519, iv 519, iv 448, .unset, .unset, .unset] [(.int 103)])) (fun t k => XS.bipush X109.here hx rfl (hb hby at_33) k) ?_
      obtain ⟨_, _, ⟨T110, L110, k110, n110⟩, -, X110, ⟨Lc110, hQ110, l110, y110, z110⟩, st110⟩ := Jvm.LawKit.callS X109 hx (y := (⟨"com/example/facl/facl/ModeSpec", "part", "(C)I"⟩ : MethodName)) hown (mvT hZ (hw _ (List.mem_of_getElem? (i := 4) rfl))) (mvT hZ (hw _ (List.mem_of_getElem? (i := 5) rfl))) (mvT hZ (hw _ (List.mem_of_getElem? (i := 6) rfl))) (mvT hZ (hw _ (List.mem_of_getElem? (i := 7) rfl))) (by decide) (backOf (W := 0) (rmP l Z a0 hw [] (103 : Int32) h0 n0 (by decide)) hZ (hw _ (List.mem_of_getElem? (i := 7) rfl)) (hw _ (List.mem_of_getElem? (i := 6) rfl)) (by decide) (by decide)) (g := (mkF m 35 #[iv pa, iv pb, iv 2, iv 2, iv 519, iv 519, iv 448, .unset, .unset, .unset] [(.int 103)])) rfl (by rw [hml]; rfl) (argsL := [(.int 103)]) (rest := []) (lenOf pd_1 rfl) rfl (by show 2 * 0 + _ ≤ _; exact Nat.le_of_eq rfl) (hb hby at_35) (fun _ _ => ⟨rfl, e109, (by decide : 0 + 0 ≤ _), (by decide : 0 + 0 ≤ _)⟩)
      dsimp only [Pt.U, Pt.locs, Pt.cells, Pt.slots] at X110 l110 y110 z110 st110 hQ110
      subst l110 y110 z110
      obtain ⟨hv110, N110q, e110⟩ := hQ110
      rw [(show (own_part (103 : Int32)) = (56 : Int32) from by decide)] at hv110; subst hv110
      have N110 := Fr.app N109 N110q
      refine Go.pull (V := T110.setTop (mkF m 38 #[iv pa, iv pb, iv 2, iv 2, iv 519, iv 519, iv 448, .unset, .unset, .unset] [(.int 56)])) st110 ?_
      refine Go.pull (V := T110.setTop (mkF m 40 #[iv pa, iv pb, iv 2, iv 2, iv 519, iv 519, iv 448, iv 56, .unset, .unset] [])) (fun t k => XS.istore X110.here hx rfl (hb hby at_38) rfl (l' := #[iv pa, iv pb, iv 2, iv 2, iv 519, iv 519, iv 448, iv 56, .unset, .unset]) rfl k) ?_
      refine Go.pull (V := T110.setTop (mkF m 42 #[iv pa, iv pb, iv 2, iv 2, iv 519, iv 519, iv 448, iv 56, .unset, .unset] [(.int 111)])) (fun t k => XS.bipush X110.here hx rfl (hb hby at_40) k) ?_
      obtain ⟨_, _, ⟨T111, L111, k111, n111⟩, -, X111, ⟨Lc111, hQ111, l111, y111, z111⟩, st111⟩ := Jvm.LawKit.callS X110 hx (y := (⟨"com/example/facl/facl/ModeSpec", "part", "(C)I"⟩ : MethodName)) hown (mvT hZ (hw _ (List.mem_of_getElem? (i := 4) rfl))) (mvT hZ (hw _ (List.mem_of_getElem? (i := 5) rfl))) (mvT hZ (hw _ (List.mem_of_getElem? (i := 6) rfl))) (mvT hZ (hw _ (List.mem_of_getElem? (i := 7) rfl))) (by decide) (backOf (W := 0) (rmP l Z a0 hw [] (111 : Int32) h0 n0 (by decide)) hZ (hw _ (List.mem_of_getElem? (i := 7) rfl)) (hw _ (List.mem_of_getElem? (i := 6) rfl)) (by decide) (by decide)) (g := (mkF m 42 #[iv pa, iv pb, iv 2, iv 2, iv 519, iv 519, iv 448, iv 56, .unset, .unset] [(.int 111)])) rfl (by rw [hml]; rfl) (argsL := [(.int 111)]) (rest := []) (lenOf pd_1 rfl) rfl (by show 2 * 0 + _ ≤ _; exact Nat.le_of_eq rfl) (hb hby at_42) (fun _ _ => ⟨rfl, e110, (by decide : 0 + 0 ≤ _), (by decide : 0 + 0 ≤ _)⟩)
      dsimp only [Pt.U, Pt.locs, Pt.cells, Pt.slots] at X111 l111 y111 z111 st111 hQ111
      subst l111 y111 z111
      obtain ⟨hv111, N111q, e111⟩ := hQ111
      rw [(show (own_part (111 : Int32)) = (519 : Int32) from by decide)] at hv111; subst hv111
      have N111 := Fr.app N110 N111q
      refine Go.pull (V := T111.setTop (mkF m 45 #[iv pa, iv pb, iv 2, iv 2, iv 519, iv 519, iv 448, iv 56, .unset, .unset] [(.int 519)])) st111 ?_
      refine Go.pull (V := T111.setTop (mkF m 47 #[iv pa, iv pb, iv 2, iv 2, iv 519, iv 519, iv 448, iv 56, iv 519, .unset] [])) (fun t k => XS.istore X111.here hx rfl (hb hby at_45) rfl (l' := #[iv pa, iv pb, iv 2, iv 2, iv 519, iv 519, iv 448, iv 56, iv 519, .unset]) rfl k) ?_
      refine Go.pull (V := T111.setTop (mkF m 49 #[iv pa, iv pb, iv 2, iv 2, iv 519, iv 519, iv 448, iv 56, iv 519, .unset] [(.int 97)])) (fun t k => XS.bipush X111.here hx rfl (hb hby at_47) k) ?_
      obtain ⟨_, _, ⟨T112, L112, k112, n112⟩, -, X112, ⟨Lc112, hQ112, l112, y112, z112⟩, st112⟩ := Jvm.LawKit.callS X111 hx (y := (⟨"com/example/facl/facl/ModeSpec", "part", "(C)I"⟩ : MethodName)) hown (mvT hZ (hw _ (List.mem_of_getElem? (i := 4) rfl))) (mvT hZ (hw _ (List.mem_of_getElem? (i := 5) rfl))) (mvT hZ (hw _ (List.mem_of_getElem? (i := 6) rfl))) (mvT hZ (hw _ (List.mem_of_getElem? (i := 7) rfl))) (by decide) (backOf (W := 0) (rmP l Z a0 hw [] (97 : Int32) h0 n0 (by decide)) hZ (hw _ (List.mem_of_getElem? (i := 7) rfl)) (hw _ (List.mem_of_getElem? (i := 6) rfl)) (by decide) (by decide)) (g := (mkF m 49 #[iv pa, iv pb, iv 2, iv 2, iv 519, iv 519, iv 448, iv 56, iv 519, .unset] [(.int 97)])) rfl (by rw [hml]; rfl) (argsL := [(.int 97)]) (rest := []) (lenOf pd_1 rfl) rfl (by show 2 * 0 + _ ≤ _; exact Nat.le_of_eq rfl) (hb hby at_49) (fun _ _ => ⟨rfl, e111, (by decide : 0 + 0 ≤ _), (by decide : 0 + 0 ≤ _)⟩)
      dsimp only [Pt.U, Pt.locs, Pt.cells, Pt.slots] at X112 l112 y112 z112 st112 hQ112
      subst l112 y112 z112
      obtain ⟨hv112, N112q, e112⟩ := hQ112
      rw [(show (own_part (97 : Int32)) = (1023 : Int32) from by decide)] at hv112; subst hv112
      have N112 := Fr.app N111 N112q
      refine Go.pull (V := T112.setTop (mkF m 52 #[iv pa, iv pb, iv 2, iv 2, iv 519, iv 519, iv 448, iv 56, iv 519, .unset] [(.int 1023)])) st112 ?_
      refine Go.pull (V := T112.setTop (mkF m 54 #[iv pa, iv pb, iv 2, iv 2, iv 519, iv 519, iv 448, iv 56, iv 519, iv 1023] [])) (fun t k => XS.istore X112.here hx rfl (hb hby at_52) rfl (l' := #[iv pa, iv pb, iv 2, iv 2, iv 519, iv 519, iv 448, iv 56, iv 519, iv 1023]) rfl k) ?_
      refine Go.pull (V := T112.setTop (mkF m 56 #[iv pa, iv pb, iv 2, iv 2, iv 519, iv 519, iv 448, iv 56, iv 519, iv 1023] [(.int 519)])) (fun t k => XS.iload X112.here hx rfl (hb hby at_54) rfl  k) ?_
      refine Go.pull (V := T112.setTop (mkF m 57 #[iv pa, iv pb, iv 2, iv 2, iv 519, iv 519, iv 448, iv 56, iv 519, iv 1023] [(.int 2), (.int 519)])) (fun t k => XS.iloadN X112.here hx rfl (hb hby at_56) rfl  k) ?_
      obtain ⟨_, _, ⟨T113, L113, k113, n113⟩, -, X113, ⟨Lc113, hQ113, l113, y113, z113⟩, st113⟩ := Jvm.LawKit.callS X112 hx (y := (⟨"com/example/facl/facl/ModeSpecPartPinLaw", "expected", "(I)I"⟩ : MethodName)) hown (mvT hZ (hw _ (List.mem_of_getElem? (i := 8) rfl))) (mvT hZ (hw _ (List.mem_of_getElem? (i := 9) rfl))) (mvT hZ (hw _ (List.mem_of_getElem? (i := 2) rfl))) (mvT hZ (hw _ (List.mem_of_getElem? (i := 10) rfl))) (by decide) (backOf (W := 1) (rmX l Z a0 hw [] (2 : Int32) h0 n0 ) hZ (hw _ (List.mem_of_getElem? (i := 10) rfl)) (hw _ (List.mem_of_getElem? (i := 2) rfl)) (by decide) (by decide)) (g := (mkF m 57 #[iv pa, iv pb, iv 2, iv 2, iv 519, iv 519, iv 448, iv 56, iv 519, iv 1023] [(.int 2), (.int 519)])) rfl (by rw [hml]; rfl) (argsL := [(.int 2)]) (rest := [(.int 519)]) (lenOf pd_2 rfl) rfl (by show 2 * 0 + _ ≤ _; exact Nat.le_of_eq rfl) (hb hby at_57) (fun _ _ => ⟨rfl, e112, (by decide : 0 + 0 ≤ _), (by decide : 0 + 0 ≤ _)⟩)
      dsimp only [Pt.U, Pt.locs, Pt.cells, Pt.slots] at X113 l113 y113 z113 st113 hQ113
      subst l113 y113 z113
      obtain ⟨hv113, N113q, e113⟩ := hQ113
      rw [(show (own_expected (2 : Int32)) = (519 : Int32) from by decide)] at hv113; subst hv113
      have N113 := Fr.app N112 N113q
      refine Go.pull (V := T113.setTop (mkF m 60 #[iv pa, iv pb, iv 2, iv 2, iv 519, iv 519, iv 448, iv 56, iv 519, iv 1023] [(.int 519), (.int 519)])) st113 ?_
      refine Go.pull (V := T113.setTop (mkF m 63 #[iv pa, iv pb, iv 2, iv 2, iv 519, iv 519, iv 448, iv 56, iv 519, iv 1023] [])) (fun t k => XS.icmpNo X113.here hx rfl (hb hby at_60) rfl (XT.ii_ne_f (by decide)) k) ?_
      refine Go.pull (V := T113.setTop (mkF m 65 #[iv pa, iv pb, iv 2, iv 2, iv 519, iv 519, iv 448, iv 56, iv 519, iv 1023] [(.int 519)])) (fun t k => XS.iload X113.here hx rfl (hb hby at_63) rfl  k) ?_
      refine Go.pull (V := T113.setTop (mkF m 66 #[iv pa, iv pb, iv 2, iv 2, iv 519, iv 519, iv 448, iv 56, iv 519, iv 1023] [(.int 2), (.int 519)])) (fun t k => XS.iloadN X113.here hx rfl (hb hby at_65) rfl  k) ?_
      obtain ⟨_, _, ⟨T114, L114, k114, n114⟩, -, X114, ⟨Lc114, hQ114, l114, y114, z114⟩, st114⟩ := Jvm.LawKit.callS X113 hx (y := (⟨"com/example/facl/facl/ModeSpecPartPinLaw", "expected", "(I)I"⟩ : MethodName)) hown (mvT hZ (hw _ (List.mem_of_getElem? (i := 8) rfl))) (mvT hZ (hw _ (List.mem_of_getElem? (i := 9) rfl))) (mvT hZ (hw _ (List.mem_of_getElem? (i := 2) rfl))) (mvT hZ (hw _ (List.mem_of_getElem? (i := 10) rfl))) (by decide) (backOf (W := 1) (rmX l Z a0 hw [] (2 : Int32) h0 n0 ) hZ (hw _ (List.mem_of_getElem? (i := 10) rfl)) (hw _ (List.mem_of_getElem? (i := 2) rfl)) (by decide) (by decide)) (g := (mkF m 66 #[iv pa, iv pb, iv 2, iv 2, iv 519, iv 519, iv 448, iv 56, iv 519, iv 1023] [(.int 2), (.int 519)])) rfl (by rw [hml]; rfl) (argsL := [(.int 2)]) (rest := [(.int 519)]) (lenOf pd_2 rfl) rfl (by show 2 * 0 + _ ≤ _; exact Nat.le_of_eq rfl) (hb hby at_66) (fun _ _ => ⟨rfl, e113, (by decide : 0 + 0 ≤ _), (by decide : 0 + 0 ≤ _)⟩)
      dsimp only [Pt.U, Pt.locs, Pt.cells, Pt.slots] at X114 l114 y114 z114 st114 hQ114
      subst l114 y114 z114
      obtain ⟨hv114, N114q, e114⟩ := hQ114
      rw [(show (own_expected (2 : Int32)) = (519 : Int32) from by decide)] at hv114; subst hv114
      have N114 := Fr.app N113 N114q
      refine Go.pull (V := T114.setTop (mkF m 69 #[iv pa, iv pb, iv 2, iv 2, iv 519, iv 519, iv 448, iv 56, iv 519, iv 1023] [(.int 519), (.int 519)])) st114 ?_
      refine Go.pull (V := T114.setTop (mkF m 74 #[iv pa, iv pb, iv 2, iv 2, iv 519, iv 519, iv 448, iv 56, iv 519, iv 1023] [])) (fun t k => XS.icmpYes X114.here hx rfl (pc0 := 69) (pc' := 74) rfl (hb hby at_69) rfl (XT.ii_eq_t (by decide)) (by decide) (by decide) k) ?_
      refine Go.pull (V := T114.setTop (mkF m 76 #[iv pa, iv pb, iv 2, iv 2, iv 519, iv 519, iv 448, iv 56, iv 519, iv 1023] [(.int 519)])) (fun t k => XS.iload X114.here hx rfl (hb hby at_74) rfl  k) ?_
      refine Go.pull (V := T114.setTop (mkF m 79 #[iv pa, iv pb, iv 2, iv 2, iv 519, iv 519, iv 448, iv 56, iv 519, iv 1023] [(.int (-1024)), (.int 519)])) (fun t k => XS.sipush X114.here hx rfl (hb hby at_76) k) ?_
      refine Go.pull (V := T114.setTop (mkF m 80 #[iv pa, iv pb, iv 2, iv 2, iv 519, iv 519, iv 448, iv 56, iv 519, iv 1023] [(.int 0)])) (fun t k => XS.iand X114.here hx rfl (hb hby at_79) rfl k) ?_
      refine Go.pull (V := T114.setTop (mkF m 83 #[iv pa, iv pb, iv 2, iv 2, iv 519, iv 519, iv 448, iv 56, iv 519, iv 1023] [])) (fun t k => XS.ifNo X114.here hx rfl (hb hby at_80) rfl (XT.i0_ne_f (by decide)) k) ?_
      refine Go.pull (V := T114.setTop (mkF m 85 #[iv pa, iv pb, iv 2, iv 2, iv 519, iv 519, iv 448, iv 56, iv 519, iv 1023] [(.int 519)])) (fun t k => XS.iload X114.here hx rfl (hb hby at_83) rfl  k) ?_
      refine Go.pull (V := T114.setTop (mkF m 88 #[iv pa, iv pb, iv 2, iv 2, iv 519, iv 519, iv 448, iv 56, iv 519, iv 1023] [(.int (-1024)), (.int 519)])) (fun t k => XS.sipush X114.here hx rfl (hb hby at_85) k) ?_
      refine Go.pull (V := T114.setTop (mkF m 89 #[iv pa, iv pb, iv 2, iv 2, iv 519, iv 519, iv 448, iv 56, iv 519, iv 1023] [(.int 0)])) (fun t k => XS.iand X114.here hx rfl (hb hby at_88) rfl k) ?_
      refine Go.pull (V := T114.setTop (mkF m 94 #[iv pa, iv pb, iv 2, iv 2, iv 519, iv 519, iv 448, iv 56, iv 519, iv 1023] [])) (fun t k => XS.ifYes X114.here hx rfl (pc0 := 89) (pc' := 94) rfl (hb hby at_89) rfl (XT.i0_eq_t (by decide)) (by decide) (by decide) k) ?_
      refine Go.pull (V := T114.setTop (mkF m 96 #[iv pa, iv pb, iv 2, iv 2, iv 519, iv 519, iv 448, iv 56, iv 519, iv 1023] [(.int 1023)])) (fun t k => XS.iload X114.here hx rfl (hb hby at_94) rfl  k) ?_
      refine Go.pull (V := T114.setTop (mkF m 99 #[iv pa, iv pb, iv 2, iv 2, iv 519, iv 519, iv 448, iv 56, iv 519, iv 1023] [(.int 1023), (.int 1023)])) (fun t k => XS.sipush X114.here hx rfl (hb hby at_96) k) ?_
      refine Go.pull (V := T114.setTop (mkF m 102 #[iv pa, iv pb, iv 2, iv 2, iv 519, iv 519, iv 448, iv 56, iv 519, iv 1023] [])) (fun t k => XS.icmpNo X114.here hx rfl (hb hby at_99) rfl (XT.ii_ne_f (by decide)) k) ?_
      refine Go.pull (V := T114.setTop (mkF m 104 #[iv pa, iv pb, iv 2, iv 2, iv 519, iv 519, iv 448, iv 56, iv 519, iv 1023] [(.int 448)])) (fun t k => XS.iload X114.here hx rfl (hb hby at_102) rfl  k) ?_
      refine Go.pull (V := T114.setTop (mkF m 106 #[iv pa, iv pb, iv 2, iv 2, iv 519, iv 519, iv 448, iv 56, iv 519, iv 1023] [(.int 56), (.int 448)])) (fun t k => XS.iload X114.here hx rfl (hb hby at_104) rfl  k) ?_
      refine Go.pull (V := T114.setTop (mkF m 107 #[iv pa, iv pb, iv 2, iv 2, iv 519, iv 519, iv 448, iv 56, iv 519, iv 1023] [(.int 504)])) (fun t k => XS.ior X114.here hx rfl (hb hby at_106) rfl k) ?_
      refine Go.pull (V := T114.setTop (mkF m 109 #[iv pa, iv pb, iv 2, iv 2, iv 519, iv 519, iv 448, iv 56, iv 519, iv 1023] [(.int 519), (.int 504)])) (fun t k => XS.iload X114.here hx rfl (hb hby at_107) rfl  k) ?_
      refine Go.pull (V := T114.setTop (mkF m 110 #[iv pa, iv pb, iv 2, iv 2, iv 519, iv 519, iv 448, iv 56, iv 519, iv 1023] [(.int 1023)])) (fun t k => XS.ior X114.here hx rfl (hb hby at_109) rfl k) ?_
      refine Go.pull (V := T114.setTop (mkF m 112 #[iv pa, iv pb, iv 2, iv 2, iv 519, iv 519, iv 448, iv 56, iv 519, iv 1023] [(.int 1023), (.int 1023)])) (fun t k => XS.iload X114.here hx rfl (hb hby at_110) rfl  k) ?_
      refine Go.pull (V := T114.setTop (mkF m 117 #[iv pa, iv pb, iv 2, iv 2, iv 519, iv 519, iv 448, iv 56, iv 519, iv 1023] [])) (fun t k => XS.icmpYes X114.here hx rfl (pc0 := 112) (pc' := 117) rfl (hb hby at_112) rfl (XT.ii_eq_t (by decide)) (by decide) (by decide) k) ?_
      refine Go.pull (V := T114.setTop (mkF m 119 #[iv pa, iv pb, iv 2, iv 2, iv 519, iv 519, iv 448, iv 56, iv 519, iv 1023] [(.int 448)])) (fun t k => XS.iload X114.here hx rfl (hb hby at_117) rfl  k) ?_
      refine Go.pull (V := T114.setTop (mkF m 121 #[iv pa, iv pb, iv 2, iv 2, iv 519, iv 519, iv 448, iv 56, iv 519, iv 1023] [(.int 56), (.int 448)])) (fun t k => XS.iload X114.here hx rfl (hb hby at_119) rfl  k) ?_
      refine Go.pull (V := T114.setTop (mkF m 122 #[iv pa, iv pb, iv 2, iv 2, iv 519, iv 519, iv 448, iv 56, iv 519, iv 1023] [(.int 0)])) (fun t k => XS.iand X114.here hx rfl (hb hby at_121) rfl k) ?_
      refine Go.pull (V := T114.setTop (mkF m 125 #[iv pa, iv pb, iv 2, iv 2, iv 519, iv 519, iv 448, iv 56, iv 519, iv 1023] [])) (fun t k => XS.ifNo X114.here hx rfl (hb hby at_122) rfl (XT.i0_ne_f (by decide)) k) ?_
      refine Go.pull (V := T114.setTop (mkF m 127 #[iv pa, iv pb, iv 2, iv 2, iv 519, iv 519, iv 448, iv 56, iv 519, iv 1023] [(.int 448)])) (fun t k => XS.iload X114.here hx rfl (hb hby at_125) rfl  k) ?_
      refine Go.pull (V := T114.setTop (mkF m 129 #[iv pa, iv pb, iv 2, iv 2, iv 519, iv 519, iv 448, iv 56, iv 519, iv 1023] [(.int 519), (.int 448)])) (fun t k => XS.iload X114.here hx rfl (hb hby at_127) rfl  k) ?_
      refine Go.pull (V := T114.setTop (mkF m 130 #[iv pa, iv pb, iv 2, iv 2, iv 519, iv 519, iv 448, iv 56, iv 519, iv 1023] [(.int 0)])) (fun t k => XS.iand X114.here hx rfl (hb hby at_129) rfl k) ?_
      refine Go.pull (V := T114.setTop (mkF m 133 #[iv pa, iv pb, iv 2, iv 2, iv 519, iv 519, iv 448, iv 56, iv 519, iv 1023] [])) (fun t k => XS.ifNo X114.here hx rfl (hb hby at_130) rfl (XT.i0_ne_f (by decide)) k) ?_
      refine Go.pull (V := T114.setTop (mkF m 135 #[iv pa, iv pb, iv 2, iv 2, iv 519, iv 519, iv 448, iv 56, iv 519, iv 1023] [(.int 56)])) (fun t k => XS.iload X114.here hx rfl (hb hby at_133) rfl  k) ?_
      refine Go.pull (V := T114.setTop (mkF m 137 #[iv pa, iv pb, iv 2, iv 2, iv 519, iv 519, iv 448, iv 56, iv 519, iv 1023] [(.int 519), (.int 56)])) (fun t k => XS.iload X114.here hx rfl (hb hby at_135) rfl  k) ?_
      refine Go.pull (V := T114.setTop (mkF m 138 #[iv pa, iv pb, iv 2, iv 2, iv 519, iv 519, iv 448, iv 56, iv 519, iv 1023] [(.int 0)])) (fun t k => XS.iand X114.here hx rfl (hb hby at_137) rfl k) ?_
      refine Go.pull (V := T114.setTop (mkF m 143 #[iv pa, iv pb, iv 2, iv 2, iv 519, iv 519, iv 448, iv 56, iv 519, iv 1023] [])) (fun t k => XS.ifYes X114.here hx rfl (pc0 := 138) (pc' := 143) rfl (hb hby at_138) rfl (XT.i0_eq_t (by decide)) (by decide) (by decide) k) ?_
      refine Go.pull (V := T114.setTop (mkF m 144 #[iv pa, iv pb, iv 2, iv 2, iv 519, iv 519, iv 448, iv 56, iv 519, iv 1023] [(.int 2)])) (fun t k => XS.iloadN X114.here hx rfl (hb hby at_143) rfl  k) ?_
      refine Go.pull (V := T114.setTop (mkF m 145 #[iv pa, iv pb, iv 2, iv 2, iv 519, iv 519, iv 448, iv 56, iv 519, iv 1023] [(.int 2), (.int 2)])) (fun t k => XS.iloadN X114.here hx rfl (hb hby at_144) rfl  k) ?_
      refine Go.pull (V := T114.setTop (mkF m 168 #[iv pa, iv pb, iv 2, iv 2, iv 519, iv 519, iv 448, iv 56, iv 519, iv 1023] [])) (fun t k => XS.icmpYes X114.here hx rfl (pc0 := 145) (pc' := 168) rfl (hb hby at_145) rfl (XT.ii_eq_t (by decide)) (by decide) (by decide) k) ?_
      refine Go.pull (V := T114.setTop (mkF m 170 #[iv pa, iv pb, iv 2, iv 2, iv 519, iv 519, iv 448, iv 56, iv 519, iv 1023] [(.int 519)])) (fun t k => XS.iload X114.here hx rfl (hb hby at_168) rfl  k) ?_
      refine Go.pull (V := T114.setTop (mkF m 173 #[iv pa, iv pb, iv 2, iv 2, iv 519, iv 519, iv 448, iv 56, iv 519, iv 1023] [(.int 512), (.int 519)])) (fun t k => XS.sipush X114.here hx rfl (hb hby at_170) k) ?_
      refine Go.pull (V := T114.setTop (mkF m 174 #[iv pa, iv pb, iv 2, iv 2, iv 519, iv 519, iv 448, iv 56, iv 519, iv 1023] [(.int 512)])) (fun t k => XS.iand X114.here hx rfl (hb hby at_173) rfl k) ?_
      refine Go.pull (V := T114.setTop (mkF m 177 #[iv pa, iv pb, iv 2, iv 2, iv 519, iv 519, iv 448, iv 56, iv 519, iv 1023] [])) (fun t k => XS.ifNo X114.here hx rfl (hb hby at_174) rfl (XT.i0_eq_f (by decide)) k) ?_
      refine Go.pull (V := T114.setTop (mkF m 179 #[iv pa, iv pb, iv 2, iv 2, iv 519, iv 519, iv 448, iv 56, iv 519, iv 1023] [(.int 448)])) (fun t k => XS.iload X114.here hx rfl (hb hby at_177) rfl  k) ?_
      refine Go.pull (V := T114.setTop (mkF m 181 #[iv pa, iv pb, iv 2, iv 2, iv 519, iv 519, iv 448, iv 56, iv 519, iv 1023] [(.int 56), (.int 448)])) (fun t k => XS.iload X114.here hx rfl (hb hby at_179) rfl  k) ?_
      refine Go.pull (V := T114.setTop (mkF m 182 #[iv pa, iv pb, iv 2, iv 2, iv 519, iv 519, iv 448, iv 56, iv 519, iv 1023] [(.int 504)])) (fun t k => XS.ior X114.here hx rfl (hb hby at_181) rfl k) ?_
      refine Go.pull (V := T114.setTop (mkF m 185 #[iv pa, iv pb, iv 2, iv 2, iv 519, iv 519, iv 448, iv 56, iv 519, iv 1023] [(.int 512), (.int 504)])) (fun t k => XS.sipush X114.here hx rfl (hb hby at_182) k) ?_
      refine Go.pull (V := T114.setTop (mkF m 186 #[iv pa, iv pb, iv 2, iv 2, iv 519, iv 519, iv 448, iv 56, iv 519, iv 1023] [(.int 0)])) (fun t k => XS.iand X114.here hx rfl (hb hby at_185) rfl k) ?_
      refine Go.pull (V := T114.setTop (mkF m 191 #[iv pa, iv pb, iv 2, iv 2, iv 519, iv 519, iv 448, iv 56, iv 519, iv 1023] [])) (fun t k => XS.ifYes X114.here hx rfl (pc0 := 186) (pc' := 191) rfl (hb hby at_186) rfl (XT.i0_eq_t (by decide)) (by decide) (by decide) k) ?_
      refine Go.pull (V := T114.setTop (mkF m 192 #[iv pa, iv pb, iv 2, iv 2, iv 519, iv 519, iv 448, iv 56, iv 519, iv 1023] [(.int 1)])) (fun t k => XS.iconst X114.here hx rfl (hb hby at_191) k) ?_
      exact Go.retN X114 hx Bd.notSynchronized (t := .boolean) Bd.returns (by simp) (hb hby at_192) ⟨rfl, N114⟩ (by decide) (by decide)
    · subst hv84
      refine Go.pull (V := s₁.setTop (mkF m 9 #[iv pa, iv pb, iv 2, iv 3, .unset, .unset, .unset, .unset, .unset, .unset] [(.int 2)])) (fun t k => XS.iloadN X0.here hx rfl (hb hby at_8) rfl  k) ?_
      obtain ⟨_, _, ⟨T115, L115, k115, n115⟩, -, X115, ⟨Lc115, hQ115, l115, y115, z115⟩, st115⟩ := Jvm.LawKit.callS X0 hx (y := (⟨"com/example/facl/facl/ModeSpecPartPinLaw", "letter", "(I)C"⟩ : MethodName)) hown (mvT hZ (hw _ (List.mem_of_getElem? (i := 0) rfl))) (mvT hZ (hw _ (List.mem_of_getElem? (i := 1) rfl))) (mvT hZ (hw _ (List.mem_of_getElem? (i := 2) rfl))) (mvT hZ (hw _ (List.mem_of_getElem? (i := 3) rfl))) (by decide) (backOf (W := 0) (rmL l Z a0 hw [] (2 : Int32) h0 n0 ) hZ (hw _ (List.mem_of_getElem? (i := 3) rfl)) (hw _ (List.mem_of_getElem? (i := 2) rfl)) (by decide) (by decide)) (g := (mkF m 9 #[iv pa, iv pb, iv 2, iv 3, .unset, .unset, .unset, .unset, .unset, .unset] [(.int 2)])) rfl (by rw [hml]; rfl) (argsL := [(.int 2)]) (rest := []) (lenOf pd_0 rfl) rfl (by show 2 * 0 + _ ≤ _; exact Nat.le_of_eq rfl) (hb hby at_9) (fun _ _ => ⟨rfl, e0, (by decide : 0 + 0 ≤ _), (by decide : 0 + 0 ≤ _)⟩)
      dsimp only [Pt.U, Pt.locs, Pt.cells, Pt.slots] at X115 l115 y115 z115 st115 hQ115
      subst l115 y115 z115
      obtain ⟨hv115, N115q, e115⟩ := hQ115
      rw [(show (own_letter (2 : Int32)) = (111 : Int32) from by decide)] at hv115; subst hv115
      have N115 := Fr.app N0 N115q
      refine Go.pull (V := T115.setTop (mkF m 12 #[iv pa, iv pb, iv 2, iv 3, .unset, .unset, .unset, .unset, .unset, .unset] [(.int 111)])) st115 ?_
      obtain ⟨_, _, ⟨T116, L116, k116, n116⟩, -, X116, ⟨Lc116, hQ116, l116, y116, z116⟩, st116⟩ := Jvm.LawKit.callS X115 hx (y := (⟨"com/example/facl/facl/ModeSpec", "part", "(C)I"⟩ : MethodName)) hown (mvT hZ (hw _ (List.mem_of_getElem? (i := 4) rfl))) (mvT hZ (hw _ (List.mem_of_getElem? (i := 5) rfl))) (mvT hZ (hw _ (List.mem_of_getElem? (i := 6) rfl))) (mvT hZ (hw _ (List.mem_of_getElem? (i := 7) rfl))) (by decide) (backOf (W := 0) (rmP l Z a0 hw [] (111 : Int32) h0 n0 (by decide)) hZ (hw _ (List.mem_of_getElem? (i := 7) rfl)) (hw _ (List.mem_of_getElem? (i := 6) rfl)) (by decide) (by decide)) (g := (mkF m 12 #[iv pa, iv pb, iv 2, iv 3, .unset, .unset, .unset, .unset, .unset, .unset] [(.int 111)])) rfl (by rw [hml]; rfl) (argsL := [(.int 111)]) (rest := []) (lenOf pd_1 rfl) rfl (by show 2 * 0 + _ ≤ _; exact Nat.le_of_eq rfl) (hb hby at_12) (fun _ _ => ⟨rfl, e115, (by decide : 0 + 0 ≤ _), (by decide : 0 + 0 ≤ _)⟩)
      dsimp only [Pt.U, Pt.locs, Pt.cells, Pt.slots] at X116 l116 y116 z116 st116 hQ116
      subst l116 y116 z116
      obtain ⟨hv116, N116q, e116⟩ := hQ116
      rw [(show (own_part (111 : Int32)) = (519 : Int32) from by decide)] at hv116; subst hv116
      have N116 := Fr.app N115 N116q
      refine Go.pull (V := T116.setTop (mkF m 15 #[iv pa, iv pb, iv 2, iv 3, .unset, .unset, .unset, .unset, .unset, .unset] [(.int 519)])) st116 ?_
      refine Go.pull (V := T116.setTop (mkF m 17 #[iv pa, iv pb, iv 2, iv 3, iv 519, .unset, .unset, .unset, .unset, .unset] [])) (fun t k => XS.istore X116.here hx rfl (hb hby at_15) rfl (l' := #[iv pa, iv pb, iv 2, iv 3, iv 519, .unset, .unset, .unset, .unset, .unset]) rfl k) ?_
      refine Go.pull (V := T116.setTop (mkF m 18 #[iv pa, iv pb, iv 2, iv 3, iv 519, .unset, .unset, .unset, .unset, .unset] [(.int 3)])) (fun t k => XS.iloadN X116.here hx rfl (hb hby at_17) rfl  k) ?_
      obtain ⟨_, _, ⟨T117, L117, k117, n117⟩, -, X117, ⟨Lc117, hQ117, l117, y117, z117⟩, st117⟩ := Jvm.LawKit.callS X116 hx (y := (⟨"com/example/facl/facl/ModeSpecPartPinLaw", "letter", "(I)C"⟩ : MethodName)) hown (mvT hZ (hw _ (List.mem_of_getElem? (i := 0) rfl))) (mvT hZ (hw _ (List.mem_of_getElem? (i := 1) rfl))) (mvT hZ (hw _ (List.mem_of_getElem? (i := 2) rfl))) (mvT hZ (hw _ (List.mem_of_getElem? (i := 3) rfl))) (by decide) (backOf (W := 0) (rmL l Z a0 hw [] (3 : Int32) h0 n0 ) hZ (hw _ (List.mem_of_getElem? (i := 3) rfl)) (hw _ (List.mem_of_getElem? (i := 2) rfl)) (by decide) (by decide)) (g := (mkF m 18 #[iv pa, iv pb, iv 2, iv 3, iv 519, .unset, .unset, .unset, .unset, .unset] [(.int 3)])) rfl (by rw [hml]; rfl) (argsL := [(.int 3)]) (rest := []) (lenOf pd_0 rfl) rfl (by show 2 * 0 + _ ≤ _; exact Nat.le_of_eq rfl) (hb hby at_18) (fun _ _ => ⟨rfl, e116, (by decide : 0 + 0 ≤ _), (by decide : 0 + 0 ≤ _)⟩)
      dsimp only [Pt.U, Pt.locs, Pt.cells, Pt.slots] at X117 l117 y117 z117 st117 hQ117
      subst l117 y117 z117
      obtain ⟨hv117, N117q, e117⟩ := hQ117
      rw [(show (own_letter (3 : Int32)) = (97 : Int32) from by decide)] at hv117; subst hv117
      have N117 := Fr.app N116 N117q
      refine Go.pull (V := T117.setTop (mkF m 21 #[iv pa, iv pb, iv 2, iv 3, iv 519, .unset, .unset, .unset, .unset, .unset] [(.int 97)])) st117 ?_
      obtain ⟨_, _, ⟨T118, L118, k118, n118⟩, -, X118, ⟨Lc118, hQ118, l118, y118, z118⟩, st118⟩ := Jvm.LawKit.callS X117 hx (y := (⟨"com/example/facl/facl/ModeSpec", "part", "(C)I"⟩ : MethodName)) hown (mvT hZ (hw _ (List.mem_of_getElem? (i := 4) rfl))) (mvT hZ (hw _ (List.mem_of_getElem? (i := 5) rfl))) (mvT hZ (hw _ (List.mem_of_getElem? (i := 6) rfl))) (mvT hZ (hw _ (List.mem_of_getElem? (i := 7) rfl))) (by decide) (backOf (W := 0) (rmP l Z a0 hw [] (97 : Int32) h0 n0 (by decide)) hZ (hw _ (List.mem_of_getElem? (i := 7) rfl)) (hw _ (List.mem_of_getElem? (i := 6) rfl)) (by decide) (by decide)) (g := (mkF m 21 #[iv pa, iv pb, iv 2, iv 3, iv 519, .unset, .unset, .unset, .unset, .unset] [(.int 97)])) rfl (by rw [hml]; rfl) (argsL := [(.int 97)]) (rest := []) (lenOf pd_1 rfl) rfl (by show 2 * 0 + _ ≤ _; exact Nat.le_of_eq rfl) (hb hby at_21) (fun _ _ => ⟨rfl, e117, (by decide : 0 + 0 ≤ _), (by decide : 0 + 0 ≤ _)⟩)
      dsimp only [Pt.U, Pt.locs, Pt.cells, Pt.slots] at X118 l118 y118 z118 st118 hQ118
      subst l118 y118 z118
      obtain ⟨hv118, N118q, e118⟩ := hQ118
      rw [(show (own_part (97 : Int32)) = (1023 : Int32) from by decide)] at hv118; subst hv118
      have N118 := Fr.app N117 N118q
      refine Go.pull (V := T118.setTop (mkF m 24 #[iv pa, iv pb, iv 2, iv 3, iv 519, .unset, .unset, .unset, .unset, .unset] [(.int 1023)])) st118 ?_
      refine Go.pull (V := T118.setTop (mkF m 26 #[iv pa, iv pb, iv 2, iv 3, iv 519, iv 1023, .unset, .unset, .unset, .unset] [])) (fun t k => XS.istore X118.here hx rfl (hb hby at_24) rfl (l' := #[iv pa, iv pb, iv 2, iv 3, iv 519, iv 1023, .unset, .unset, .unset, .unset]) rfl k) ?_
      refine Go.pull (V := T118.setTop (mkF m 28 #[iv pa, iv pb, iv 2, iv 3, iv 519, iv 1023, .unset, .unset, .unset, .unset] [(.int 117)])) (fun t k => XS.bipush X118.here hx rfl (hb hby at_26) k) ?_
      obtain ⟨_, _, ⟨T119, L119, k119, n119⟩, -, X119, ⟨Lc119, hQ119, l119, y119, z119⟩, st119⟩ := Jvm.LawKit.callS X118 hx (y := (⟨"com/example/facl/facl/ModeSpec", "part", "(C)I"⟩ : MethodName)) hown (mvT hZ (hw _ (List.mem_of_getElem? (i := 4) rfl))) (mvT hZ (hw _ (List.mem_of_getElem? (i := 5) rfl))) (mvT hZ (hw _ (List.mem_of_getElem? (i := 6) rfl))) (mvT hZ (hw _ (List.mem_of_getElem? (i := 7) rfl))) (by decide) (backOf (W := 0) (rmP l Z a0 hw [] (117 : Int32) h0 n0 (by decide)) hZ (hw _ (List.mem_of_getElem? (i := 7) rfl)) (hw _ (List.mem_of_getElem? (i := 6) rfl)) (by decide) (by decide)) (g := (mkF m 28 #[iv pa, iv pb, iv 2, iv 3, iv 519, iv 1023, .unset, .unset, .unset, .unset] [(.int 117)])) rfl (by rw [hml]; rfl) (argsL := [(.int 117)]) (rest := []) (lenOf pd_1 rfl) rfl (by show 2 * 0 + _ ≤ _; exact Nat.le_of_eq rfl) (hb hby at_28) (fun _ _ => ⟨rfl, e118, (by decide : 0 + 0 ≤ _), (by decide : 0 + 0 ≤ _)⟩)
      dsimp only [Pt.U, Pt.locs, Pt.cells, Pt.slots] at X119 l119 y119 z119 st119 hQ119
      subst l119 y119 z119
      obtain ⟨hv119, N119q, e119⟩ := hQ119
      rw [(show (own_part (117 : Int32)) = (448 : Int32) from by decide)] at hv119; subst hv119
      have N119 := Fr.app N118 N119q
      refine Go.pull (V := T119.setTop (mkF m 31 #[iv pa, iv pb, iv 2, iv 3, iv 519, iv 1023, .unset, .unset, .unset, .unset] [(.int 448)])) st119 ?_
      refine Go.pull (V := T119.setTop (mkF m 33 #[iv pa, iv pb, iv 2, iv 3, iv 519, iv 1023, iv 448, .unset, .unset, .unset] [])) (fun t k => XS.istore X119.here hx rfl (hb hby at_31) rfl (l' := #[iv pa, iv pb, iv 2, iv 3, iv 519, iv 1023, iv 448, .unset, .unset, .unset]) rfl k) ?_
      refine Go.pull (V := T119.setTop (mkF m 35 #[iv pa, iv pb, iv 2, iv 3, iv 519, iv 1023, iv 448, .unset, .unset, .unset] [(.int 103)])) (fun t k => XS.bipush X119.here hx rfl (hb hby at_33) k) ?_
      obtain ⟨_, _, ⟨T120, L120, k120, n120⟩, -, X120, ⟨Lc120, hQ120, l120, y120, z120⟩, st120⟩ := Jvm.LawKit.callS X119 hx (y := (⟨"com/example/facl/facl/ModeSpec", "part", "(C)I"⟩ : MethodName)) hown (mvT hZ (hw _ (List.mem_of_getElem? (i := 4) rfl))) (mvT hZ (hw _ (List.mem_of_getElem? (i := 5) rfl))) (mvT hZ (hw _ (List.mem_of_getElem? (i := 6) rfl))) (mvT hZ (hw _ (List.mem_of_getElem? (i := 7) rfl))) (by decide) (backOf (W := 0) (rmP l Z a0 hw [] (103 : Int32) h0 n0 (by decide)) hZ (hw _ (List.mem_of_getElem? (i := 7) rfl)) (hw _ (List.mem_of_getElem? (i := 6) rfl)) (by decide) (by decide)) (g := (mkF m 35 #[iv pa, iv pb, iv 2, iv 3, iv 519, iv 1023, iv 448, .unset, .unset, .unset] [(.int 103)])) rfl (by rw [hml]; rfl) (argsL := [(.int 103)]) (rest := []) (lenOf pd_1 rfl) rfl (by show 2 * 0 + _ ≤ _; exact Nat.le_of_eq rfl) (hb hby at_35) (fun _ _ => ⟨rfl, e119, (by decide : 0 + 0 ≤ _), (by decide : 0 + 0 ≤ _)⟩)
      dsimp only [Pt.U, Pt.locs, Pt.cells, Pt.slots] at X120 l120 y120 z120 st120 hQ120
      subst l120 y120 z120
      obtain ⟨hv120, N120q, e120⟩ := hQ120
      rw [(show (own_part (103 : Int32)) = (56 : Int32) from by decide)] at hv120; subst hv120
      have N120 := Fr.app N119 N120q
      refine Go.pull (V := T120.setTop (mkF m 38 #[iv pa, iv pb, iv 2, iv 3, iv 519, iv 1023, iv 448, .unset, .unset, .unset] [(.int 56)])) st120 ?_
      refine Go.pull (V := T120.setTop (mkF m 40 #[iv pa, iv pb, iv 2, iv 3, iv 519, iv 1023, iv 448, iv 56, .unset, .unset] [])) (fun t k => XS.istore X120.here hx rfl (hb hby at_38) rfl (l' := #[iv pa, iv pb, iv 2, iv 3, iv 519, iv 1023, iv 448, iv 56, .unset, .unset]) rfl k) ?_
      refine Go.pull (V := T120.setTop (mkF m 42 #[iv pa, iv pb, iv 2, iv 3, iv 519, iv 1023, iv 448, iv 56, .unset, .unset] [(.int 111)])) (fun t k => XS.bipush X120.here hx rfl (hb hby at_40) k) ?_
      obtain ⟨_, _, ⟨T121, L121, k121, n121⟩, -, X121, ⟨Lc121, hQ121, l121, y121, z121⟩, st121⟩ := Jvm.LawKit.callS X120 hx (y := (⟨"com/example/facl/facl/ModeSpec", "part", "(C)I"⟩ : MethodName)) hown (mvT hZ (hw _ (List.mem_of_getElem? (i := 4) rfl))) (mvT hZ (hw _ (List.mem_of_getElem? (i := 5) rfl))) (mvT hZ (hw _ (List.mem_of_getElem? (i := 6) rfl))) (mvT hZ (hw _ (List.mem_of_getElem? (i := 7) rfl))) (by decide) (backOf (W := 0) (rmP l Z a0 hw [] (111 : Int32) h0 n0 (by decide)) hZ (hw _ (List.mem_of_getElem? (i := 7) rfl)) (hw _ (List.mem_of_getElem? (i := 6) rfl)) (by decide) (by decide)) (g := (mkF m 42 #[iv pa, iv pb, iv 2, iv 3, iv 519, iv 1023, iv 448, iv 56, .unset, .unset] [(.int 111)])) rfl (by rw [hml]; rfl) (argsL := [(.int 111)]) (rest := []) (lenOf pd_1 rfl) rfl (by show 2 * 0 + _ ≤ _; exact Nat.le_of_eq rfl) (hb hby at_42) (fun _ _ => ⟨rfl, e120, (by decide : 0 + 0 ≤ _), (by decide : 0 + 0 ≤ _)⟩)
      dsimp only [Pt.U, Pt.locs, Pt.cells, Pt.slots] at X121 l121 y121 z121 st121 hQ121
      subst l121 y121 z121
      obtain ⟨hv121, N121q, e121⟩ := hQ121
      rw [(show (own_part (111 : Int32)) = (519 : Int32) from by decide)] at hv121; subst hv121
      have N121 := Fr.app N120 N121q
      refine Go.pull (V := T121.setTop (mkF m 45 #[iv pa, iv pb, iv 2, iv 3, iv 519, iv 1023, iv 448, iv 56, .unset, .unset] [(.int 519)])) st121 ?_
      refine Go.pull (V := T121.setTop (mkF m 47 #[iv pa, iv pb, iv 2, iv 3, iv 519, iv 1023, iv 448, iv 56, iv 519, .unset] [])) (fun t k => XS.istore X121.here hx rfl (hb hby at_45) rfl (l' := #[iv pa, iv pb, iv 2, iv 3, iv 519, iv 1023, iv 448, iv 56, iv 519, .unset]) rfl k) ?_
      refine Go.pull (V := T121.setTop (mkF m 49 #[iv pa, iv pb, iv 2, iv 3, iv 519, iv 1023, iv 448, iv 56, iv 519, .unset] [(.int 97)])) (fun t k => XS.bipush X121.here hx rfl (hb hby at_47) k) ?_
      obtain ⟨_, _, ⟨T122, L122, k122, n122⟩, -, X122, ⟨Lc122, hQ122, l122, y122, z122⟩, st122⟩ := Jvm.LawKit.callS X121 hx (y := (⟨"com/example/facl/facl/ModeSpec", "part", "(C)I"⟩ : MethodName)) hown (mvT hZ (hw _ (List.mem_of_getElem? (i := 4) rfl))) (mvT hZ (hw _ (List.mem_of_getElem? (i := 5) rfl))) (mvT hZ (hw _ (List.mem_of_getElem? (i := 6) rfl))) (mvT hZ (hw _ (List.mem_of_getElem? (i := 7) rfl))) (by decide) (backOf (W := 0) (rmP l Z a0 hw [] (97 : Int32) h0 n0 (by decide)) hZ (hw _ (List.mem_of_getElem? (i := 7) rfl)) (hw _ (List.mem_of_getElem? (i := 6) rfl)) (by decide) (by decide)) (g := (mkF m 49 #[iv pa, iv pb, iv 2, iv 3, iv 519, iv 1023, iv 448, iv 56, iv 519, .unset] [(.int 97)])) rfl (by rw [hml]; rfl) (argsL := [(.int 97)]) (rest := []) (lenOf pd_1 rfl) rfl (by show 2 * 0 + _ ≤ _; exact Nat.le_of_eq rfl) (hb hby at_49) (fun _ _ => ⟨rfl, e121, (by decide : 0 + 0 ≤ _), (by decide : 0 + 0 ≤ _)⟩)
      dsimp only [Pt.U, Pt.locs, Pt.cells, Pt.slots] at X122 l122 y122 z122 st122 hQ122
      subst l122 y122 z122
      obtain ⟨hv122, N122q, e122⟩ := hQ122
      rw [(show (own_part (97 : Int32)) = (1023 : Int32) from by decide)] at hv122; subst hv122
      have N122 := Fr.app N121 N122q
      refine Go.pull (V := T122.setTop (mkF m 52 #[iv pa, iv pb, iv 2, iv 3, iv 519, iv 1023, iv 448, iv 56, iv 519, .unset] [(.int 1023)])) st122 ?_
      refine Go.pull (V := T122.setTop (mkF m 54 #[iv pa, iv pb, iv 2, iv 3, iv 519, iv 1023, iv 448, iv 56, iv 519, iv 1023] [])) (fun t k => XS.istore X122.here hx rfl (hb hby at_52) rfl (l' := #[iv pa, iv pb, iv 2, iv 3, iv 519, iv 1023, iv 448, iv 56, iv 519, iv 1023]) rfl k) ?_
      refine Go.pull (V := T122.setTop (mkF m 56 #[iv pa, iv pb, iv 2, iv 3, iv 519, iv 1023, iv 448, iv 56, iv 519, iv 1023] [(.int 519)])) (fun t k => XS.iload X122.here hx rfl (hb hby at_54) rfl  k) ?_
      refine Go.pull (V := T122.setTop (mkF m 57 #[iv pa, iv pb, iv 2, iv 3, iv 519, iv 1023, iv 448, iv 56, iv 519, iv 1023] [(.int 2), (.int 519)])) (fun t k => XS.iloadN X122.here hx rfl (hb hby at_56) rfl  k) ?_
      obtain ⟨_, _, ⟨T123, L123, k123, n123⟩, -, X123, ⟨Lc123, hQ123, l123, y123, z123⟩, st123⟩ := Jvm.LawKit.callS X122 hx (y := (⟨"com/example/facl/facl/ModeSpecPartPinLaw", "expected", "(I)I"⟩ : MethodName)) hown (mvT hZ (hw _ (List.mem_of_getElem? (i := 8) rfl))) (mvT hZ (hw _ (List.mem_of_getElem? (i := 9) rfl))) (mvT hZ (hw _ (List.mem_of_getElem? (i := 2) rfl))) (mvT hZ (hw _ (List.mem_of_getElem? (i := 10) rfl))) (by decide) (backOf (W := 1) (rmX l Z a0 hw [] (2 : Int32) h0 n0 ) hZ (hw _ (List.mem_of_getElem? (i := 10) rfl)) (hw _ (List.mem_of_getElem? (i := 2) rfl)) (by decide) (by decide)) (g := (mkF m 57 #[iv pa, iv pb, iv 2, iv 3, iv 519, iv 1023, iv 448, iv 56, iv 519, iv 1023] [(.int 2), (.int 519)])) rfl (by rw [hml]; rfl) (argsL := [(.int 2)]) (rest := [(.int 519)]) (lenOf pd_2 rfl) rfl (by show 2 * 0 + _ ≤ _; exact Nat.le_of_eq rfl) (hb hby at_57) (fun _ _ => ⟨rfl, e122, (by decide : 0 + 0 ≤ _), (by decide : 0 + 0 ≤ _)⟩)
      dsimp only [Pt.U, Pt.locs, Pt.cells, Pt.slots] at X123 l123 y123 z123 st123 hQ123
      subst l123 y123 z123
      obtain ⟨hv123, N123q, e123⟩ := hQ123
      rw [(show (own_expected (2 : Int32)) = (519 : Int32) from by decide)] at hv123; subst hv123
      have N123 := Fr.app N122 N123q
      refine Go.pull (V := T123.setTop (mkF m 60 #[iv pa, iv pb, iv 2, iv 3, iv 519, iv 1023, iv 448, iv 56, iv 519, iv 1023] [(.int 519), (.int 519)])) st123 ?_
      refine Go.pull (V := T123.setTop (mkF m 63 #[iv pa, iv pb, iv 2, iv 3, iv 519, iv 1023, iv 448, iv 56, iv 519, iv 1023] [])) (fun t k => XS.icmpNo X123.here hx rfl (hb hby at_60) rfl (XT.ii_ne_f (by decide)) k) ?_
      refine Go.pull (V := T123.setTop (mkF m 65 #[iv pa, iv pb, iv 2, iv 3, iv 519, iv 1023, iv 448, iv 56, iv 519, iv 1023] [(.int 1023)])) (fun t k => XS.iload X123.here hx rfl (hb hby at_63) rfl  k) ?_
      refine Go.pull (V := T123.setTop (mkF m 66 #[iv pa, iv pb, iv 2, iv 3, iv 519, iv 1023, iv 448, iv 56, iv 519, iv 1023] [(.int 3), (.int 1023)])) (fun t k => XS.iloadN X123.here hx rfl (hb hby at_65) rfl  k) ?_
      obtain ⟨_, _, ⟨T124, L124, k124, n124⟩, -, X124, ⟨Lc124, hQ124, l124, y124, z124⟩, st124⟩ := Jvm.LawKit.callS X123 hx (y := (⟨"com/example/facl/facl/ModeSpecPartPinLaw", "expected", "(I)I"⟩ : MethodName)) hown (mvT hZ (hw _ (List.mem_of_getElem? (i := 8) rfl))) (mvT hZ (hw _ (List.mem_of_getElem? (i := 9) rfl))) (mvT hZ (hw _ (List.mem_of_getElem? (i := 2) rfl))) (mvT hZ (hw _ (List.mem_of_getElem? (i := 10) rfl))) (by decide) (backOf (W := 1) (rmX l Z a0 hw [] (3 : Int32) h0 n0 ) hZ (hw _ (List.mem_of_getElem? (i := 10) rfl)) (hw _ (List.mem_of_getElem? (i := 2) rfl)) (by decide) (by decide)) (g := (mkF m 66 #[iv pa, iv pb, iv 2, iv 3, iv 519, iv 1023, iv 448, iv 56, iv 519, iv 1023] [(.int 3), (.int 1023)])) rfl (by rw [hml]; rfl) (argsL := [(.int 3)]) (rest := [(.int 1023)]) (lenOf pd_2 rfl) rfl (by show 2 * 0 + _ ≤ _; exact Nat.le_of_eq rfl) (hb hby at_66) (fun _ _ => ⟨rfl, e123, (by decide : 0 + 0 ≤ _), (by decide : 0 + 0 ≤ _)⟩)
      dsimp only [Pt.U, Pt.locs, Pt.cells, Pt.slots] at X124 l124 y124 z124 st124 hQ124
      subst l124 y124 z124
      obtain ⟨hv124, N124q, e124⟩ := hQ124
      rw [(show (own_expected (3 : Int32)) = (1023 : Int32) from by decide)] at hv124; subst hv124
      have N124 := Fr.app N123 N124q
      refine Go.pull (V := T124.setTop (mkF m 69 #[iv pa, iv pb, iv 2, iv 3, iv 519, iv 1023, iv 448, iv 56, iv 519, iv 1023] [(.int 1023), (.int 1023)])) st124 ?_
      refine Go.pull (V := T124.setTop (mkF m 74 #[iv pa, iv pb, iv 2, iv 3, iv 519, iv 1023, iv 448, iv 56, iv 519, iv 1023] [])) (fun t k => XS.icmpYes X124.here hx rfl (pc0 := 69) (pc' := 74) rfl (hb hby at_69) rfl (XT.ii_eq_t (by decide)) (by decide) (by decide) k) ?_
      refine Go.pull (V := T124.setTop (mkF m 76 #[iv pa, iv pb, iv 2, iv 3, iv 519, iv 1023, iv 448, iv 56, iv 519, iv 1023] [(.int 519)])) (fun t k => XS.iload X124.here hx rfl (hb hby at_74) rfl  k) ?_
      refine Go.pull (V := T124.setTop (mkF m 79 #[iv pa, iv pb, iv 2, iv 3, iv 519, iv 1023, iv 448, iv 56, iv 519, iv 1023] [(.int (-1024)), (.int 519)])) (fun t k => XS.sipush X124.here hx rfl (hb hby at_76) k) ?_
      refine Go.pull (V := T124.setTop (mkF m 80 #[iv pa, iv pb, iv 2, iv 3, iv 519, iv 1023, iv 448, iv 56, iv 519, iv 1023] [(.int 0)])) (fun t k => XS.iand X124.here hx rfl (hb hby at_79) rfl k) ?_
      refine Go.pull (V := T124.setTop (mkF m 83 #[iv pa, iv pb, iv 2, iv 3, iv 519, iv 1023, iv 448, iv 56, iv 519, iv 1023] [])) (fun t k => XS.ifNo X124.here hx rfl (hb hby at_80) rfl (XT.i0_ne_f (by decide)) k) ?_
      refine Go.pull (V := T124.setTop (mkF m 85 #[iv pa, iv pb, iv 2, iv 3, iv 519, iv 1023, iv 448, iv 56, iv 519, iv 1023] [(.int 1023)])) (fun t k => XS.iload X124.here hx rfl (hb hby at_83) rfl  k) ?_
      refine Go.pull (V := T124.setTop (mkF m 88 #[iv pa, iv pb, iv 2, iv 3, iv 519, iv 1023, iv 448, iv 56, iv 519, iv 1023] [(.int (-1024)), (.int 1023)])) (fun t k => XS.sipush X124.here hx rfl (hb hby at_85) k) ?_
      refine Go.pull (V := T124.setTop (mkF m 89 #[iv pa, iv pb, iv 2, iv 3, iv 519, iv 1023, iv 448, iv 56, iv 519, iv 1023] [(.int 0)])) (fun t k => XS.iand X124.here hx rfl (hb hby at_88) rfl k) ?_
      refine Go.pull (V := T124.setTop (mkF m 94 #[iv pa, iv pb, iv 2, iv 3, iv 519, iv 1023, iv 448, iv 56, iv 519, iv 1023] [])) (fun t k => XS.ifYes X124.here hx rfl (pc0 := 89) (pc' := 94) rfl (hb hby at_89) rfl (XT.i0_eq_t (by decide)) (by decide) (by decide) k) ?_
      refine Go.pull (V := T124.setTop (mkF m 96 #[iv pa, iv pb, iv 2, iv 3, iv 519, iv 1023, iv 448, iv 56, iv 519, iv 1023] [(.int 1023)])) (fun t k => XS.iload X124.here hx rfl (hb hby at_94) rfl  k) ?_
      refine Go.pull (V := T124.setTop (mkF m 99 #[iv pa, iv pb, iv 2, iv 3, iv 519, iv 1023, iv 448, iv 56, iv 519, iv 1023] [(.int 1023), (.int 1023)])) (fun t k => XS.sipush X124.here hx rfl (hb hby at_96) k) ?_
      refine Go.pull (V := T124.setTop (mkF m 102 #[iv pa, iv pb, iv 2, iv 3, iv 519, iv 1023, iv 448, iv 56, iv 519, iv 1023] [])) (fun t k => XS.icmpNo X124.here hx rfl (hb hby at_99) rfl (XT.ii_ne_f (by decide)) k) ?_
      refine Go.pull (V := T124.setTop (mkF m 104 #[iv pa, iv pb, iv 2, iv 3, iv 519, iv 1023, iv 448, iv 56, iv 519, iv 1023] [(.int 448)])) (fun t k => XS.iload X124.here hx rfl (hb hby at_102) rfl  k) ?_
      refine Go.pull (V := T124.setTop (mkF m 106 #[iv pa, iv pb, iv 2, iv 3, iv 519, iv 1023, iv 448, iv 56, iv 519, iv 1023] [(.int 56), (.int 448)])) (fun t k => XS.iload X124.here hx rfl (hb hby at_104) rfl  k) ?_
      refine Go.pull (V := T124.setTop (mkF m 107 #[iv pa, iv pb, iv 2, iv 3, iv 519, iv 1023, iv 448, iv 56, iv 519, iv 1023] [(.int 504)])) (fun t k => XS.ior X124.here hx rfl (hb hby at_106) rfl k) ?_
      refine Go.pull (V := T124.setTop (mkF m 109 #[iv pa, iv pb, iv 2, iv 3, iv 519, iv 1023, iv 448, iv 56, iv 519, iv 1023] [(.int 519), (.int 504)])) (fun t k => XS.iload X124.here hx rfl (hb hby at_107) rfl  k) ?_
      refine Go.pull (V := T124.setTop (mkF m 110 #[iv pa, iv pb, iv 2, iv 3, iv 519, iv 1023, iv 448, iv 56, iv 519, iv 1023] [(.int 1023)])) (fun t k => XS.ior X124.here hx rfl (hb hby at_109) rfl k) ?_
      refine Go.pull (V := T124.setTop (mkF m 112 #[iv pa, iv pb, iv 2, iv 3, iv 519, iv 1023, iv 448, iv 56, iv 519, iv 1023] [(.int 1023), (.int 1023)])) (fun t k => XS.iload X124.here hx rfl (hb hby at_110) rfl  k) ?_
      refine Go.pull (V := T124.setTop (mkF m 117 #[iv pa, iv pb, iv 2, iv 3, iv 519, iv 1023, iv 448, iv 56, iv 519, iv 1023] [])) (fun t k => XS.icmpYes X124.here hx rfl (pc0 := 112) (pc' := 117) rfl (hb hby at_112) rfl (XT.ii_eq_t (by decide)) (by decide) (by decide) k) ?_
      refine Go.pull (V := T124.setTop (mkF m 119 #[iv pa, iv pb, iv 2, iv 3, iv 519, iv 1023, iv 448, iv 56, iv 519, iv 1023] [(.int 448)])) (fun t k => XS.iload X124.here hx rfl (hb hby at_117) rfl  k) ?_
      refine Go.pull (V := T124.setTop (mkF m 121 #[iv pa, iv pb, iv 2, iv 3, iv 519, iv 1023, iv 448, iv 56, iv 519, iv 1023] [(.int 56), (.int 448)])) (fun t k => XS.iload X124.here hx rfl (hb hby at_119) rfl  k) ?_
      refine Go.pull (V := T124.setTop (mkF m 122 #[iv pa, iv pb, iv 2, iv 3, iv 519, iv 1023, iv 448, iv 56, iv 519, iv 1023] [(.int 0)])) (fun t k => XS.iand X124.here hx rfl (hb hby at_121) rfl k) ?_
      refine Go.pull (V := T124.setTop (mkF m 125 #[iv pa, iv pb, iv 2, iv 3, iv 519, iv 1023, iv 448, iv 56, iv 519, iv 1023] [])) (fun t k => XS.ifNo X124.here hx rfl (hb hby at_122) rfl (XT.i0_ne_f (by decide)) k) ?_
      refine Go.pull (V := T124.setTop (mkF m 127 #[iv pa, iv pb, iv 2, iv 3, iv 519, iv 1023, iv 448, iv 56, iv 519, iv 1023] [(.int 448)])) (fun t k => XS.iload X124.here hx rfl (hb hby at_125) rfl  k) ?_
      refine Go.pull (V := T124.setTop (mkF m 129 #[iv pa, iv pb, iv 2, iv 3, iv 519, iv 1023, iv 448, iv 56, iv 519, iv 1023] [(.int 519), (.int 448)])) (fun t k => XS.iload X124.here hx rfl (hb hby at_127) rfl  k) ?_
      refine Go.pull (V := T124.setTop (mkF m 130 #[iv pa, iv pb, iv 2, iv 3, iv 519, iv 1023, iv 448, iv 56, iv 519, iv 1023] [(.int 0)])) (fun t k => XS.iand X124.here hx rfl (hb hby at_129) rfl k) ?_
      refine Go.pull (V := T124.setTop (mkF m 133 #[iv pa, iv pb, iv 2, iv 3, iv 519, iv 1023, iv 448, iv 56, iv 519, iv 1023] [])) (fun t k => XS.ifNo X124.here hx rfl (hb hby at_130) rfl (XT.i0_ne_f (by decide)) k) ?_
      refine Go.pull (V := T124.setTop (mkF m 135 #[iv pa, iv pb, iv 2, iv 3, iv 519, iv 1023, iv 448, iv 56, iv 519, iv 1023] [(.int 56)])) (fun t k => XS.iload X124.here hx rfl (hb hby at_133) rfl  k) ?_
      refine Go.pull (V := T124.setTop (mkF m 137 #[iv pa, iv pb, iv 2, iv 3, iv 519, iv 1023, iv 448, iv 56, iv 519, iv 1023] [(.int 519), (.int 56)])) (fun t k => XS.iload X124.here hx rfl (hb hby at_135) rfl  k) ?_
      refine Go.pull (V := T124.setTop (mkF m 138 #[iv pa, iv pb, iv 2, iv 3, iv 519, iv 1023, iv 448, iv 56, iv 519, iv 1023] [(.int 0)])) (fun t k => XS.iand X124.here hx rfl (hb hby at_137) rfl k) ?_
      refine Go.pull (V := T124.setTop (mkF m 143 #[iv pa, iv pb, iv 2, iv 3, iv 519, iv 1023, iv 448, iv 56, iv 519, iv 1023] [])) (fun t k => XS.ifYes X124.here hx rfl (pc0 := 138) (pc' := 143) rfl (hb hby at_138) rfl (XT.i0_eq_t (by decide)) (by decide) (by decide) k) ?_
      refine Go.pull (V := T124.setTop (mkF m 144 #[iv pa, iv pb, iv 2, iv 3, iv 519, iv 1023, iv 448, iv 56, iv 519, iv 1023] [(.int 2)])) (fun t k => XS.iloadN X124.here hx rfl (hb hby at_143) rfl  k) ?_
      refine Go.pull (V := T124.setTop (mkF m 145 #[iv pa, iv pb, iv 2, iv 3, iv 519, iv 1023, iv 448, iv 56, iv 519, iv 1023] [(.int 3), (.int 2)])) (fun t k => XS.iloadN X124.here hx rfl (hb hby at_144) rfl  k) ?_
      refine Go.pull (V := T124.setTop (mkF m 148 #[iv pa, iv pb, iv 2, iv 3, iv 519, iv 1023, iv 448, iv 56, iv 519, iv 1023] [])) (fun t k => XS.icmpNo X124.here hx rfl (hb hby at_145) rfl (XT.ii_eq_f (by decide)) k) ?_
      refine Go.pull (V := T124.setTop (mkF m 149 #[iv pa, iv pb, iv 2, iv 3, iv 519, iv 1023, iv 448, iv 56, iv 519, iv 1023] [(.int 2)])) (fun t k => XS.iloadN X124.here hx rfl (hb hby at_148) rfl  k) ?_
      refine Go.pull (V := T124.setTop (mkF m 150 #[iv pa, iv pb, iv 2, iv 3, iv 519, iv 1023, iv 448, iv 56, iv 519, iv 1023] [(.int 3), (.int 2)])) (fun t k => XS.iconst X124.here hx rfl (hb hby at_149) k) ?_
      refine Go.pull (V := T124.setTop (mkF m 153 #[iv pa, iv pb, iv 2, iv 3, iv 519, iv 1023, iv 448, iv 56, iv 519, iv 1023] [])) (fun t k => XS.icmpNo X124.here hx rfl (hb hby at_150) rfl (XT.ii_eq_f (by decide)) k) ?_
      refine Go.pull (V := T124.setTop (mkF m 154 #[iv pa, iv pb, iv 2, iv 3, iv 519, iv 1023, iv 448, iv 56, iv 519, iv 1023] [(.int 3)])) (fun t k => XS.iloadN X124.here hx rfl (hb hby at_153) rfl  k) ?_
      refine Go.pull (V := T124.setTop (mkF m 155 #[iv pa, iv pb, iv 2, iv 3, iv 519, iv 1023, iv 448, iv 56, iv 519, iv 1023] [(.int 3), (.int 3)])) (fun t k => XS.iconst X124.here hx rfl (hb hby at_154) k) ?_
      refine Go.pull (V := T124.setTop (mkF m 168 #[iv pa, iv pb, iv 2, iv 3, iv 519, iv 1023, iv 448, iv 56, iv 519, iv 1023] [])) (fun t k => XS.icmpYes X124.here hx rfl (pc0 := 155) (pc' := 168) rfl (hb hby at_155) rfl (XT.ii_eq_t (by decide)) (by decide) (by decide) k) ?_
      refine Go.pull (V := T124.setTop (mkF m 170 #[iv pa, iv pb, iv 2, iv 3, iv 519, iv 1023, iv 448, iv 56, iv 519, iv 1023] [(.int 519)])) (fun t k => XS.iload X124.here hx rfl (hb hby at_168) rfl  k) ?_
      refine Go.pull (V := T124.setTop (mkF m 173 #[iv pa, iv pb, iv 2, iv 3, iv 519, iv 1023, iv 448, iv 56, iv 519, iv 1023] [(.int 512), (.int 519)])) (fun t k => XS.sipush X124.here hx rfl (hb hby at_170) k) ?_
      refine Go.pull (V := T124.setTop (mkF m 174 #[iv pa, iv pb, iv 2, iv 3, iv 519, iv 1023, iv 448, iv 56, iv 519, iv 1023] [(.int 512)])) (fun t k => XS.iand X124.here hx rfl (hb hby at_173) rfl k) ?_
      refine Go.pull (V := T124.setTop (mkF m 177 #[iv pa, iv pb, iv 2, iv 3, iv 519, iv 1023, iv 448, iv 56, iv 519, iv 1023] [])) (fun t k => XS.ifNo X124.here hx rfl (hb hby at_174) rfl (XT.i0_eq_f (by decide)) k) ?_
      refine Go.pull (V := T124.setTop (mkF m 179 #[iv pa, iv pb, iv 2, iv 3, iv 519, iv 1023, iv 448, iv 56, iv 519, iv 1023] [(.int 448)])) (fun t k => XS.iload X124.here hx rfl (hb hby at_177) rfl  k) ?_
      refine Go.pull (V := T124.setTop (mkF m 181 #[iv pa, iv pb, iv 2, iv 3, iv 519, iv 1023, iv 448, iv 56, iv 519, iv 1023] [(.int 56), (.int 448)])) (fun t k => XS.iload X124.here hx rfl (hb hby at_179) rfl  k) ?_
      refine Go.pull (V := T124.setTop (mkF m 182 #[iv pa, iv pb, iv 2, iv 3, iv 519, iv 1023, iv 448, iv 56, iv 519, iv 1023] [(.int 504)])) (fun t k => XS.ior X124.here hx rfl (hb hby at_181) rfl k) ?_
      refine Go.pull (V := T124.setTop (mkF m 185 #[iv pa, iv pb, iv 2, iv 3, iv 519, iv 1023, iv 448, iv 56, iv 519, iv 1023] [(.int 512), (.int 504)])) (fun t k => XS.sipush X124.here hx rfl (hb hby at_182) k) ?_
      refine Go.pull (V := T124.setTop (mkF m 186 #[iv pa, iv pb, iv 2, iv 3, iv 519, iv 1023, iv 448, iv 56, iv 519, iv 1023] [(.int 0)])) (fun t k => XS.iand X124.here hx rfl (hb hby at_185) rfl k) ?_
      refine Go.pull (V := T124.setTop (mkF m 191 #[iv pa, iv pb, iv 2, iv 3, iv 519, iv 1023, iv 448, iv 56, iv 519, iv 1023] [])) (fun t k => XS.ifYes X124.here hx rfl (pc0 := 186) (pc' := 191) rfl (hb hby at_186) rfl (XT.i0_eq_t (by decide)) (by decide) (by decide) k) ?_
      refine Go.pull (V := T124.setTop (mkF m 192 #[iv pa, iv pb, iv 2, iv 3, iv 519, iv 1023, iv 448, iv 56, iv 519, iv 1023] [(.int 1)])) (fun t k => XS.iconst X124.here hx rfl (hb hby at_191) k) ?_
      exact Go.retN X124 hx Bd.notSynchronized (t := .boolean) Bd.returns (by simp) (hb hby at_192) ⟨rfl, N124⟩ (by decide) (by decide)
  · subst hv1
    refine Go.pull (V := s₁.setTop (mkF m 5 #[iv pa, iv pb, iv 3, .unset, .unset, .unset, .unset, .unset, .unset, .unset] [(.int pb)])) (fun t k => XS.iloadN X0.here hx rfl (hb hby at_4) rfl  k) ?_
    refine Go.pull (V := s₁.setTop (mkF m 6 #[iv pa, iv pb, iv 3, .unset, .unset, .unset, .unset, .unset, .unset, .unset] [(.int 3), (.int pb)])) (fun t k => XS.iconst X0.here hx rfl (hb hby at_5) k) ?_
    refine Go.pull (V := s₁.setTop (mkF m 7 #[iv pa, iv pb, iv 3, .unset, .unset, .unset, .unset, .unset, .unset, .unset] [(.int (pb &&& (3 : Int32)))])) (fun t k => XS.iand X0.here hx rfl (hb hby at_6) rfl k) ?_
    refine Go.pull (V := s₁.setTop (mkF m 8 #[iv pa, iv pb, iv 3, iv (pb &&& (3 : Int32)), .unset, .unset, .unset, .unset, .unset, .unset] [])) (fun t k => XS.istoreN X0.here hx rfl (hb hby at_7) rfl (l' := #[iv pa, iv pb, iv 3, iv (pb &&& (3 : Int32)), .unset, .unset, .unset, .unset, .unset, .unset]) rfl k) ?_
    generalize gv125 : (pb &&& (3 : Int32)) = v125
    obtain hv125 | hv125 | hv125 | hv125 := own_and3 _ gv125
    · subst hv125
      refine Go.pull (V := s₁.setTop (mkF m 9 #[iv pa, iv pb, iv 3, iv 0, .unset, .unset, .unset, .unset, .unset, .unset] [(.int 3)])) (fun t k => XS.iloadN X0.here hx rfl (hb hby at_8) rfl  k) ?_
      obtain ⟨_, _, ⟨T126, L126, k126, n126⟩, -, X126, ⟨Lc126, hQ126, l126, y126, z126⟩, st126⟩ := Jvm.LawKit.callS X0 hx (y := (⟨"com/example/facl/facl/ModeSpecPartPinLaw", "letter", "(I)C"⟩ : MethodName)) hown (mvT hZ (hw _ (List.mem_of_getElem? (i := 0) rfl))) (mvT hZ (hw _ (List.mem_of_getElem? (i := 1) rfl))) (mvT hZ (hw _ (List.mem_of_getElem? (i := 2) rfl))) (mvT hZ (hw _ (List.mem_of_getElem? (i := 3) rfl))) (by decide) (backOf (W := 0) (rmL l Z a0 hw [] (3 : Int32) h0 n0 ) hZ (hw _ (List.mem_of_getElem? (i := 3) rfl)) (hw _ (List.mem_of_getElem? (i := 2) rfl)) (by decide) (by decide)) (g := (mkF m 9 #[iv pa, iv pb, iv 3, iv 0, .unset, .unset, .unset, .unset, .unset, .unset] [(.int 3)])) rfl (by rw [hml]; rfl) (argsL := [(.int 3)]) (rest := []) (lenOf pd_0 rfl) rfl (by show 2 * 0 + _ ≤ _; exact Nat.le_of_eq rfl) (hb hby at_9) (fun _ _ => ⟨rfl, e0, (by decide : 0 + 0 ≤ _), (by decide : 0 + 0 ≤ _)⟩)
      dsimp only [Pt.U, Pt.locs, Pt.cells, Pt.slots] at X126 l126 y126 z126 st126 hQ126
      subst l126 y126 z126
      obtain ⟨hv126, N126q, e126⟩ := hQ126
      rw [(show (own_letter (3 : Int32)) = (97 : Int32) from by decide)] at hv126; subst hv126
      have N126 := Fr.app N0 N126q
      refine Go.pull (V := T126.setTop (mkF m 12 #[iv pa, iv pb, iv 3, iv 0, .unset, .unset, .unset, .unset, .unset, .unset] [(.int 97)])) st126 ?_
      obtain ⟨_, _, ⟨T127, L127, k127, n127⟩, -, X127, ⟨Lc127, hQ127, l127, y127, z127⟩, st127⟩ := Jvm.LawKit.callS X126 hx (y := (⟨"com/example/facl/facl/ModeSpec", "part", "(C)I"⟩ : MethodName)) hown (mvT hZ (hw _ (List.mem_of_getElem? (i := 4) rfl))) (mvT hZ (hw _ (List.mem_of_getElem? (i := 5) rfl))) (mvT hZ (hw _ (List.mem_of_getElem? (i := 6) rfl))) (mvT hZ (hw _ (List.mem_of_getElem? (i := 7) rfl))) (by decide) (backOf (W := 0) (rmP l Z a0 hw [] (97 : Int32) h0 n0 (by decide)) hZ (hw _ (List.mem_of_getElem? (i := 7) rfl)) (hw _ (List.mem_of_getElem? (i := 6) rfl)) (by decide) (by decide)) (g := (mkF m 12 #[iv pa, iv pb, iv 3, iv 0, .unset, .unset, .unset, .unset, .unset, .unset] [(.int 97)])) rfl (by rw [hml]; rfl) (argsL := [(.int 97)]) (rest := []) (lenOf pd_1 rfl) rfl (by show 2 * 0 + _ ≤ _; exact Nat.le_of_eq rfl) (hb hby at_12) (fun _ _ => ⟨rfl, e126, (by decide : 0 + 0 ≤ _), (by decide : 0 + 0 ≤ _)⟩)
      dsimp only [Pt.U, Pt.locs, Pt.cells, Pt.slots] at X127 l127 y127 z127 st127 hQ127
      subst l127 y127 z127
      obtain ⟨hv127, N127q, e127⟩ := hQ127
      rw [(show (own_part (97 : Int32)) = (1023 : Int32) from by decide)] at hv127; subst hv127
      have N127 := Fr.app N126 N127q
      refine Go.pull (V := T127.setTop (mkF m 15 #[iv pa, iv pb, iv 3, iv 0, .unset, .unset, .unset, .unset, .unset, .unset] [(.int 1023)])) st127 ?_
      refine Go.pull (V := T127.setTop (mkF m 17 #[iv pa, iv pb, iv 3, iv 0, iv 1023, .unset, .unset, .unset, .unset, .unset] [])) (fun t k => XS.istore X127.here hx rfl (hb hby at_15) rfl (l' := #[iv pa, iv pb, iv 3, iv 0, iv 1023, .unset, .unset, .unset, .unset, .unset]) rfl k) ?_
      refine Go.pull (V := T127.setTop (mkF m 18 #[iv pa, iv pb, iv 3, iv 0, iv 1023, .unset, .unset, .unset, .unset, .unset] [(.int 0)])) (fun t k => XS.iloadN X127.here hx rfl (hb hby at_17) rfl  k) ?_
      obtain ⟨_, _, ⟨T128, L128, k128, n128⟩, -, X128, ⟨Lc128, hQ128, l128, y128, z128⟩, st128⟩ := Jvm.LawKit.callS X127 hx (y := (⟨"com/example/facl/facl/ModeSpecPartPinLaw", "letter", "(I)C"⟩ : MethodName)) hown (mvT hZ (hw _ (List.mem_of_getElem? (i := 0) rfl))) (mvT hZ (hw _ (List.mem_of_getElem? (i := 1) rfl))) (mvT hZ (hw _ (List.mem_of_getElem? (i := 2) rfl))) (mvT hZ (hw _ (List.mem_of_getElem? (i := 3) rfl))) (by decide) (backOf (W := 0) (rmL l Z a0 hw [] (0 : Int32) h0 n0 ) hZ (hw _ (List.mem_of_getElem? (i := 3) rfl)) (hw _ (List.mem_of_getElem? (i := 2) rfl)) (by decide) (by decide)) (g := (mkF m 18 #[iv pa, iv pb, iv 3, iv 0, iv 1023, .unset, .unset, .unset, .unset, .unset] [(.int 0)])) rfl (by rw [hml]; rfl) (argsL := [(.int 0)]) (rest := []) (lenOf pd_0 rfl) rfl (by show 2 * 0 + _ ≤ _; exact Nat.le_of_eq rfl) (hb hby at_18) (fun _ _ => ⟨rfl, e127, (by decide : 0 + 0 ≤ _), (by decide : 0 + 0 ≤ _)⟩)
      dsimp only [Pt.U, Pt.locs, Pt.cells, Pt.slots] at X128 l128 y128 z128 st128 hQ128
      subst l128 y128 z128
      obtain ⟨hv128, N128q, e128⟩ := hQ128
      rw [(show (own_letter (0 : Int32)) = (117 : Int32) from by decide)] at hv128; subst hv128
      have N128 := Fr.app N127 N128q
      refine Go.pull (V := T128.setTop (mkF m 21 #[iv pa, iv pb, iv 3, iv 0, iv 1023, .unset, .unset, .unset, .unset, .unset] [(.int 117)])) st128 ?_
      obtain ⟨_, _, ⟨T129, L129, k129, n129⟩, -, X129, ⟨Lc129, hQ129, l129, y129, z129⟩, st129⟩ := Jvm.LawKit.callS X128 hx (y := (⟨"com/example/facl/facl/ModeSpec", "part", "(C)I"⟩ : MethodName)) hown (mvT hZ (hw _ (List.mem_of_getElem? (i := 4) rfl))) (mvT hZ (hw _ (List.mem_of_getElem? (i := 5) rfl))) (mvT hZ (hw _ (List.mem_of_getElem? (i := 6) rfl))) (mvT hZ (hw _ (List.mem_of_getElem? (i := 7) rfl))) (by decide) (backOf (W := 0) (rmP l Z a0 hw [] (117 : Int32) h0 n0 (by decide)) hZ (hw _ (List.mem_of_getElem? (i := 7) rfl)) (hw _ (List.mem_of_getElem? (i := 6) rfl)) (by decide) (by decide)) (g := (mkF m 21 #[iv pa, iv pb, iv 3, iv 0, iv 1023, .unset, .unset, .unset, .unset, .unset] [(.int 117)])) rfl (by rw [hml]; rfl) (argsL := [(.int 117)]) (rest := []) (lenOf pd_1 rfl) rfl (by show 2 * 0 + _ ≤ _; exact Nat.le_of_eq rfl) (hb hby at_21) (fun _ _ => ⟨rfl, e128, (by decide : 0 + 0 ≤ _), (by decide : 0 + 0 ≤ _)⟩)
      dsimp only [Pt.U, Pt.locs, Pt.cells, Pt.slots] at X129 l129 y129 z129 st129 hQ129
      subst l129 y129 z129
      obtain ⟨hv129, N129q, e129⟩ := hQ129
      rw [(show (own_part (117 : Int32)) = (448 : Int32) from by decide)] at hv129; subst hv129
      have N129 := Fr.app N128 N129q
      refine Go.pull (V := T129.setTop (mkF m 24 #[iv pa, iv pb, iv 3, iv 0, iv 1023, .unset, .unset, .unset, .unset, .unset] [(.int 448)])) st129 ?_
      refine Go.pull (V := T129.setTop (mkF m 26 #[iv pa, iv pb, iv 3, iv 0, iv 1023, iv 448, .unset, .unset, .unset, .unset] [])) (fun t k => XS.istore X129.here hx rfl (hb hby at_24) rfl (l' := #[iv pa, iv pb, iv 3, iv 0, iv 1023, iv 448, .unset, .unset, .unset, .unset]) rfl k) ?_
      refine Go.pull (V := T129.setTop (mkF m 28 #[iv pa, iv pb, iv 3, iv 0, iv 1023, iv 448, .unset, .unset, .unset, .unset] [(.int 117)])) (fun t k => XS.bipush X129.here hx rfl (hb hby at_26) k) ?_
      obtain ⟨_, _, ⟨T130, L130, k130, n130⟩, -, X130, ⟨Lc130, hQ130, l130, y130, z130⟩, st130⟩ := Jvm.LawKit.callS X129 hx (y := (⟨"com/example/facl/facl/ModeSpec", "part", "(C)I"⟩ : MethodName)) hown (mvT hZ (hw _ (List.mem_of_getElem? (i := 4) rfl))) (mvT hZ (hw _ (List.mem_of_getElem? (i := 5) rfl))) (mvT hZ (hw _ (List.mem_of_getElem? (i := 6) rfl))) (mvT hZ (hw _ (List.mem_of_getElem? (i := 7) rfl))) (by decide) (backOf (W := 0) (rmP l Z a0 hw [] (117 : Int32) h0 n0 (by decide)) hZ (hw _ (List.mem_of_getElem? (i := 7) rfl)) (hw _ (List.mem_of_getElem? (i := 6) rfl)) (by decide) (by decide)) (g := (mkF m 28 #[iv pa, iv pb, iv 3, iv 0, iv 1023, iv 448, .unset, .unset, .unset, .unset] [(.int 117)])) rfl (by rw [hml]; rfl) (argsL := [(.int 117)]) (rest := []) (lenOf pd_1 rfl) rfl (by show 2 * 0 + _ ≤ _; exact Nat.le_of_eq rfl) (hb hby at_28) (fun _ _ => ⟨rfl, e129, (by decide : 0 + 0 ≤ _), (by decide : 0 + 0 ≤ _)⟩)
      dsimp only [Pt.U, Pt.locs, Pt.cells, Pt.slots] at X130 l130 y130 z130 st130 hQ130
      subst l130 y130 z130
      obtain ⟨hv130, N130q, e130⟩ := hQ130
      rw [(show (own_part (117 : Int32)) = (448 : Int32) from by decide)] at hv130; subst hv130
      have N130 := Fr.app N129 N130q
      refine Go.pull (V := T130.setTop (mkF m 31 #[iv pa, iv pb, iv 3, iv 0, iv 1023, iv 448, .unset, .unset, .unset, .unset] [(.int 448)])) st130 ?_
      refine Go.pull (V := T130.setTop (mkF m 33 #[iv pa, iv pb, iv 3, iv 0, iv 1023, iv 448, iv 448, .unset, .unset, .unset] [])) (fun t k => XS.istore X130.here hx rfl (hb hby at_31) rfl (l' := #[iv pa, iv pb, iv 3, iv 0, iv 1023, iv 448, iv 448, .unset, .unset, .unset]) rfl k) ?_
      refine Go.pull (V := T130.setTop (mkF m 35 #[iv pa, iv pb, iv 3, iv 0, iv 1023, iv 448, iv 448, .unset, .unset, .unset] [(.int 103)])) (fun t k => XS.bipush X130.here hx rfl (hb hby at_33) k) ?_
      obtain ⟨_, _, ⟨T131, L131, k131, n131⟩, -, X131, ⟨Lc131, hQ131, l131, y131, z131⟩, st131⟩ := Jvm.LawKit.callS X130 hx (y := (⟨"com/example/facl/facl/ModeSpec", "part", "(C)I"⟩ : MethodName)) hown (mvT hZ (hw _ (List.mem_of_getElem? (i := 4) rfl))) (mvT hZ (hw _ (List.mem_of_getElem? (i := 5) rfl))) (mvT hZ (hw _ (List.mem_of_getElem? (i := 6) rfl))) (mvT hZ (hw _ (List.mem_of_getElem? (i := 7) rfl))) (by decide) (backOf (W := 0) (rmP l Z a0 hw [] (103 : Int32) h0 n0 (by decide)) hZ (hw _ (List.mem_of_getElem? (i := 7) rfl)) (hw _ (List.mem_of_getElem? (i := 6) rfl)) (by decide) (by decide)) (g := (mkF m 35 #[iv pa, iv pb, iv 3, iv 0, iv 1023, iv 448, iv 448, .unset, .unset, .unset] [(.int 103)])) rfl (by rw [hml]; rfl) (argsL := [(.int 103)]) (rest := []) (lenOf pd_1 rfl) rfl (by show 2 * 0 + _ ≤ _; exact Nat.le_of_eq rfl) (hb hby at_35) (fun _ _ => ⟨rfl, e130, (by decide : 0 + 0 ≤ _), (by decide : 0 + 0 ≤ _)⟩)
      dsimp only [Pt.U, Pt.locs, Pt.cells, Pt.slots] at X131 l131 y131 z131 st131 hQ131
      subst l131 y131 z131
      obtain ⟨hv131, N131q, e131⟩ := hQ131
      rw [(show (own_part (103 : Int32)) = (56 : Int32) from by decide)] at hv131; subst hv131
      have N131 := Fr.app N130 N131q
      refine Go.pull (V := T131.setTop (mkF m 38 #[iv pa, iv pb, iv 3, iv 0, iv 1023, iv 448, iv 448, .unset, .unset, .unset] [(.int 56)])) st131 ?_
      refine Go.pull (V := T131.setTop (mkF m 40 #[iv pa, iv pb, iv 3, iv 0, iv 1023, iv 448, iv 448, iv 56, .unset, .unset] [])) (fun t k => XS.istore X131.here hx rfl (hb hby at_38) rfl (l' := #[iv pa, iv pb, iv 3, iv 0, iv 1023, iv 448, iv 448, iv 56, .unset, .unset]) rfl k) ?_
      refine Go.pull (V := T131.setTop (mkF m 42 #[iv pa, iv pb, iv 3, iv 0, iv 1023, iv 448, iv 448, iv 56, .unset, .unset] [(.int 111)])) (fun t k => XS.bipush X131.here hx rfl (hb hby at_40) k) ?_
      obtain ⟨_, _, ⟨T132, L132, k132, n132⟩, -, X132, ⟨Lc132, hQ132, l132, y132, z132⟩, st132⟩ := Jvm.LawKit.callS X131 hx (y := (⟨"com/example/facl/facl/ModeSpec", "part", "(C)I"⟩ : MethodName)) hown (mvT hZ (hw _ (List.mem_of_getElem? (i := 4) rfl))) (mvT hZ (hw _ (List.mem_of_getElem? (i := 5) rfl))) (mvT hZ (hw _ (List.mem_of_getElem? (i := 6) rfl))) (mvT hZ (hw _ (List.mem_of_getElem? (i := 7) rfl))) (by decide) (backOf (W := 0) (rmP l Z a0 hw [] (111 : Int32) h0 n0 (by decide)) hZ (hw _ (List.mem_of_getElem? (i := 7) rfl)) (hw _ (List.mem_of_getElem? (i := 6) rfl)) (by decide) (by decide)) (g := (mkF m 42 #[iv pa, iv pb, iv 3, iv 0, iv 1023, iv 448, iv 448, iv 56, .unset, .unset] [(.int 111)])) rfl (by rw [hml]; rfl) (argsL := [(.int 111)]) (rest := []) (lenOf pd_1 rfl) rfl (by show 2 * 0 + _ ≤ _; exact Nat.le_of_eq rfl) (hb hby at_42) (fun _ _ => ⟨rfl, e131, (by decide : 0 + 0 ≤ _), (by decide : 0 + 0 ≤ _)⟩)
      dsimp only [Pt.U, Pt.locs, Pt.cells, Pt.slots] at X132 l132 y132 z132 st132 hQ132
      subst l132 y132 z132
      obtain ⟨hv132, N132q, e132⟩ := hQ132
      rw [(show (own_part (111 : Int32)) = (519 : Int32) from by decide)] at hv132; subst hv132
      have N132 := Fr.app N131 N132q
      refine Go.pull (V := T132.setTop (mkF m 45 #[iv pa, iv pb, iv 3, iv 0, iv 1023, iv 448, iv 448, iv 56, .unset, .unset] [(.int 519)])) st132 ?_
      refine Go.pull (V := T132.setTop (mkF m 47 #[iv pa, iv pb, iv 3, iv 0, iv 1023, iv 448, iv 448, iv 56, iv 519, .unset] [])) (fun t k => XS.istore X132.here hx rfl (hb hby at_45) rfl (l' := #[iv pa, iv pb, iv 3, iv 0, iv 1023, iv 448, iv 448, iv 56, iv 519, .unset]) rfl k) ?_
      refine Go.pull (V := T132.setTop (mkF m 49 #[iv pa, iv pb, iv 3, iv 0, iv 1023, iv 448, iv 448, iv 56, iv 519, .unset] [(.int 97)])) (fun t k => XS.bipush X132.here hx rfl (hb hby at_47) k) ?_
      obtain ⟨_, _, ⟨T133, L133, k133, n133⟩, -, X133, ⟨Lc133, hQ133, l133, y133, z133⟩, st133⟩ := Jvm.LawKit.callS X132 hx (y := (⟨"com/example/facl/facl/ModeSpec", "part", "(C)I"⟩ : MethodName)) hown (mvT hZ (hw _ (List.mem_of_getElem? (i := 4) rfl))) (mvT hZ (hw _ (List.mem_of_getElem? (i := 5) rfl))) (mvT hZ (hw _ (List.mem_of_getElem? (i := 6) rfl))) (mvT hZ (hw _ (List.mem_of_getElem? (i := 7) rfl))) (by decide) (backOf (W := 0) (rmP l Z a0 hw [] (97 : Int32) h0 n0 (by decide)) hZ (hw _ (List.mem_of_getElem? (i := 7) rfl)) (hw _ (List.mem_of_getElem? (i := 6) rfl)) (by decide) (by decide)) (g := (mkF m 49 #[iv pa, iv pb, iv 3, iv 0, iv 1023, iv 448, iv 448, iv 56, iv 519, .unset] [(.int 97)])) rfl (by rw [hml]; rfl) (argsL := [(.int 97)]) (rest := []) (lenOf pd_1 rfl) rfl (by show 2 * 0 + _ ≤ _; exact Nat.le_of_eq rfl) (hb hby at_49) (fun _ _ => ⟨rfl, e132, (by decide : 0 + 0 ≤ _), (by decide : 0 + 0 ≤ _)⟩)
      dsimp only [Pt.U, Pt.locs, Pt.cells, Pt.slots] at X133 l133 y133 z133 st133 hQ133
      subst l133 y133 z133
      obtain ⟨hv133, N133q, e133⟩ := hQ133
      rw [(show (own_part (97 : Int32)) = (1023 : Int32) from by decide)] at hv133; subst hv133
      have N133 := Fr.app N132 N133q
      refine Go.pull (V := T133.setTop (mkF m 52 #[iv pa, iv pb, iv 3, iv 0, iv 1023, iv 448, iv 448, iv 56, iv 519, .unset] [(.int 1023)])) st133 ?_
      refine Go.pull (V := T133.setTop (mkF m 54 #[iv pa, iv pb, iv 3, iv 0, iv 1023, iv 448, iv 448, iv 56, iv 519, iv 1023] [])) (fun t k => XS.istore X133.here hx rfl (hb hby at_52) rfl (l' := #[iv pa, iv pb, iv 3, iv 0, iv 1023, iv 448, iv 448, iv 56, iv 519, iv 1023]) rfl k) ?_
      refine Go.pull (V := T133.setTop (mkF m 56 #[iv pa, iv pb, iv 3, iv 0, iv 1023, iv 448, iv 448, iv 56, iv 519, iv 1023] [(.int 1023)])) (fun t k => XS.iload X133.here hx rfl (hb hby at_54) rfl  k) ?_
      refine Go.pull (V := T133.setTop (mkF m 57 #[iv pa, iv pb, iv 3, iv 0, iv 1023, iv 448, iv 448, iv 56, iv 519, iv 1023] [(.int 3), (.int 1023)])) (fun t k => XS.iloadN X133.here hx rfl (hb hby at_56) rfl  k) ?_
      obtain ⟨_, _, ⟨T134, L134, k134, n134⟩, -, X134, ⟨Lc134, hQ134, l134, y134, z134⟩, st134⟩ := Jvm.LawKit.callS X133 hx (y := (⟨"com/example/facl/facl/ModeSpecPartPinLaw", "expected", "(I)I"⟩ : MethodName)) hown (mvT hZ (hw _ (List.mem_of_getElem? (i := 8) rfl))) (mvT hZ (hw _ (List.mem_of_getElem? (i := 9) rfl))) (mvT hZ (hw _ (List.mem_of_getElem? (i := 2) rfl))) (mvT hZ (hw _ (List.mem_of_getElem? (i := 10) rfl))) (by decide) (backOf (W := 1) (rmX l Z a0 hw [] (3 : Int32) h0 n0 ) hZ (hw _ (List.mem_of_getElem? (i := 10) rfl)) (hw _ (List.mem_of_getElem? (i := 2) rfl)) (by decide) (by decide)) (g := (mkF m 57 #[iv pa, iv pb, iv 3, iv 0, iv 1023, iv 448, iv 448, iv 56, iv 519, iv 1023] [(.int 3), (.int 1023)])) rfl (by rw [hml]; rfl) (argsL := [(.int 3)]) (rest := [(.int 1023)]) (lenOf pd_2 rfl) rfl (by show 2 * 0 + _ ≤ _; exact Nat.le_of_eq rfl) (hb hby at_57) (fun _ _ => ⟨rfl, e133, (by decide : 0 + 0 ≤ _), (by decide : 0 + 0 ≤ _)⟩)
      dsimp only [Pt.U, Pt.locs, Pt.cells, Pt.slots] at X134 l134 y134 z134 st134 hQ134
      subst l134 y134 z134
      obtain ⟨hv134, N134q, e134⟩ := hQ134
      rw [(show (own_expected (3 : Int32)) = (1023 : Int32) from by decide)] at hv134; subst hv134
      have N134 := Fr.app N133 N134q
      refine Go.pull (V := T134.setTop (mkF m 60 #[iv pa, iv pb, iv 3, iv 0, iv 1023, iv 448, iv 448, iv 56, iv 519, iv 1023] [(.int 1023), (.int 1023)])) st134 ?_
      refine Go.pull (V := T134.setTop (mkF m 63 #[iv pa, iv pb, iv 3, iv 0, iv 1023, iv 448, iv 448, iv 56, iv 519, iv 1023] [])) (fun t k => XS.icmpNo X134.here hx rfl (hb hby at_60) rfl (XT.ii_ne_f (by decide)) k) ?_
      refine Go.pull (V := T134.setTop (mkF m 65 #[iv pa, iv pb, iv 3, iv 0, iv 1023, iv 448, iv 448, iv 56, iv 519, iv 1023] [(.int 448)])) (fun t k => XS.iload X134.here hx rfl (hb hby at_63) rfl  k) ?_
      refine Go.pull (V := T134.setTop (mkF m 66 #[iv pa, iv pb, iv 3, iv 0, iv 1023, iv 448, iv 448, iv 56, iv 519, iv 1023] [(.int 0), (.int 448)])) (fun t k => XS.iloadN X134.here hx rfl (hb hby at_65) rfl  k) ?_
      obtain ⟨_, _, ⟨T135, L135, k135, n135⟩, -, X135, ⟨Lc135, hQ135, l135, y135, z135⟩, st135⟩ := Jvm.LawKit.callS X134 hx (y := (⟨"com/example/facl/facl/ModeSpecPartPinLaw", "expected", "(I)I"⟩ : MethodName)) hown (mvT hZ (hw _ (List.mem_of_getElem? (i := 8) rfl))) (mvT hZ (hw _ (List.mem_of_getElem? (i := 9) rfl))) (mvT hZ (hw _ (List.mem_of_getElem? (i := 2) rfl))) (mvT hZ (hw _ (List.mem_of_getElem? (i := 10) rfl))) (by decide) (backOf (W := 1) (rmX l Z a0 hw [] (0 : Int32) h0 n0 ) hZ (hw _ (List.mem_of_getElem? (i := 10) rfl)) (hw _ (List.mem_of_getElem? (i := 2) rfl)) (by decide) (by decide)) (g := (mkF m 66 #[iv pa, iv pb, iv 3, iv 0, iv 1023, iv 448, iv 448, iv 56, iv 519, iv 1023] [(.int 0), (.int 448)])) rfl (by rw [hml]; rfl) (argsL := [(.int 0)]) (rest := [(.int 448)]) (lenOf pd_2 rfl) rfl (by show 2 * 0 + _ ≤ _; exact Nat.le_of_eq rfl) (hb hby at_66) (fun _ _ => ⟨rfl, e134, (by decide : 0 + 0 ≤ _), (by decide : 0 + 0 ≤ _)⟩)
      dsimp only [Pt.U, Pt.locs, Pt.cells, Pt.slots] at X135 l135 y135 z135 st135 hQ135
      subst l135 y135 z135
      obtain ⟨hv135, N135q, e135⟩ := hQ135
      rw [(show (own_expected (0 : Int32)) = (448 : Int32) from by decide)] at hv135; subst hv135
      have N135 := Fr.app N134 N135q
      refine Go.pull (V := T135.setTop (mkF m 69 #[iv pa, iv pb, iv 3, iv 0, iv 1023, iv 448, iv 448, iv 56, iv 519, iv 1023] [(.int 448), (.int 448)])) st135 ?_
      refine Go.pull (V := T135.setTop (mkF m 74 #[iv pa, iv pb, iv 3, iv 0, iv 1023, iv 448, iv 448, iv 56, iv 519, iv 1023] [])) (fun t k => XS.icmpYes X135.here hx rfl (pc0 := 69) (pc' := 74) rfl (hb hby at_69) rfl (XT.ii_eq_t (by decide)) (by decide) (by decide) k) ?_
      refine Go.pull (V := T135.setTop (mkF m 76 #[iv pa, iv pb, iv 3, iv 0, iv 1023, iv 448, iv 448, iv 56, iv 519, iv 1023] [(.int 1023)])) (fun t k => XS.iload X135.here hx rfl (hb hby at_74) rfl  k) ?_
      refine Go.pull (V := T135.setTop (mkF m 79 #[iv pa, iv pb, iv 3, iv 0, iv 1023, iv 448, iv 448, iv 56, iv 519, iv 1023] [(.int (-1024)), (.int 1023)])) (fun t k => XS.sipush X135.here hx rfl (hb hby at_76) k) ?_
      refine Go.pull (V := T135.setTop (mkF m 80 #[iv pa, iv pb, iv 3, iv 0, iv 1023, iv 448, iv 448, iv 56, iv 519, iv 1023] [(.int 0)])) (fun t k => XS.iand X135.here hx rfl (hb hby at_79) rfl k) ?_
      refine Go.pull (V := T135.setTop (mkF m 83 #[iv pa, iv pb, iv 3, iv 0, iv 1023, iv 448, iv 448, iv 56, iv 519, iv 1023] [])) (fun t k => XS.ifNo X135.here hx rfl (hb hby at_80) rfl (XT.i0_ne_f (by decide)) k) ?_
      refine Go.pull (V := T135.setTop (mkF m 85 #[iv pa, iv pb, iv 3, iv 0, iv 1023, iv 448, iv 448, iv 56, iv 519, iv 1023] [(.int 448)])) (fun t k => XS.iload X135.here hx rfl (hb hby at_83) rfl  k) ?_
      refine Go.pull (V := T135.setTop (mkF m 88 #[iv pa, iv pb, iv 3, iv 0, iv 1023, iv 448, iv 448, iv 56, iv 519, iv 1023] [(.int (-1024)), (.int 448)])) (fun t k => XS.sipush X135.here hx rfl (hb hby at_85) k) ?_
      refine Go.pull (V := T135.setTop (mkF m 89 #[iv pa, iv pb, iv 3, iv 0, iv 1023, iv 448, iv 448, iv 56, iv 519, iv 1023] [(.int 0)])) (fun t k => XS.iand X135.here hx rfl (hb hby at_88) rfl k) ?_
      refine Go.pull (V := T135.setTop (mkF m 94 #[iv pa, iv pb, iv 3, iv 0, iv 1023, iv 448, iv 448, iv 56, iv 519, iv 1023] [])) (fun t k => XS.ifYes X135.here hx rfl (pc0 := 89) (pc' := 94) rfl (hb hby at_89) rfl (XT.i0_eq_t (by decide)) (by decide) (by decide) k) ?_
      refine Go.pull (V := T135.setTop (mkF m 96 #[iv pa, iv pb, iv 3, iv 0, iv 1023, iv 448, iv 448, iv 56, iv 519, iv 1023] [(.int 1023)])) (fun t k => XS.iload X135.here hx rfl (hb hby at_94) rfl  k) ?_
      refine Go.pull (V := T135.setTop (mkF m 99 #[iv pa, iv pb, iv 3, iv 0, iv 1023, iv 448, iv 448, iv 56, iv 519, iv 1023] [(.int 1023), (.int 1023)])) (fun t k => XS.sipush X135.here hx rfl (hb hby at_96) k) ?_
      refine Go.pull (V := T135.setTop (mkF m 102 #[iv pa, iv pb, iv 3, iv 0, iv 1023, iv 448, iv 448, iv 56, iv 519, iv 1023] [])) (fun t k => XS.icmpNo X135.here hx rfl (hb hby at_99) rfl (XT.ii_ne_f (by decide)) k) ?_
      refine Go.pull (V := T135.setTop (mkF m 104 #[iv pa, iv pb, iv 3, iv 0, iv 1023, iv 448, iv 448, iv 56, iv 519, iv 1023] [(.int 448)])) (fun t k => XS.iload X135.here hx rfl (hb hby at_102) rfl  k) ?_
      refine Go.pull (V := T135.setTop (mkF m 106 #[iv pa, iv pb, iv 3, iv 0, iv 1023, iv 448, iv 448, iv 56, iv 519, iv 1023] [(.int 56), (.int 448)])) (fun t k => XS.iload X135.here hx rfl (hb hby at_104) rfl  k) ?_
      refine Go.pull (V := T135.setTop (mkF m 107 #[iv pa, iv pb, iv 3, iv 0, iv 1023, iv 448, iv 448, iv 56, iv 519, iv 1023] [(.int 504)])) (fun t k => XS.ior X135.here hx rfl (hb hby at_106) rfl k) ?_
      refine Go.pull (V := T135.setTop (mkF m 109 #[iv pa, iv pb, iv 3, iv 0, iv 1023, iv 448, iv 448, iv 56, iv 519, iv 1023] [(.int 519), (.int 504)])) (fun t k => XS.iload X135.here hx rfl (hb hby at_107) rfl  k) ?_
      refine Go.pull (V := T135.setTop (mkF m 110 #[iv pa, iv pb, iv 3, iv 0, iv 1023, iv 448, iv 448, iv 56, iv 519, iv 1023] [(.int 1023)])) (fun t k => XS.ior X135.here hx rfl (hb hby at_109) rfl k) ?_
      refine Go.pull (V := T135.setTop (mkF m 112 #[iv pa, iv pb, iv 3, iv 0, iv 1023, iv 448, iv 448, iv 56, iv 519, iv 1023] [(.int 1023), (.int 1023)])) (fun t k => XS.iload X135.here hx rfl (hb hby at_110) rfl  k) ?_
      refine Go.pull (V := T135.setTop (mkF m 117 #[iv pa, iv pb, iv 3, iv 0, iv 1023, iv 448, iv 448, iv 56, iv 519, iv 1023] [])) (fun t k => XS.icmpYes X135.here hx rfl (pc0 := 112) (pc' := 117) rfl (hb hby at_112) rfl (XT.ii_eq_t (by decide)) (by decide) (by decide) k) ?_
      refine Go.pull (V := T135.setTop (mkF m 119 #[iv pa, iv pb, iv 3, iv 0, iv 1023, iv 448, iv 448, iv 56, iv 519, iv 1023] [(.int 448)])) (fun t k => XS.iload X135.here hx rfl (hb hby at_117) rfl  k) ?_
      refine Go.pull (V := T135.setTop (mkF m 121 #[iv pa, iv pb, iv 3, iv 0, iv 1023, iv 448, iv 448, iv 56, iv 519, iv 1023] [(.int 56), (.int 448)])) (fun t k => XS.iload X135.here hx rfl (hb hby at_119) rfl  k) ?_
      refine Go.pull (V := T135.setTop (mkF m 122 #[iv pa, iv pb, iv 3, iv 0, iv 1023, iv 448, iv 448, iv 56, iv 519, iv 1023] [(.int 0)])) (fun t k => XS.iand X135.here hx rfl (hb hby at_121) rfl k) ?_
      refine Go.pull (V := T135.setTop (mkF m 125 #[iv pa, iv pb, iv 3, iv 0, iv 1023, iv 448, iv 448, iv 56, iv 519, iv 1023] [])) (fun t k => XS.ifNo X135.here hx rfl (hb hby at_122) rfl (XT.i0_ne_f (by decide)) k) ?_
      refine Go.pull (V := T135.setTop (mkF m 127 #[iv pa, iv pb, iv 3, iv 0, iv 1023, iv 448, iv 448, iv 56, iv 519, iv 1023] [(.int 448)])) (fun t k => XS.iload X135.here hx rfl (hb hby at_125) rfl  k) ?_
      refine Go.pull (V := T135.setTop (mkF m 129 #[iv pa, iv pb, iv 3, iv 0, iv 1023, iv 448, iv 448, iv 56, iv 519, iv 1023] [(.int 519), (.int 448)])) (fun t k => XS.iload X135.here hx rfl (hb hby at_127) rfl  k) ?_
      refine Go.pull (V := T135.setTop (mkF m 130 #[iv pa, iv pb, iv 3, iv 0, iv 1023, iv 448, iv 448, iv 56, iv 519, iv 1023] [(.int 0)])) (fun t k => XS.iand X135.here hx rfl (hb hby at_129) rfl k) ?_
      refine Go.pull (V := T135.setTop (mkF m 133 #[iv pa, iv pb, iv 3, iv 0, iv 1023, iv 448, iv 448, iv 56, iv 519, iv 1023] [])) (fun t k => XS.ifNo X135.here hx rfl (hb hby at_130) rfl (XT.i0_ne_f (by decide)) k) ?_
      refine Go.pull (V := T135.setTop (mkF m 135 #[iv pa, iv pb, iv 3, iv 0, iv 1023, iv 448, iv 448, iv 56, iv 519, iv 1023] [(.int 56)])) (fun t k => XS.iload X135.here hx rfl (hb hby at_133) rfl  k) ?_
      refine Go.pull (V := T135.setTop (mkF m 137 #[iv pa, iv pb, iv 3, iv 0, iv 1023, iv 448, iv 448, iv 56, iv 519, iv 1023] [(.int 519), (.int 56)])) (fun t k => XS.iload X135.here hx rfl (hb hby at_135) rfl  k) ?_
      refine Go.pull (V := T135.setTop (mkF m 138 #[iv pa, iv pb, iv 3, iv 0, iv 1023, iv 448, iv 448, iv 56, iv 519, iv 1023] [(.int 0)])) (fun t k => XS.iand X135.here hx rfl (hb hby at_137) rfl k) ?_
      refine Go.pull (V := T135.setTop (mkF m 143 #[iv pa, iv pb, iv 3, iv 0, iv 1023, iv 448, iv 448, iv 56, iv 519, iv 1023] [])) (fun t k => XS.ifYes X135.here hx rfl (pc0 := 138) (pc' := 143) rfl (hb hby at_138) rfl (XT.i0_eq_t (by decide)) (by decide) (by decide) k) ?_
      refine Go.pull (V := T135.setTop (mkF m 144 #[iv pa, iv pb, iv 3, iv 0, iv 1023, iv 448, iv 448, iv 56, iv 519, iv 1023] [(.int 3)])) (fun t k => XS.iloadN X135.here hx rfl (hb hby at_143) rfl  k) ?_
      refine Go.pull (V := T135.setTop (mkF m 145 #[iv pa, iv pb, iv 3, iv 0, iv 1023, iv 448, iv 448, iv 56, iv 519, iv 1023] [(.int 0), (.int 3)])) (fun t k => XS.iloadN X135.here hx rfl (hb hby at_144) rfl  k) ?_
      refine Go.pull (V := T135.setTop (mkF m 148 #[iv pa, iv pb, iv 3, iv 0, iv 1023, iv 448, iv 448, iv 56, iv 519, iv 1023] [])) (fun t k => XS.icmpNo X135.here hx rfl (hb hby at_145) rfl (XT.ii_eq_f (by decide)) k) ?_
      refine Go.pull (V := T135.setTop (mkF m 149 #[iv pa, iv pb, iv 3, iv 0, iv 1023, iv 448, iv 448, iv 56, iv 519, iv 1023] [(.int 3)])) (fun t k => XS.iloadN X135.here hx rfl (hb hby at_148) rfl  k) ?_
      refine Go.pull (V := T135.setTop (mkF m 150 #[iv pa, iv pb, iv 3, iv 0, iv 1023, iv 448, iv 448, iv 56, iv 519, iv 1023] [(.int 3), (.int 3)])) (fun t k => XS.iconst X135.here hx rfl (hb hby at_149) k) ?_
      refine Go.pull (V := T135.setTop (mkF m 168 #[iv pa, iv pb, iv 3, iv 0, iv 1023, iv 448, iv 448, iv 56, iv 519, iv 1023] [])) (fun t k => XS.icmpYes X135.here hx rfl (pc0 := 150) (pc' := 168) rfl (hb hby at_150) rfl (XT.ii_eq_t (by decide)) (by decide) (by decide) k) ?_
      refine Go.pull (V := T135.setTop (mkF m 170 #[iv pa, iv pb, iv 3, iv 0, iv 1023, iv 448, iv 448, iv 56, iv 519, iv 1023] [(.int 519)])) (fun t k => XS.iload X135.here hx rfl (hb hby at_168) rfl  k) ?_
      refine Go.pull (V := T135.setTop (mkF m 173 #[iv pa, iv pb, iv 3, iv 0, iv 1023, iv 448, iv 448, iv 56, iv 519, iv 1023] [(.int 512), (.int 519)])) (fun t k => XS.sipush X135.here hx rfl (hb hby at_170) k) ?_
      refine Go.pull (V := T135.setTop (mkF m 174 #[iv pa, iv pb, iv 3, iv 0, iv 1023, iv 448, iv 448, iv 56, iv 519, iv 1023] [(.int 512)])) (fun t k => XS.iand X135.here hx rfl (hb hby at_173) rfl k) ?_
      refine Go.pull (V := T135.setTop (mkF m 177 #[iv pa, iv pb, iv 3, iv 0, iv 1023, iv 448, iv 448, iv 56, iv 519, iv 1023] [])) (fun t k => XS.ifNo X135.here hx rfl (hb hby at_174) rfl (XT.i0_eq_f (by decide)) k) ?_
      refine Go.pull (V := T135.setTop (mkF m 179 #[iv pa, iv pb, iv 3, iv 0, iv 1023, iv 448, iv 448, iv 56, iv 519, iv 1023] [(.int 448)])) (fun t k => XS.iload X135.here hx rfl (hb hby at_177) rfl  k) ?_
      refine Go.pull (V := T135.setTop (mkF m 181 #[iv pa, iv pb, iv 3, iv 0, iv 1023, iv 448, iv 448, iv 56, iv 519, iv 1023] [(.int 56), (.int 448)])) (fun t k => XS.iload X135.here hx rfl (hb hby at_179) rfl  k) ?_
      refine Go.pull (V := T135.setTop (mkF m 182 #[iv pa, iv pb, iv 3, iv 0, iv 1023, iv 448, iv 448, iv 56, iv 519, iv 1023] [(.int 504)])) (fun t k => XS.ior X135.here hx rfl (hb hby at_181) rfl k) ?_
      refine Go.pull (V := T135.setTop (mkF m 185 #[iv pa, iv pb, iv 3, iv 0, iv 1023, iv 448, iv 448, iv 56, iv 519, iv 1023] [(.int 512), (.int 504)])) (fun t k => XS.sipush X135.here hx rfl (hb hby at_182) k) ?_
      refine Go.pull (V := T135.setTop (mkF m 186 #[iv pa, iv pb, iv 3, iv 0, iv 1023, iv 448, iv 448, iv 56, iv 519, iv 1023] [(.int 0)])) (fun t k => XS.iand X135.here hx rfl (hb hby at_185) rfl k) ?_
      refine Go.pull (V := T135.setTop (mkF m 191 #[iv pa, iv pb, iv 3, iv 0, iv 1023, iv 448, iv 448, iv 56, iv 519, iv 1023] [])) (fun t k => XS.ifYes X135.here hx rfl (pc0 := 186) (pc' := 191) rfl (hb hby at_186) rfl (XT.i0_eq_t (by decide)) (by decide) (by decide) k) ?_
      refine Go.pull (V := T135.setTop (mkF m 192 #[iv pa, iv pb, iv 3, iv 0, iv 1023, iv 448, iv 448, iv 56, iv 519, iv 1023] [(.int 1)])) (fun t k => XS.iconst X135.here hx rfl (hb hby at_191) k) ?_
      exact Go.retN X135 hx Bd.notSynchronized (t := .boolean) Bd.returns (by simp) (hb hby at_192) ⟨rfl, N135⟩ (by decide) (by decide)
    · subst hv125
      refine Go.pull (V := s₁.setTop (mkF m 9 #[iv pa, iv pb, iv 3, iv 1, .unset, .unset, .unset, .unset, .unset, .unset] [(.int 3)])) (fun t k => XS.iloadN X0.here hx rfl (hb hby at_8) rfl  k) ?_
      obtain ⟨_, _, ⟨T136, L136, k136, n136⟩, -, X136, ⟨Lc136, hQ136, l136, y136, z136⟩, st136⟩ := Jvm.LawKit.callS X0 hx (y := (⟨"com/example/facl/facl/ModeSpecPartPinLaw", "letter", "(I)C"⟩ : MethodName)) hown (mvT hZ (hw _ (List.mem_of_getElem? (i := 0) rfl))) (mvT hZ (hw _ (List.mem_of_getElem? (i := 1) rfl))) (mvT hZ (hw _ (List.mem_of_getElem? (i := 2) rfl))) (mvT hZ (hw _ (List.mem_of_getElem? (i := 3) rfl))) (by decide) (backOf (W := 0) (rmL l Z a0 hw [] (3 : Int32) h0 n0 ) hZ (hw _ (List.mem_of_getElem? (i := 3) rfl)) (hw _ (List.mem_of_getElem? (i := 2) rfl)) (by decide) (by decide)) (g := (mkF m 9 #[iv pa, iv pb, iv 3, iv 1, .unset, .unset, .unset, .unset, .unset, .unset] [(.int 3)])) rfl (by rw [hml]; rfl) (argsL := [(.int 3)]) (rest := []) (lenOf pd_0 rfl) rfl (by show 2 * 0 + _ ≤ _; exact Nat.le_of_eq rfl) (hb hby at_9) (fun _ _ => ⟨rfl, e0, (by decide : 0 + 0 ≤ _), (by decide : 0 + 0 ≤ _)⟩)
      dsimp only [Pt.U, Pt.locs, Pt.cells, Pt.slots] at X136 l136 y136 z136 st136 hQ136
      subst l136 y136 z136
      obtain ⟨hv136, N136q, e136⟩ := hQ136
      rw [(show (own_letter (3 : Int32)) = (97 : Int32) from by decide)] at hv136; subst hv136
      have N136 := Fr.app N0 N136q
      refine Go.pull (V := T136.setTop (mkF m 12 #[iv pa, iv pb, iv 3, iv 1, .unset, .unset, .unset, .unset, .unset, .unset] [(.int 97)])) st136 ?_
      obtain ⟨_, _, ⟨T137, L137, k137, n137⟩, -, X137, ⟨Lc137, hQ137, l137, y137, z137⟩, st137⟩ := Jvm.LawKit.callS X136 hx (y := (⟨"com/example/facl/facl/ModeSpec", "part", "(C)I"⟩ : MethodName)) hown (mvT hZ (hw _ (List.mem_of_getElem? (i := 4) rfl))) (mvT hZ (hw _ (List.mem_of_getElem? (i := 5) rfl))) (mvT hZ (hw _ (List.mem_of_getElem? (i := 6) rfl))) (mvT hZ (hw _ (List.mem_of_getElem? (i := 7) rfl))) (by decide) (backOf (W := 0) (rmP l Z a0 hw [] (97 : Int32) h0 n0 (by decide)) hZ (hw _ (List.mem_of_getElem? (i := 7) rfl)) (hw _ (List.mem_of_getElem? (i := 6) rfl)) (by decide) (by decide)) (g := (mkF m 12 #[iv pa, iv pb, iv 3, iv 1, .unset, .unset, .unset, .unset, .unset, .unset] [(.int 97)])) rfl (by rw [hml]; rfl) (argsL := [(.int 97)]) (rest := []) (lenOf pd_1 rfl) rfl (by show 2 * 0 + _ ≤ _; exact Nat.le_of_eq rfl) (hb hby at_12) (fun _ _ => ⟨rfl, e136, (by decide : 0 + 0 ≤ _), (by decide : 0 + 0 ≤ _)⟩)
      dsimp only [Pt.U, Pt.locs, Pt.cells, Pt.slots] at X137 l137 y137 z137 st137 hQ137
      subst l137 y137 z137
      obtain ⟨hv137, N137q, e137⟩ := hQ137
      rw [(show (own_part (97 : Int32)) = (1023 : Int32) from by decide)] at hv137; subst hv137
      have N137 := Fr.app N136 N137q
      refine Go.pull (V := T137.setTop (mkF m 15 #[iv pa, iv pb, iv 3, iv 1, .unset, .unset, .unset, .unset, .unset, .unset] [(.int 1023)])) st137 ?_
      refine Go.pull (V := T137.setTop (mkF m 17 #[iv pa, iv pb, iv 3, iv 1, iv 1023, .unset, .unset, .unset, .unset, .unset] [])) (fun t k => XS.istore X137.here hx rfl (hb hby at_15) rfl (l' := #[iv pa, iv pb, iv 3, iv 1, iv 1023, .unset, .unset, .unset, .unset, .unset]) rfl k) ?_
      refine Go.pull (V := T137.setTop (mkF m 18 #[iv pa, iv pb, iv 3, iv 1, iv 1023, .unset, .unset, .unset, .unset, .unset] [(.int 1)])) (fun t k => XS.iloadN X137.here hx rfl (hb hby at_17) rfl  k) ?_
      obtain ⟨_, _, ⟨T138, L138, k138, n138⟩, -, X138, ⟨Lc138, hQ138, l138, y138, z138⟩, st138⟩ := Jvm.LawKit.callS X137 hx (y := (⟨"com/example/facl/facl/ModeSpecPartPinLaw", "letter", "(I)C"⟩ : MethodName)) hown (mvT hZ (hw _ (List.mem_of_getElem? (i := 0) rfl))) (mvT hZ (hw _ (List.mem_of_getElem? (i := 1) rfl))) (mvT hZ (hw _ (List.mem_of_getElem? (i := 2) rfl))) (mvT hZ (hw _ (List.mem_of_getElem? (i := 3) rfl))) (by decide) (backOf (W := 0) (rmL l Z a0 hw [] (1 : Int32) h0 n0 ) hZ (hw _ (List.mem_of_getElem? (i := 3) rfl)) (hw _ (List.mem_of_getElem? (i := 2) rfl)) (by decide) (by decide)) (g := (mkF m 18 #[iv pa, iv pb, iv 3, iv 1, iv 1023, .unset, .unset, .unset, .unset, .unset] [(.int 1)])) rfl (by rw [hml]; rfl) (argsL := [(.int 1)]) (rest := []) (lenOf pd_0 rfl) rfl (by show 2 * 0 + _ ≤ _; exact Nat.le_of_eq rfl) (hb hby at_18) (fun _ _ => ⟨rfl, e137, (by decide : 0 + 0 ≤ _), (by decide : 0 + 0 ≤ _)⟩)
      dsimp only [Pt.U, Pt.locs, Pt.cells, Pt.slots] at X138 l138 y138 z138 st138 hQ138
      subst l138 y138 z138
      obtain ⟨hv138, N138q, e138⟩ := hQ138
      rw [(show (own_letter (1 : Int32)) = (103 : Int32) from by decide)] at hv138; subst hv138
      have N138 := Fr.app N137 N138q
      refine Go.pull (V := T138.setTop (mkF m 21 #[iv pa, iv pb, iv 3, iv 1, iv 1023, .unset, .unset, .unset, .unset, .unset] [(.int 103)])) st138 ?_
      obtain ⟨_, _, ⟨T139, L139, k139, n139⟩, -, X139, ⟨Lc139, hQ139, l139, y139, z139⟩, st139⟩ := Jvm.LawKit.callS X138 hx (y := (⟨"com/example/facl/facl/ModeSpec", "part", "(C)I"⟩ : MethodName)) hown (mvT hZ (hw _ (List.mem_of_getElem? (i := 4) rfl))) (mvT hZ (hw _ (List.mem_of_getElem? (i := 5) rfl))) (mvT hZ (hw _ (List.mem_of_getElem? (i := 6) rfl))) (mvT hZ (hw _ (List.mem_of_getElem? (i := 7) rfl))) (by decide) (backOf (W := 0) (rmP l Z a0 hw [] (103 : Int32) h0 n0 (by decide)) hZ (hw _ (List.mem_of_getElem? (i := 7) rfl)) (hw _ (List.mem_of_getElem? (i := 6) rfl)) (by decide) (by decide)) (g := (mkF m 21 #[iv pa, iv pb, iv 3, iv 1, iv 1023, .unset, .unset, .unset, .unset, .unset] [(.int 103)])) rfl (by rw [hml]; rfl) (argsL := [(.int 103)]) (rest := []) (lenOf pd_1 rfl) rfl (by show 2 * 0 + _ ≤ _; exact Nat.le_of_eq rfl) (hb hby at_21) (fun _ _ => ⟨rfl, e138, (by decide : 0 + 0 ≤ _), (by decide : 0 + 0 ≤ _)⟩)
      dsimp only [Pt.U, Pt.locs, Pt.cells, Pt.slots] at X139 l139 y139 z139 st139 hQ139
      subst l139 y139 z139
      obtain ⟨hv139, N139q, e139⟩ := hQ139
      rw [(show (own_part (103 : Int32)) = (56 : Int32) from by decide)] at hv139; subst hv139
      have N139 := Fr.app N138 N139q
      refine Go.pull (V := T139.setTop (mkF m 24 #[iv pa, iv pb, iv 3, iv 1, iv 1023, .unset, .unset, .unset, .unset, .unset] [(.int 56)])) st139 ?_
      refine Go.pull (V := T139.setTop (mkF m 26 #[iv pa, iv pb, iv 3, iv 1, iv 1023, iv 56, .unset, .unset, .unset, .unset] [])) (fun t k => XS.istore X139.here hx rfl (hb hby at_24) rfl (l' := #[iv pa, iv pb, iv 3, iv 1, iv 1023, iv 56, .unset, .unset, .unset, .unset]) rfl k) ?_
      refine Go.pull (V := T139.setTop (mkF m 28 #[iv pa, iv pb, iv 3, iv 1, iv 1023, iv 56, .unset, .unset, .unset, .unset] [(.int 117)])) (fun t k => XS.bipush X139.here hx rfl (hb hby at_26) k) ?_
      obtain ⟨_, _, ⟨T140, L140, k140, n140⟩, -, X140, ⟨Lc140, hQ140, l140, y140, z140⟩, st140⟩ := Jvm.LawKit.callS X139 hx (y := (⟨"com/example/facl/facl/ModeSpec", "part", "(C)I"⟩ : MethodName)) hown (mvT hZ (hw _ (List.mem_of_getElem? (i := 4) rfl))) (mvT hZ (hw _ (List.mem_of_getElem? (i := 5) rfl))) (mvT hZ (hw _ (List.mem_of_getElem? (i := 6) rfl))) (mvT hZ (hw _ (List.mem_of_getElem? (i := 7) rfl))) (by decide) (backOf (W := 0) (rmP l Z a0 hw [] (117 : Int32) h0 n0 (by decide)) hZ (hw _ (List.mem_of_getElem? (i := 7) rfl)) (hw _ (List.mem_of_getElem? (i := 6) rfl)) (by decide) (by decide)) (g := (mkF m 28 #[iv pa, iv pb, iv 3, iv 1, iv 1023, iv 56, .unset, .unset, .unset, .unset] [(.int 117)])) rfl (by rw [hml]; rfl) (argsL := [(.int 117)]) (rest := []) (lenOf pd_1 rfl) rfl (by show 2 * 0 + _ ≤ _; exact Nat.le_of_eq rfl) (hb hby at_28) (fun _ _ => ⟨rfl, e139, (by decide : 0 + 0 ≤ _), (by decide : 0 + 0 ≤ _)⟩)
      dsimp only [Pt.U, Pt.locs, Pt.cells, Pt.slots] at X140 l140 y140 z140 st140 hQ140
      subst l140 y140 z140
      obtain ⟨hv140, N140q, e140⟩ := hQ140
      rw [(show (own_part (117 : Int32)) = (448 : Int32) from by decide)] at hv140; subst hv140
      have N140 := Fr.app N139 N140q
      refine Go.pull (V := T140.setTop (mkF m 31 #[iv pa, iv pb, iv 3, iv 1, iv 1023, iv 56, .unset, .unset, .unset, .unset] [(.int 448)])) st140 ?_
      refine Go.pull (V := T140.setTop (mkF m 33 #[iv pa, iv pb, iv 3, iv 1, iv 1023, iv 56, iv 448, .unset, .unset, .unset] [])) (fun t k => XS.istore X140.here hx rfl (hb hby at_31) rfl (l' := #[iv pa, iv pb, iv 3, iv 1, iv 1023, iv 56, iv 448, .unset, .unset, .unset]) rfl k) ?_
      refine Go.pull (V := T140.setTop (mkF m 35 #[iv pa, iv pb, iv 3, iv 1, iv 1023, iv 56, iv 448, .unset, .unset, .unset] [(.int 103)])) (fun t k => XS.bipush X140.here hx rfl (hb hby at_33) k) ?_
      obtain ⟨_, _, ⟨T141, L141, k141, n141⟩, -, X141, ⟨Lc141, hQ141, l141, y141, z141⟩, st141⟩ := Jvm.LawKit.callS X140 hx (y := (⟨"com/example/facl/facl/ModeSpec", "part", "(C)I"⟩ : MethodName)) hown (mvT hZ (hw _ (List.mem_of_getElem? (i := 4) rfl))) (mvT hZ (hw _ (List.mem_of_getElem? (i := 5) rfl))) (mvT hZ (hw _ (List.mem_of_getElem? (i := 6) rfl))) (mvT hZ (hw _ (List.mem_of_getElem? (i := 7) rfl))) (by decide) (backOf (W := 0) (rmP l Z a0 hw [] (103 : Int32) h0 n0 (by decide)) hZ (hw _ (List.mem_of_getElem? (i := 7) rfl)) (hw _ (List.mem_of_getElem? (i := 6) rfl)) (by decide) (by decide)) (g := (mkF m 35 #[iv pa, iv pb, iv 3, iv 1, iv 1023, iv 56, iv 448, .unset, .unset, .unset] [(.int 103)])) rfl (by rw [hml]; rfl) (argsL := [(.int 103)]) (rest := []) (lenOf pd_1 rfl) rfl (by show 2 * 0 + _ ≤ _; exact Nat.le_of_eq rfl) (hb hby at_35) (fun _ _ => ⟨rfl, e140, (by decide : 0 + 0 ≤ _), (by decide : 0 + 0 ≤ _)⟩)
      dsimp only [Pt.U, Pt.locs, Pt.cells, Pt.slots] at X141 l141 y141 z141 st141 hQ141
      subst l141 y141 z141
      obtain ⟨hv141, N141q, e141⟩ := hQ141
      rw [(show (own_part (103 : Int32)) = (56 : Int32) from by decide)] at hv141; subst hv141
      have N141 := Fr.app N140 N141q
      refine Go.pull (V := T141.setTop (mkF m 38 #[iv pa, iv pb, iv 3, iv 1, iv 1023, iv 56, iv 448, .unset, .unset, .unset] [(.int 56)])) st141 ?_
      refine Go.pull (V := T141.setTop (mkF m 40 #[iv pa, iv pb, iv 3, iv 1, iv 1023, iv 56, iv 448, iv 56, .unset, .unset] [])) (fun t k => XS.istore X141.here hx rfl (hb hby at_38) rfl (l' := #[iv pa, iv pb, iv 3, iv 1, iv 1023, iv 56, iv 448, iv 56, .unset, .unset]) rfl k) ?_
      refine Go.pull (V := T141.setTop (mkF m 42 #[iv pa, iv pb, iv 3, iv 1, iv 1023, iv 56, iv 448, iv 56, .unset, .unset] [(.int 111)])) (fun t k => XS.bipush X141.here hx rfl (hb hby at_40) k) ?_
      obtain ⟨_, _, ⟨T142, L142, k142, n142⟩, -, X142, ⟨Lc142, hQ142, l142, y142, z142⟩, st142⟩ := Jvm.LawKit.callS X141 hx (y := (⟨"com/example/facl/facl/ModeSpec", "part", "(C)I"⟩ : MethodName)) hown (mvT hZ (hw _ (List.mem_of_getElem? (i := 4) rfl))) (mvT hZ (hw _ (List.mem_of_getElem? (i := 5) rfl))) (mvT hZ (hw _ (List.mem_of_getElem? (i := 6) rfl))) (mvT hZ (hw _ (List.mem_of_getElem? (i := 7) rfl))) (by decide) (backOf (W := 0) (rmP l Z a0 hw [] (111 : Int32) h0 n0 (by decide)) hZ (hw _ (List.mem_of_getElem? (i := 7) rfl)) (hw _ (List.mem_of_getElem? (i := 6) rfl)) (by decide) (by decide)) (g := (mkF m 42 #[iv pa, iv pb, iv 3, iv 1, iv 1023, iv 56, iv 448, iv 56, .unset, .unset] [(.int 111)])) rfl (by rw [hml]; rfl) (argsL := [(.int 111)]) (rest := []) (lenOf pd_1 rfl) rfl (by show 2 * 0 + _ ≤ _; exact Nat.le_of_eq rfl) (hb hby at_42) (fun _ _ => ⟨rfl, e141, (by decide : 0 + 0 ≤ _), (by decide : 0 + 0 ≤ _)⟩)
      dsimp only [Pt.U, Pt.locs, Pt.cells, Pt.slots] at X142 l142 y142 z142 st142 hQ142
      subst l142 y142 z142
      obtain ⟨hv142, N142q, e142⟩ := hQ142
      rw [(show (own_part (111 : Int32)) = (519 : Int32) from by decide)] at hv142; subst hv142
      have N142 := Fr.app N141 N142q
      refine Go.pull (V := T142.setTop (mkF m 45 #[iv pa, iv pb, iv 3, iv 1, iv 1023, iv 56, iv 448, iv 56, .unset, .unset] [(.int 519)])) st142 ?_
      refine Go.pull (V := T142.setTop (mkF m 47 #[iv pa, iv pb, iv 3, iv 1, iv 1023, iv 56, iv 448, iv 56, iv 519, .unset] [])) (fun t k => XS.istore X142.here hx rfl (hb hby at_45) rfl (l' := #[iv pa, iv pb, iv 3, iv 1, iv 1023, iv 56, iv 448, iv 56, iv 519, .unset]) rfl k) ?_
      refine Go.pull (V := T142.setTop (mkF m 49 #[iv pa, iv pb, iv 3, iv 1, iv 1023, iv 56, iv 448, iv 56, iv 519, .unset] [(.int 97)])) (fun t k => XS.bipush X142.here hx rfl (hb hby at_47) k) ?_
      obtain ⟨_, _, ⟨T143, L143, k143, n143⟩, -, X143, ⟨Lc143, hQ143, l143, y143, z143⟩, st143⟩ := Jvm.LawKit.callS X142 hx (y := (⟨"com/example/facl/facl/ModeSpec", "part", "(C)I"⟩ : MethodName)) hown (mvT hZ (hw _ (List.mem_of_getElem? (i := 4) rfl))) (mvT hZ (hw _ (List.mem_of_getElem? (i := 5) rfl))) (mvT hZ (hw _ (List.mem_of_getElem? (i := 6) rfl))) (mvT hZ (hw _ (List.mem_of_getElem? (i := 7) rfl))) (by decide) (backOf (W := 0) (rmP l Z a0 hw [] (97 : Int32) h0 n0 (by decide)) hZ (hw _ (List.mem_of_getElem? (i := 7) rfl)) (hw _ (List.mem_of_getElem? (i := 6) rfl)) (by decide) (by decide)) (g := (mkF m 49 #[iv pa, iv pb, iv 3, iv 1, iv 1023, iv 56, iv 448, iv 56, iv 519, .unset] [(.int 97)])) rfl (by rw [hml]; rfl) (argsL := [(.int 97)]) (rest := []) (lenOf pd_1 rfl) rfl (by show 2 * 0 + _ ≤ _; exact Nat.le_of_eq rfl) (hb hby at_49) (fun _ _ => ⟨rfl, e142, (by decide : 0 + 0 ≤ _), (by decide : 0 + 0 ≤ _)⟩)
      dsimp only [Pt.U, Pt.locs, Pt.cells, Pt.slots] at X143 l143 y143 z143 st143 hQ143
      subst l143 y143 z143
      obtain ⟨hv143, N143q, e143⟩ := hQ143
      rw [(show (own_part (97 : Int32)) = (1023 : Int32) from by decide)] at hv143; subst hv143
      have N143 := Fr.app N142 N143q
      refine Go.pull (V := T143.setTop (mkF m 52 #[iv pa, iv pb, iv 3, iv 1, iv 1023, iv 56, iv 448, iv 56, iv 519, .unset] [(.int 1023)])) st143 ?_
      refine Go.pull (V := T143.setTop (mkF m 54 #[iv pa, iv pb, iv 3, iv 1, iv 1023, iv 56, iv 448, iv 56, iv 519, iv 1023] [])) (fun t k => XS.istore X143.here hx rfl (hb hby at_52) rfl (l' := #[iv pa, iv pb, iv 3, iv 1, iv 1023, iv 56, iv 448, iv 56, iv 519, iv 1023]) rfl k) ?_
      refine Go.pull (V := T143.setTop (mkF m 56 #[iv pa, iv pb, iv 3, iv 1, iv 1023, iv 56, iv 448, iv 56, iv 519, iv 1023] [(.int 1023)])) (fun t k => XS.iload X143.here hx rfl (hb hby at_54) rfl  k) ?_
      refine Go.pull (V := T143.setTop (mkF m 57 #[iv pa, iv pb, iv 3, iv 1, iv 1023, iv 56, iv 448, iv 56, iv 519, iv 1023] [(.int 3), (.int 1023)])) (fun t k => XS.iloadN X143.here hx rfl (hb hby at_56) rfl  k) ?_
      obtain ⟨_, _, ⟨T144, L144, k144, n144⟩, -, X144, ⟨Lc144, hQ144, l144, y144, z144⟩, st144⟩ := Jvm.LawKit.callS X143 hx (y := (⟨"com/example/facl/facl/ModeSpecPartPinLaw", "expected", "(I)I"⟩ : MethodName)) hown (mvT hZ (hw _ (List.mem_of_getElem? (i := 8) rfl))) (mvT hZ (hw _ (List.mem_of_getElem? (i := 9) rfl))) (mvT hZ (hw _ (List.mem_of_getElem? (i := 2) rfl))) (mvT hZ (hw _ (List.mem_of_getElem? (i := 10) rfl))) (by decide) (backOf (W := 1) (rmX l Z a0 hw [] (3 : Int32) h0 n0 ) hZ (hw _ (List.mem_of_getElem? (i := 10) rfl)) (hw _ (List.mem_of_getElem? (i := 2) rfl)) (by decide) (by decide)) (g := (mkF m 57 #[iv pa, iv pb, iv 3, iv 1, iv 1023, iv 56, iv 448, iv 56, iv 519, iv 1023] [(.int 3), (.int 1023)])) rfl (by rw [hml]; rfl) (argsL := [(.int 3)]) (rest := [(.int 1023)]) (lenOf pd_2 rfl) rfl (by show 2 * 0 + _ ≤ _; exact Nat.le_of_eq rfl) (hb hby at_57) (fun _ _ => ⟨rfl, e143, (by decide : 0 + 0 ≤ _), (by decide : 0 + 0 ≤ _)⟩)
      dsimp only [Pt.U, Pt.locs, Pt.cells, Pt.slots] at X144 l144 y144 z144 st144 hQ144
      subst l144 y144 z144
      obtain ⟨hv144, N144q, e144⟩ := hQ144
      rw [(show (own_expected (3 : Int32)) = (1023 : Int32) from by decide)] at hv144; subst hv144
      have N144 := Fr.app N143 N144q
      refine Go.pull (V := T144.setTop (mkF m 60 #[iv pa, iv pb, iv 3, iv 1, iv 1023, iv 56, iv 448, iv 56, iv 519, iv 1023] [(.int 1023), (.int 1023)])) st144 ?_
      refine Go.pull (V := T144.setTop (mkF m 63 #[iv pa, iv pb, iv 3, iv 1, iv 1023, iv 56, iv 448, iv 56, iv 519, iv 1023] [])) (fun t k => XS.icmpNo X144.here hx rfl (hb hby at_60) rfl (XT.ii_ne_f (by decide)) k) ?_
      refine Go.pull (V := T144.setTop (mkF m 65 #[iv pa, iv pb, iv 3, iv 1, iv 1023, iv 56, iv 448, iv 56, iv 519, iv 1023] [(.int 56)])) (fun t k => XS.iload X144.here hx rfl (hb hby at_63) rfl  k) ?_
      refine Go.pull (V := T144.setTop (mkF m 66 #[iv pa, iv pb, iv 3, iv 1, iv 1023, iv 56, iv 448, iv 56, iv 519, iv 1023] [(.int 1), (.int 56)])) (fun t k => XS.iloadN X144.here hx rfl (hb hby at_65) rfl  k) ?_
      obtain ⟨_, _, ⟨T145, L145, k145, n145⟩, -, X145, ⟨Lc145, hQ145, l145, y145, z145⟩, st145⟩ := Jvm.LawKit.callS X144 hx (y := (⟨"com/example/facl/facl/ModeSpecPartPinLaw", "expected", "(I)I"⟩ : MethodName)) hown (mvT hZ (hw _ (List.mem_of_getElem? (i := 8) rfl))) (mvT hZ (hw _ (List.mem_of_getElem? (i := 9) rfl))) (mvT hZ (hw _ (List.mem_of_getElem? (i := 2) rfl))) (mvT hZ (hw _ (List.mem_of_getElem? (i := 10) rfl))) (by decide) (backOf (W := 1) (rmX l Z a0 hw [] (1 : Int32) h0 n0 ) hZ (hw _ (List.mem_of_getElem? (i := 10) rfl)) (hw _ (List.mem_of_getElem? (i := 2) rfl)) (by decide) (by decide)) (g := (mkF m 66 #[iv pa, iv pb, iv 3, iv 1, iv 1023, iv 56, iv 448, iv 56, iv 519, iv 1023] [(.int 1), (.int 56)])) rfl (by rw [hml]; rfl) (argsL := [(.int 1)]) (rest := [(.int 56)]) (lenOf pd_2 rfl) rfl (by show 2 * 0 + _ ≤ _; exact Nat.le_of_eq rfl) (hb hby at_66) (fun _ _ => ⟨rfl, e144, (by decide : 0 + 0 ≤ _), (by decide : 0 + 0 ≤ _)⟩)
      dsimp only [Pt.U, Pt.locs, Pt.cells, Pt.slots] at X145 l145 y145 z145 st145 hQ145
      subst l145 y145 z145
      obtain ⟨hv145, N145q, e145⟩ := hQ145
      rw [(show (own_expected (1 : Int32)) = (56 : Int32) from by decide)] at hv145; subst hv145
      have N145 := Fr.app N144 N145q
      refine Go.pull (V := T145.setTop (mkF m 69 #[iv pa, iv pb, iv 3, iv 1, iv 1023, iv 56, iv 448, iv 56, iv 519, iv 1023] [(.int 56), (.int 56)])) st145 ?_
      refine Go.pull (V := T145.setTop (mkF m 74 #[iv pa, iv pb, iv 3, iv 1, iv 1023, iv 56, iv 448, iv 56, iv 519, iv 1023] [])) (fun t k => XS.icmpYes X145.here hx rfl (pc0 := 69) (pc' := 74) rfl (hb hby at_69) rfl (XT.ii_eq_t (by decide)) (by decide) (by decide) k) ?_
      refine Go.pull (V := T145.setTop (mkF m 76 #[iv pa, iv pb, iv 3, iv 1, iv 1023, iv 56, iv 448, iv 56, iv 519, iv 1023] [(.int 1023)])) (fun t k => XS.iload X145.here hx rfl (hb hby at_74) rfl  k) ?_
      refine Go.pull (V := T145.setTop (mkF m 79 #[iv pa, iv pb, iv 3, iv 1, iv 1023, iv 56, iv 448, iv 56, iv 519, iv 1023] [(.int (-1024)), (.int 1023)])) (fun t k => XS.sipush X145.here hx rfl (hb hby at_76) k) ?_
      refine Go.pull (V := T145.setTop (mkF m 80 #[iv pa, iv pb, iv 3, iv 1, iv 1023, iv 56, iv 448, iv 56, iv 519, iv 1023] [(.int 0)])) (fun t k => XS.iand X145.here hx rfl (hb hby at_79) rfl k) ?_
      refine Go.pull (V := T145.setTop (mkF m 83 #[iv pa, iv pb, iv 3, iv 1, iv 1023, iv 56, iv 448, iv 56, iv 519, iv 1023] [])) (fun t k => XS.ifNo X145.here hx rfl (hb hby at_80) rfl (XT.i0_ne_f (by decide)) k) ?_
      refine Go.pull (V := T145.setTop (mkF m 85 #[iv pa, iv pb, iv 3, iv 1, iv 1023, iv 56, iv 448, iv 56, iv 519, iv 1023] [(.int 56)])) (fun t k => XS.iload X145.here hx rfl (hb hby at_83) rfl  k) ?_
      refine Go.pull (V := T145.setTop (mkF m 88 #[iv pa, iv pb, iv 3, iv 1, iv 1023, iv 56, iv 448, iv 56, iv 519, iv 1023] [(.int (-1024)), (.int 56)])) (fun t k => XS.sipush X145.here hx rfl (hb hby at_85) k) ?_
      refine Go.pull (V := T145.setTop (mkF m 89 #[iv pa, iv pb, iv 3, iv 1, iv 1023, iv 56, iv 448, iv 56, iv 519, iv 1023] [(.int 0)])) (fun t k => XS.iand X145.here hx rfl (hb hby at_88) rfl k) ?_
      refine Go.pull (V := T145.setTop (mkF m 94 #[iv pa, iv pb, iv 3, iv 1, iv 1023, iv 56, iv 448, iv 56, iv 519, iv 1023] [])) (fun t k => XS.ifYes X145.here hx rfl (pc0 := 89) (pc' := 94) rfl (hb hby at_89) rfl (XT.i0_eq_t (by decide)) (by decide) (by decide) k) ?_
      refine Go.pull (V := T145.setTop (mkF m 96 #[iv pa, iv pb, iv 3, iv 1, iv 1023, iv 56, iv 448, iv 56, iv 519, iv 1023] [(.int 1023)])) (fun t k => XS.iload X145.here hx rfl (hb hby at_94) rfl  k) ?_
      refine Go.pull (V := T145.setTop (mkF m 99 #[iv pa, iv pb, iv 3, iv 1, iv 1023, iv 56, iv 448, iv 56, iv 519, iv 1023] [(.int 1023), (.int 1023)])) (fun t k => XS.sipush X145.here hx rfl (hb hby at_96) k) ?_
      refine Go.pull (V := T145.setTop (mkF m 102 #[iv pa, iv pb, iv 3, iv 1, iv 1023, iv 56, iv 448, iv 56, iv 519, iv 1023] [])) (fun t k => XS.icmpNo X145.here hx rfl (hb hby at_99) rfl (XT.ii_ne_f (by decide)) k) ?_
      refine Go.pull (V := T145.setTop (mkF m 104 #[iv pa, iv pb, iv 3, iv 1, iv 1023, iv 56, iv 448, iv 56, iv 519, iv 1023] [(.int 448)])) (fun t k => XS.iload X145.here hx rfl (hb hby at_102) rfl  k) ?_
      refine Go.pull (V := T145.setTop (mkF m 106 #[iv pa, iv pb, iv 3, iv 1, iv 1023, iv 56, iv 448, iv 56, iv 519, iv 1023] [(.int 56), (.int 448)])) (fun t k => XS.iload X145.here hx rfl (hb hby at_104) rfl  k) ?_
      refine Go.pull (V := T145.setTop (mkF m 107 #[iv pa, iv pb, iv 3, iv 1, iv 1023, iv 56, iv 448, iv 56, iv 519, iv 1023] [(.int 504)])) (fun t k => XS.ior X145.here hx rfl (hb hby at_106) rfl k) ?_
      refine Go.pull (V := T145.setTop (mkF m 109 #[iv pa, iv pb, iv 3, iv 1, iv 1023, iv 56, iv 448, iv 56, iv 519, iv 1023] [(.int 519), (.int 504)])) (fun t k => XS.iload X145.here hx rfl (hb hby at_107) rfl  k) ?_
      refine Go.pull (V := T145.setTop (mkF m 110 #[iv pa, iv pb, iv 3, iv 1, iv 1023, iv 56, iv 448, iv 56, iv 519, iv 1023] [(.int 1023)])) (fun t k => XS.ior X145.here hx rfl (hb hby at_109) rfl k) ?_
      refine Go.pull (V := T145.setTop (mkF m 112 #[iv pa, iv pb, iv 3, iv 1, iv 1023, iv 56, iv 448, iv 56, iv 519, iv 1023] [(.int 1023), (.int 1023)])) (fun t k => XS.iload X145.here hx rfl (hb hby at_110) rfl  k) ?_
      refine Go.pull (V := T145.setTop (mkF m 117 #[iv pa, iv pb, iv 3, iv 1, iv 1023, iv 56, iv 448, iv 56, iv 519, iv 1023] [])) (fun t k => XS.icmpYes X145.here hx rfl (pc0 := 112) (pc' := 117) rfl (hb hby at_112) rfl (XT.ii_eq_t (by decide)) (by decide) (by decide) k) ?_
      refine Go.pull (V := T145.setTop (mkF m 119 #[iv pa, iv pb, iv 3, iv 1, iv 1023, iv 56, iv 448, iv 56, iv 519, iv 1023] [(.int 448)])) (fun t k => XS.iload X145.here hx rfl (hb hby at_117) rfl  k) ?_
      refine Go.pull (V := T145.setTop (mkF m 121 #[iv pa, iv pb, iv 3, iv 1, iv 1023, iv 56, iv 448, iv 56, iv 519, iv 1023] [(.int 56), (.int 448)])) (fun t k => XS.iload X145.here hx rfl (hb hby at_119) rfl  k) ?_
      refine Go.pull (V := T145.setTop (mkF m 122 #[iv pa, iv pb, iv 3, iv 1, iv 1023, iv 56, iv 448, iv 56, iv 519, iv 1023] [(.int 0)])) (fun t k => XS.iand X145.here hx rfl (hb hby at_121) rfl k) ?_
      refine Go.pull (V := T145.setTop (mkF m 125 #[iv pa, iv pb, iv 3, iv 1, iv 1023, iv 56, iv 448, iv 56, iv 519, iv 1023] [])) (fun t k => XS.ifNo X145.here hx rfl (hb hby at_122) rfl (XT.i0_ne_f (by decide)) k) ?_
      refine Go.pull (V := T145.setTop (mkF m 127 #[iv pa, iv pb, iv 3, iv 1, iv 1023, iv 56, iv 448, iv 56, iv 519, iv 1023] [(.int 448)])) (fun t k => XS.iload X145.here hx rfl (hb hby at_125) rfl  k) ?_
      refine Go.pull (V := T145.setTop (mkF m 129 #[iv pa, iv pb, iv 3, iv 1, iv 1023, iv 56, iv 448, iv 56, iv 519, iv 1023] [(.int 519), (.int 448)])) (fun t k => XS.iload X145.here hx rfl (hb hby at_127) rfl  k) ?_
      refine Go.pull (V := T145.setTop (mkF m 130 #[iv pa, iv pb, iv 3, iv 1, iv 1023, iv 56, iv 448, iv 56, iv 519, iv 1023] [(.int 0)])) (fun t k => XS.iand X145.here hx rfl (hb hby at_129) rfl k) ?_
      refine Go.pull (V := T145.setTop (mkF m 133 #[iv pa, iv pb, iv 3, iv 1, iv 1023, iv 56, iv 448, iv 56, iv 519, iv 1023] [])) (fun t k => XS.ifNo X145.here hx rfl (hb hby at_130) rfl (XT.i0_ne_f (by decide)) k) ?_
      refine Go.pull (V := T145.setTop (mkF m 135 #[iv pa, iv pb, iv 3, iv 1, iv 1023, iv 56, iv 448, iv 56, iv 519, iv 1023] [(.int 56)])) (fun t k => XS.iload X145.here hx rfl (hb hby at_133) rfl  k) ?_
      refine Go.pull (V := T145.setTop (mkF m 137 #[iv pa, iv pb, iv 3, iv 1, iv 1023, iv 56, iv 448, iv 56, iv 519, iv 1023] [(.int 519), (.int 56)])) (fun t k => XS.iload X145.here hx rfl (hb hby at_135) rfl  k) ?_
      refine Go.pull (V := T145.setTop (mkF m 138 #[iv pa, iv pb, iv 3, iv 1, iv 1023, iv 56, iv 448, iv 56, iv 519, iv 1023] [(.int 0)])) (fun t k => XS.iand X145.here hx rfl (hb hby at_137) rfl k) ?_
      refine Go.pull (V := T145.setTop (mkF m 143 #[iv pa, iv pb, iv 3, iv 1, iv 1023, iv 56, iv 448, iv 56, iv 519, iv 1023] [])) (fun t k => XS.ifYes X145.here hx rfl (pc0 := 138) (pc' := 143) rfl (hb hby at_138) rfl (XT.i0_eq_t (by decide)) (by decide) (by decide) k) ?_
      refine Go.pull (V := T145.setTop (mkF m 144 #[iv pa, iv pb, iv 3, iv 1, iv 1023, iv 56, iv 448, iv 56, iv 519, iv 1023] [(.int 3)])) (fun t k => XS.iloadN X145.here hx rfl (hb hby at_143) rfl  k) ?_
      refine Go.pull (V := T145.setTop (mkF m 145 #[iv pa, iv pb, iv 3, iv 1, iv 1023, iv 56, iv 448, iv 56, iv 519, iv 1023] [(.int 1), (.int 3)])) (fun t k => XS.iloadN X145.here hx rfl (hb hby at_144) rfl  k) ?_
      refine Go.pull (V := T145.setTop (mkF m 148 #[iv pa, iv pb, iv 3, iv 1, iv 1023, iv 56, iv 448, iv 56, iv 519, iv 1023] [])) (fun t k => XS.icmpNo X145.here hx rfl (hb hby at_145) rfl (XT.ii_eq_f (by decide)) k) ?_
      refine Go.pull (V := T145.setTop (mkF m 149 #[iv pa, iv pb, iv 3, iv 1, iv 1023, iv 56, iv 448, iv 56, iv 519, iv 1023] [(.int 3)])) (fun t k => XS.iloadN X145.here hx rfl (hb hby at_148) rfl  k) ?_
      refine Go.pull (V := T145.setTop (mkF m 150 #[iv pa, iv pb, iv 3, iv 1, iv 1023, iv 56, iv 448, iv 56, iv 519, iv 1023] [(.int 3), (.int 3)])) (fun t k => XS.iconst X145.here hx rfl (hb hby at_149) k) ?_
      refine Go.pull (V := T145.setTop (mkF m 168 #[iv pa, iv pb, iv 3, iv 1, iv 1023, iv 56, iv 448, iv 56, iv 519, iv 1023] [])) (fun t k => XS.icmpYes X145.here hx rfl (pc0 := 150) (pc' := 168) rfl (hb hby at_150) rfl (XT.ii_eq_t (by decide)) (by decide) (by decide) k) ?_
      refine Go.pull (V := T145.setTop (mkF m 170 #[iv pa, iv pb, iv 3, iv 1, iv 1023, iv 56, iv 448, iv 56, iv 519, iv 1023] [(.int 519)])) (fun t k => XS.iload X145.here hx rfl (hb hby at_168) rfl  k) ?_
      refine Go.pull (V := T145.setTop (mkF m 173 #[iv pa, iv pb, iv 3, iv 1, iv 1023, iv 56, iv 448, iv 56, iv 519, iv 1023] [(.int 512), (.int 519)])) (fun t k => XS.sipush X145.here hx rfl (hb hby at_170) k) ?_
      refine Go.pull (V := T145.setTop (mkF m 174 #[iv pa, iv pb, iv 3, iv 1, iv 1023, iv 56, iv 448, iv 56, iv 519, iv 1023] [(.int 512)])) (fun t k => XS.iand X145.here hx rfl (hb hby at_173) rfl k) ?_
      refine Go.pull (V := T145.setTop (mkF m 177 #[iv pa, iv pb, iv 3, iv 1, iv 1023, iv 56, iv 448, iv 56, iv 519, iv 1023] [])) (fun t k => XS.ifNo X145.here hx rfl (hb hby at_174) rfl (XT.i0_eq_f (by decide)) k) ?_
      refine Go.pull (V := T145.setTop (mkF m 179 #[iv pa, iv pb, iv 3, iv 1, iv 1023, iv 56, iv 448, iv 56, iv 519, iv 1023] [(.int 448)])) (fun t k => XS.iload X145.here hx rfl (hb hby at_177) rfl  k) ?_
      refine Go.pull (V := T145.setTop (mkF m 181 #[iv pa, iv pb, iv 3, iv 1, iv 1023, iv 56, iv 448, iv 56, iv 519, iv 1023] [(.int 56), (.int 448)])) (fun t k => XS.iload X145.here hx rfl (hb hby at_179) rfl  k) ?_
      refine Go.pull (V := T145.setTop (mkF m 182 #[iv pa, iv pb, iv 3, iv 1, iv 1023, iv 56, iv 448, iv 56, iv 519, iv 1023] [(.int 504)])) (fun t k => XS.ior X145.here hx rfl (hb hby at_181) rfl k) ?_
      refine Go.pull (V := T145.setTop (mkF m 185 #[iv pa, iv pb, iv 3, iv 1, iv 1023, iv 56, iv 448, iv 56, iv 519, iv 1023] [(.int 512), (.int 504)])) (fun t k => XS.sipush X145.here hx rfl (hb hby at_182) k) ?_
      refine Go.pull (V := T145.setTop (mkF m 186 #[iv pa, iv pb, iv 3, iv 1, iv 1023, iv 56, iv 448, iv 56, iv 519, iv 1023] [(.int 0)])) (fun t k => XS.iand X145.here hx rfl (hb hby at_185) rfl k) ?_
      refine Go.pull (V := T145.setTop (mkF m 191 #[iv pa, iv pb, iv 3, iv 1, iv 1023, iv 56, iv 448, iv 56, iv 519, iv 1023] [])) (fun t k => XS.ifYes X145.here hx rfl (pc0 := 186) (pc' := 191) rfl (hb hby at_186) rfl (XT.i0_eq_t (by decide)) (by decide) (by decide) k) ?_
      refine Go.pull (V := T145.setTop (mkF m 192 #[iv pa, iv pb, iv 3, iv 1, iv 1023, iv 56, iv 448, iv 56, iv 519, iv 1023] [(.int 1)])) (fun t k => XS.iconst X145.here hx rfl (hb hby at_191) k) ?_
      exact Go.retN X145 hx Bd.notSynchronized (t := .boolean) Bd.returns (by simp) (hb hby at_192) ⟨rfl, N145⟩ (by decide) (by decide)
    · subst hv125
      refine Go.pull (V := s₁.setTop (mkF m 9 #[iv pa, iv pb, iv 3, iv 2, .unset, .unset, .unset, .unset, .unset, .unset] [(.int 3)])) (fun t k => XS.iloadN X0.here hx rfl (hb hby at_8) rfl  k) ?_
      obtain ⟨_, _, ⟨T146, L146, k146, n146⟩, -, X146, ⟨Lc146, hQ146, l146, y146, z146⟩, st146⟩ := Jvm.LawKit.callS X0 hx (y := (⟨"com/example/facl/facl/ModeSpecPartPinLaw", "letter", "(I)C"⟩ : MethodName)) hown (mvT hZ (hw _ (List.mem_of_getElem? (i := 0) rfl))) (mvT hZ (hw _ (List.mem_of_getElem? (i := 1) rfl))) (mvT hZ (hw _ (List.mem_of_getElem? (i := 2) rfl))) (mvT hZ (hw _ (List.mem_of_getElem? (i := 3) rfl))) (by decide) (backOf (W := 0) (rmL l Z a0 hw [] (3 : Int32) h0 n0 ) hZ (hw _ (List.mem_of_getElem? (i := 3) rfl)) (hw _ (List.mem_of_getElem? (i := 2) rfl)) (by decide) (by decide)) (g := (mkF m 9 #[iv pa, iv pb, iv 3, iv 2, .unset, .unset, .unset, .unset, .unset, .unset] [(.int 3)])) rfl (by rw [hml]; rfl) (argsL := [(.int 3)]) (rest := []) (lenOf pd_0 rfl) rfl (by show 2 * 0 + _ ≤ _; exact Nat.le_of_eq rfl) (hb hby at_9) (fun _ _ => ⟨rfl, e0, (by decide : 0 + 0 ≤ _), (by decide : 0 + 0 ≤ _)⟩)
      dsimp only [Pt.U, Pt.locs, Pt.cells, Pt.slots] at X146 l146 y146 z146 st146 hQ146
      subst l146 y146 z146
      obtain ⟨hv146, N146q, e146⟩ := hQ146
      rw [(show (own_letter (3 : Int32)) = (97 : Int32) from by decide)] at hv146; subst hv146
      have N146 := Fr.app N0 N146q
      refine Go.pull (V := T146.setTop (mkF m 12 #[iv pa, iv pb, iv 3, iv 2, .unset, .unset, .unset, .unset, .unset, .unset] [(.int 97)])) st146 ?_
      obtain ⟨_, _, ⟨T147, L147, k147, n147⟩, -, X147, ⟨Lc147, hQ147, l147, y147, z147⟩, st147⟩ := Jvm.LawKit.callS X146 hx (y := (⟨"com/example/facl/facl/ModeSpec", "part", "(C)I"⟩ : MethodName)) hown (mvT hZ (hw _ (List.mem_of_getElem? (i := 4) rfl))) (mvT hZ (hw _ (List.mem_of_getElem? (i := 5) rfl))) (mvT hZ (hw _ (List.mem_of_getElem? (i := 6) rfl))) (mvT hZ (hw _ (List.mem_of_getElem? (i := 7) rfl))) (by decide) (backOf (W := 0) (rmP l Z a0 hw [] (97 : Int32) h0 n0 (by decide)) hZ (hw _ (List.mem_of_getElem? (i := 7) rfl)) (hw _ (List.mem_of_getElem? (i := 6) rfl)) (by decide) (by decide)) (g := (mkF m 12 #[iv pa, iv pb, iv 3, iv 2, .unset, .unset, .unset, .unset, .unset, .unset] [(.int 97)])) rfl (by rw [hml]; rfl) (argsL := [(.int 97)]) (rest := []) (lenOf pd_1 rfl) rfl (by show 2 * 0 + _ ≤ _; exact Nat.le_of_eq rfl) (hb hby at_12) (fun _ _ => ⟨rfl, e146, (by decide : 0 + 0 ≤ _), (by decide : 0 + 0 ≤ _)⟩)
      dsimp only [Pt.U, Pt.locs, Pt.cells, Pt.slots] at X147 l147 y147 z147 st147 hQ147
      subst l147 y147 z147
      obtain ⟨hv147, N147q, e147⟩ := hQ147
      rw [(show (own_part (97 : Int32)) = (1023 : Int32) from by decide)] at hv147; subst hv147
      have N147 := Fr.app N146 N147q
      refine Go.pull (V := T147.setTop (mkF m 15 #[iv pa, iv pb, iv 3, iv 2, .unset, .unset, .unset, .unset, .unset, .unset] [(.int 1023)])) st147 ?_
      refine Go.pull (V := T147.setTop (mkF m 17 #[iv pa, iv pb, iv 3, iv 2, iv 1023, .unset, .unset, .unset, .unset, .unset] [])) (fun t k => XS.istore X147.here hx rfl (hb hby at_15) rfl (l' := #[iv pa, iv pb, iv 3, iv 2, iv 1023, .unset, .unset, .unset, .unset, .unset]) rfl k) ?_
      refine Go.pull (V := T147.setTop (mkF m 18 #[iv pa, iv pb, iv 3, iv 2, iv 1023, .unset, .unset, .unset, .unset, .unset] [(.int 2)])) (fun t k => XS.iloadN X147.here hx rfl (hb hby at_17) rfl  k) ?_
      obtain ⟨_, _, ⟨T148, L148, k148, n148⟩, -, X148, ⟨Lc148, hQ148, l148, y148, z148⟩, st148⟩ := Jvm.LawKit.callS X147 hx (y := (⟨"com/example/facl/facl/ModeSpecPartPinLaw", "letter", "(I)C"⟩ : MethodName)) hown (mvT hZ (hw _ (List.mem_of_getElem? (i := 0) rfl))) (mvT hZ (hw _ (List.mem_of_getElem? (i := 1) rfl))) (mvT hZ (hw _ (List.mem_of_getElem? (i := 2) rfl))) (mvT hZ (hw _ (List.mem_of_getElem? (i := 3) rfl))) (by decide) (backOf (W := 0) (rmL l Z a0 hw [] (2 : Int32) h0 n0 ) hZ (hw _ (List.mem_of_getElem? (i := 3) rfl)) (hw _ (List.mem_of_getElem? (i := 2) rfl)) (by decide) (by decide)) (g := (mkF m 18 #[iv pa, iv pb, iv 3, iv 2, iv 1023, .unset, .unset, .unset, .unset, .unset] [(.int 2)])) rfl (by rw [hml]; rfl) (argsL := [(.int 2)]) (rest := []) (lenOf pd_0 rfl) rfl (by show 2 * 0 + _ ≤ _; exact Nat.le_of_eq rfl) (hb hby at_18) (fun _ _ => ⟨rfl, e147, (by decide : 0 + 0 ≤ _), (by decide : 0 + 0 ≤ _)⟩)
      dsimp only [Pt.U, Pt.locs, Pt.cells, Pt.slots] at X148 l148 y148 z148 st148 hQ148
      subst l148 y148 z148
      obtain ⟨hv148, N148q, e148⟩ := hQ148
      rw [(show (own_letter (2 : Int32)) = (111 : Int32) from by decide)] at hv148; subst hv148
      have N148 := Fr.app N147 N148q
      refine Go.pull (V := T148.setTop (mkF m 21 #[iv pa, iv pb, iv 3, iv 2, iv 1023, .unset, .unset, .unset, .unset, .unset] [(.int 111)])) st148 ?_
      obtain ⟨_, _, ⟨T149, L149, k149, n149⟩, -, X149, ⟨Lc149, hQ149, l149, y149, z149⟩, st149⟩ := Jvm.LawKit.callS X148 hx (y := (⟨"com/example/facl/facl/ModeSpec", "part", "(C)I"⟩ : MethodName)) hown (mvT hZ (hw _ (List.mem_of_getElem? (i := 4) rfl))) (mvT hZ (hw _ (List.mem_of_getElem? (i := 5) rfl))) (mvT hZ (hw _ (List.mem_of_getElem? (i := 6) rfl))) (mvT hZ (hw _ (List.mem_of_getElem? (i := 7) rfl))) (by decide) (backOf (W := 0) (rmP l Z a0 hw [] (111 : Int32) h0 n0 (by decide)) hZ (hw _ (List.mem_of_getElem? (i := 7) rfl)) (hw _ (List.mem_of_getElem? (i := 6) rfl)) (by decide) (by decide)) (g := (mkF m 21 #[iv pa, iv pb, iv 3, iv 2, iv 1023, .unset, .unset, .unset, .unset, .unset] [(.int 111)])) rfl (by rw [hml]; rfl) (argsL := [(.int 111)]) (rest := []) (lenOf pd_1 rfl) rfl (by show 2 * 0 + _ ≤ _; exact Nat.le_of_eq rfl) (hb hby at_21) (fun _ _ => ⟨rfl, e148, (by decide : 0 + 0 ≤ _), (by decide : 0 + 0 ≤ _)⟩)
      dsimp only [Pt.U, Pt.locs, Pt.cells, Pt.slots] at X149 l149 y149 z149 st149 hQ149
      subst l149 y149 z149
      obtain ⟨hv149, N149q, e149⟩ := hQ149
      rw [(show (own_part (111 : Int32)) = (519 : Int32) from by decide)] at hv149; subst hv149
      have N149 := Fr.app N148 N149q
      refine Go.pull (V := T149.setTop (mkF m 24 #[iv pa, iv pb, iv 3, iv 2, iv 1023, .unset, .unset, .unset, .unset, .unset] [(.int 519)])) st149 ?_
      refine Go.pull (V := T149.setTop (mkF m 26 #[iv pa, iv pb, iv 3, iv 2, iv 1023, iv 519, .unset, .unset, .unset, .unset] [])) (fun t k => XS.istore X149.here hx rfl (hb hby at_24) rfl (l' := #[iv pa, iv pb, iv 3, iv 2, iv 1023, iv 519, .unset, .unset, .unset, .unset]) rfl k) ?_
      refine Go.pull (V := T149.setTop (mkF m 28 #[iv pa, iv pb, iv 3, iv 2, iv 1023, iv 519, .unset, .unset, .unset, .unset] [(.int 117)])) (fun t k => XS.bipush X149.here hx rfl (hb hby at_26) k) ?_
      obtain ⟨_, _, ⟨T150, L150, k150, n150⟩, -, X150, ⟨Lc150, hQ150, l150, y150, z150⟩, st150⟩ := Jvm.LawKit.callS X149 hx (y := (⟨"com/example/facl/facl/ModeSpec", "part", "(C)I"⟩ : MethodName)) hown (mvT hZ (hw _ (List.mem_of_getElem? (i := 4) rfl))) (mvT hZ (hw _ (List.mem_of_getElem? (i := 5) rfl))) (mvT hZ (hw _ (List.mem_of_getElem? (i := 6) rfl))) (mvT hZ (hw _ (List.mem_of_getElem? (i := 7) rfl))) (by decide) (backOf (W := 0) (rmP l Z a0 hw [] (117 : Int32) h0 n0 (by decide)) hZ (hw _ (List.mem_of_getElem? (i := 7) rfl)) (hw _ (List.mem_of_getElem? (i := 6) rfl)) (by decide) (by decide)) (g := (mkF m 28 #[iv pa, iv pb, iv 3, iv 2, iv 1023, iv 519, .unset, .unset, .unset, .unset] [(.int 117)])) rfl (by rw [hml]; rfl) (argsL := [(.int 117)]) (rest := []) (lenOf pd_1 rfl) rfl (by show 2 * 0 + _ ≤ _; exact Nat.le_of_eq rfl) (hb hby at_28) (fun _ _ => ⟨rfl, e149, (by decide : 0 + 0 ≤ _), (by decide : 0 + 0 ≤ _)⟩)
      dsimp only [Pt.U, Pt.locs, Pt.cells, Pt.slots] at X150 l150 y150 z150 st150 hQ150
      subst l150 y150 z150
      obtain ⟨hv150, N150q, e150⟩ := hQ150
      rw [(show (own_part (117 : Int32)) = (448 : Int32) from by decide)] at hv150; subst hv150
      have N150 := Fr.app N149 N150q
      refine Go.pull (V := T150.setTop (mkF m 31 #[iv pa, iv pb, iv 3, iv 2, iv 1023, iv 519, .unset, .unset, .unset, .unset] [(.int 448)])) st150 ?_
      refine Go.pull (V := T150.setTop (mkF m 33 #[iv pa, iv pb, iv 3, iv 2, iv 1023, iv 519, iv 448, .unset, .unset, .unset] [])) (fun t k => XS.istore X150.here hx rfl (hb hby at_31) rfl (l' := #[iv pa, iv pb, iv 3, iv 2, iv 1023, iv 519, iv 448, .unset, .unset, .unset]) rfl k) ?_
      refine Go.pull (V := T150.setTop (mkF m 35 #[iv pa, iv pb, iv 3, iv 2, iv 1023, iv 519, iv 448, .unset, .unset, .unset] [(.int 103)])) (fun t k => XS.bipush X150.here hx rfl (hb hby at_33) k) ?_
      obtain ⟨_, _, ⟨T151, L151, k151, n151⟩, -, X151, ⟨Lc151, hQ151, l151, y151, z151⟩, st151⟩ := Jvm.LawKit.callS X150 hx (y := (⟨"com/example/facl/facl/ModeSpec", "part", "(C)I"⟩ : MethodName)) hown (mvT hZ (hw _ (List.mem_of_getElem? (i := 4) rfl))) (mvT hZ (hw _ (List.mem_of_getElem? (i := 5) rfl))) (mvT hZ (hw _ (List.mem_of_getElem? (i := 6) rfl))) (mvT hZ (hw _ (List.mem_of_getElem? (i := 7) rfl))) (by decide) (backOf (W := 0) (rmP l Z a0 hw [] (103 : Int32) h0 n0 (by decide)) hZ (hw _ (List.mem_of_getElem? (i := 7) rfl)) (hw _ (List.mem_of_getElem? (i := 6) rfl)) (by decide) (by decide)) (g := (mkF m 35 #[iv pa, iv pb, iv 3, iv 2, iv 1023, iv 519, iv 448, .unset, .unset, .unset] [(.int 103)])) rfl (by rw [hml]; rfl) (argsL := [(.int 103)]) (rest := []) (lenOf pd_1 rfl) rfl (by show 2 * 0 + _ ≤ _; exact Nat.le_of_eq rfl) (hb hby at_35) (fun _ _ => ⟨rfl, e150, (by decide : 0 + 0 ≤ _), (by decide : 0 + 0 ≤ _)⟩)
      dsimp only [Pt.U, Pt.locs, Pt.cells, Pt.slots] at X151 l151 y151 z151 st151 hQ151
      subst l151 y151 z151
      obtain ⟨hv151, N151q, e151⟩ := hQ151
      rw [(show (own_part (103 : Int32)) = (56 : Int32) from by decide)] at hv151; subst hv151
      have N151 := Fr.app N150 N151q
      refine Go.pull (V := T151.setTop (mkF m 38 #[iv pa, iv pb, iv 3, iv 2, iv 1023, iv 519, iv 448, .unset, .unset, .unset] [(.int 56)])) st151 ?_
      refine Go.pull (V := T151.setTop (mkF m 40 #[iv pa, iv pb, iv 3, iv 2, iv 1023, iv 519, iv 448, iv 56, .unset, .unset] [])) (fun t k => XS.istore X151.here hx rfl (hb hby at_38) rfl (l' := #[iv pa, iv pb, iv 3, iv 2, iv 1023, iv 519, iv 448, iv 56, .unset, .unset]) rfl k) ?_
      refine Go.pull (V := T151.setTop (mkF m 42 #[iv pa, iv pb, iv 3, iv 2, iv 1023, iv 519, iv 448, iv 56, .unset, .unset] [(.int 111)])) (fun t k => XS.bipush X151.here hx rfl (hb hby at_40) k) ?_
      obtain ⟨_, _, ⟨T152, L152, k152, n152⟩, -, X152, ⟨Lc152, hQ152, l152, y152, z152⟩, st152⟩ := Jvm.LawKit.callS X151 hx (y := (⟨"com/example/facl/facl/ModeSpec", "part", "(C)I"⟩ : MethodName)) hown (mvT hZ (hw _ (List.mem_of_getElem? (i := 4) rfl))) (mvT hZ (hw _ (List.mem_of_getElem? (i := 5) rfl))) (mvT hZ (hw _ (List.mem_of_getElem? (i := 6) rfl))) (mvT hZ (hw _ (List.mem_of_getElem? (i := 7) rfl))) (by decide) (backOf (W := 0) (rmP l Z a0 hw [] (111 : Int32) h0 n0 (by decide)) hZ (hw _ (List.mem_of_getElem? (i := 7) rfl)) (hw _ (List.mem_of_getElem? (i := 6) rfl)) (by decide) (by decide)) (g := (mkF m 42 #[iv pa, iv pb, iv 3, iv 2, iv 1023, iv 519, iv 448, iv 56, .unset, .unset] [(.int 111)])) rfl (by rw [hml]; rfl) (argsL := [(.int 111)]) (rest := []) (lenOf pd_1 rfl) rfl (by show 2 * 0 + _ ≤ _; exact Nat.le_of_eq rfl) (hb hby at_42) (fun _ _ => ⟨rfl, e151, (by decide : 0 + 0 ≤ _), (by decide : 0 + 0 ≤ _)⟩)
      dsimp only [Pt.U, Pt.locs, Pt.cells, Pt.slots] at X152 l152 y152 z152 st152 hQ152
      subst l152 y152 z152
      obtain ⟨hv152, N152q, e152⟩ := hQ152
      rw [(show (own_part (111 : Int32)) = (519 : Int32) from by decide)] at hv152; subst hv152
      have N152 := Fr.app N151 N152q
      refine Go.pull (V := T152.setTop (mkF m 45 #[iv pa, iv pb, iv 3, iv 2, iv 1023, iv 519, iv 448, iv 56, .unset, .unset] [(.int 519)])) st152 ?_
      refine Go.pull (V := T152.setTop (mkF m 47 #[iv pa, iv pb, iv 3, iv 2, iv 1023, iv 519, iv 448, iv 56, iv 519, .unset] [])) (fun t k => XS.istore X152.here hx rfl (hb hby at_45) rfl (l' := #[iv pa, iv pb, iv 3, iv 2, iv 1023, iv 519, iv 448, iv 56, iv 519, .unset]) rfl k) ?_
      refine Go.pull (V := T152.setTop (mkF m 49 #[iv pa, iv pb, iv 3, iv 2, iv 1023, iv 519, iv 448, iv 56, iv 519, .unset] [(.int 97)])) (fun t k => XS.bipush X152.here hx rfl (hb hby at_47) k) ?_
      obtain ⟨_, _, ⟨T153, L153, k153, n153⟩, -, X153, ⟨Lc153, hQ153, l153, y153, z153⟩, st153⟩ := Jvm.LawKit.callS X152 hx (y := (⟨"com/example/facl/facl/ModeSpec", "part", "(C)I"⟩ : MethodName)) hown (mvT hZ (hw _ (List.mem_of_getElem? (i := 4) rfl))) (mvT hZ (hw _ (List.mem_of_getElem? (i := 5) rfl))) (mvT hZ (hw _ (List.mem_of_getElem? (i := 6) rfl))) (mvT hZ (hw _ (List.mem_of_getElem? (i := 7) rfl))) (by decide) (backOf (W := 0) (rmP l Z a0 hw [] (97 : Int32) h0 n0 (by decide)) hZ (hw _ (List.mem_of_getElem? (i := 7) rfl)) (hw _ (List.mem_of_getElem? (i := 6) rfl)) (by decide) (by decide)) (g := (mkF m 49 #[iv pa, iv pb, iv 3, iv 2, iv 1023, iv 519, iv 448, iv 56, iv 519, .unset] [(.int 97)])) rfl (by rw [hml]; rfl) (argsL := [(.int 97)]) (rest := []) (lenOf pd_1 rfl) rfl (by show 2 * 0 + _ ≤ _; exact Nat.le_of_eq rfl) (hb hby at_49) (fun _ _ => ⟨rfl, e152, (by decide : 0 + 0 ≤ _), (by decide : 0 + 0 ≤ _)⟩)
      dsimp only [Pt.U, Pt.locs, Pt.cells, Pt.slots] at X153 l153 y153 z153 st153 hQ153
      subst l153 y153 z153
      obtain ⟨hv153, N153q, e153⟩ := hQ153
      rw [(show (own_part (97 : Int32)) = (1023 : Int32) from by decide)] at hv153; subst hv153
      have N153 := Fr.app N152 N153q
      refine Go.pull (V := T153.setTop (mkF m 52 #[iv pa, iv pb, iv 3, iv 2, iv 1023, iv 519, iv 448, iv 56, iv 519, .unset] [(.int 1023)])) st153 ?_
      refine Go.pull (V := T153.setTop (mkF m 54 #[iv pa, iv pb, iv 3, iv 2, iv 1023, iv 519, iv 448, iv 56, iv 519, iv 1023] [])) (fun t k => XS.istore X153.here hx rfl (hb hby at_52) rfl (l' := #[iv pa, iv pb, iv 3, iv 2, iv 1023, iv 519, iv 448, iv 56, iv 519, iv 1023]) rfl k) ?_
      refine Go.pull (V := T153.setTop (mkF m 56 #[iv pa, iv pb, iv 3, iv 2, iv 1023, iv 519, iv 448, iv 56, iv 519, iv 1023] [(.int 1023)])) (fun t k => XS.iload X153.here hx rfl (hb hby at_54) rfl  k) ?_
      refine Go.pull (V := T153.setTop (mkF m 57 #[iv pa, iv pb, iv 3, iv 2, iv 1023, iv 519, iv 448, iv 56, iv 519, iv 1023] [(.int 3), (.int 1023)])) (fun t k => XS.iloadN X153.here hx rfl (hb hby at_56) rfl  k) ?_
      obtain ⟨_, _, ⟨T154, L154, k154, n154⟩, -, X154, ⟨Lc154, hQ154, l154, y154, z154⟩, st154⟩ := Jvm.LawKit.callS X153 hx (y := (⟨"com/example/facl/facl/ModeSpecPartPinLaw", "expected", "(I)I"⟩ : MethodName)) hown (mvT hZ (hw _ (List.mem_of_getElem? (i := 8) rfl))) (mvT hZ (hw _ (List.mem_of_getElem? (i := 9) rfl))) (mvT hZ (hw _ (List.mem_of_getElem? (i := 2) rfl))) (mvT hZ (hw _ (List.mem_of_getElem? (i := 10) rfl))) (by decide) (backOf (W := 1) (rmX l Z a0 hw [] (3 : Int32) h0 n0 ) hZ (hw _ (List.mem_of_getElem? (i := 10) rfl)) (hw _ (List.mem_of_getElem? (i := 2) rfl)) (by decide) (by decide)) (g := (mkF m 57 #[iv pa, iv pb, iv 3, iv 2, iv 1023, iv 519, iv 448, iv 56, iv 519, iv 1023] [(.int 3), (.int 1023)])) rfl (by rw [hml]; rfl) (argsL := [(.int 3)]) (rest := [(.int 1023)]) (lenOf pd_2 rfl) rfl (by show 2 * 0 + _ ≤ _; exact Nat.le_of_eq rfl) (hb hby at_57) (fun _ _ => ⟨rfl, e153, (by decide : 0 + 0 ≤ _), (by decide : 0 + 0 ≤ _)⟩)
      dsimp only [Pt.U, Pt.locs, Pt.cells, Pt.slots] at X154 l154 y154 z154 st154 hQ154
      subst l154 y154 z154
      obtain ⟨hv154, N154q, e154⟩ := hQ154
      rw [(show (own_expected (3 : Int32)) = (1023 : Int32) from by decide)] at hv154; subst hv154
      have N154 := Fr.app N153 N154q
      refine Go.pull (V := T154.setTop (mkF m 60 #[iv pa, iv pb, iv 3, iv 2, iv 1023, iv 519, iv 448, iv 56, iv 519, iv 1023] [(.int 1023), (.int 1023)])) st154 ?_
      refine Go.pull (V := T154.setTop (mkF m 63 #[iv pa, iv pb, iv 3, iv 2, iv 1023, iv 519, iv 448, iv 56, iv 519, iv 1023] [])) (fun t k => XS.icmpNo X154.here hx rfl (hb hby at_60) rfl (XT.ii_ne_f (by decide)) k) ?_
      refine Go.pull (V := T154.setTop (mkF m 65 #[iv pa, iv pb, iv 3, iv 2, iv 1023, iv 519, iv 448, iv 56, iv 519, iv 1023] [(.int 519)])) (fun t k => XS.iload X154.here hx rfl (hb hby at_63) rfl  k) ?_
      refine Go.pull (V := T154.setTop (mkF m 66 #[iv pa, iv pb, iv 3, iv 2, iv 1023, iv 519, iv 448, iv 56, iv 519, iv 1023] [(.int 2), (.int 519)])) (fun t k => XS.iloadN X154.here hx rfl (hb hby at_65) rfl  k) ?_
      obtain ⟨_, _, ⟨T155, L155, k155, n155⟩, -, X155, ⟨Lc155, hQ155, l155, y155, z155⟩, st155⟩ := Jvm.LawKit.callS X154 hx (y := (⟨"com/example/facl/facl/ModeSpecPartPinLaw", "expected", "(I)I"⟩ : MethodName)) hown (mvT hZ (hw _ (List.mem_of_getElem? (i := 8) rfl))) (mvT hZ (hw _ (List.mem_of_getElem? (i := 9) rfl))) (mvT hZ (hw _ (List.mem_of_getElem? (i := 2) rfl))) (mvT hZ (hw _ (List.mem_of_getElem? (i := 10) rfl))) (by decide) (backOf (W := 1) (rmX l Z a0 hw [] (2 : Int32) h0 n0 ) hZ (hw _ (List.mem_of_getElem? (i := 10) rfl)) (hw _ (List.mem_of_getElem? (i := 2) rfl)) (by decide) (by decide)) (g := (mkF m 66 #[iv pa, iv pb, iv 3, iv 2, iv 1023, iv 519, iv 448, iv 56, iv 519, iv 1023] [(.int 2), (.int 519)])) rfl (by rw [hml]; rfl) (argsL := [(.int 2)]) (rest := [(.int 519)]) (lenOf pd_2 rfl) rfl (by show 2 * 0 + _ ≤ _; exact Nat.le_of_eq rfl) (hb hby at_66) (fun _ _ => ⟨rfl, e154, (by decide : 0 + 0 ≤ _), (by decide : 0 + 0 ≤ _)⟩)
      dsimp only [Pt.U, Pt.locs, Pt.cells, Pt.slots] at X155 l155 y155 z155 st155 hQ155
      subst l155 y155 z155
      obtain ⟨hv155, N155q, e155⟩ := hQ155
      rw [(show (own_expected (2 : Int32)) = (519 : Int32) from by decide)] at hv155; subst hv155
      have N155 := Fr.app N154 N155q
      refine Go.pull (V := T155.setTop (mkF m 69 #[iv pa, iv pb, iv 3, iv 2, iv 1023, iv 519, iv 448, iv 56, iv 519, iv 1023] [(.int 519), (.int 519)])) st155 ?_
      refine Go.pull (V := T155.setTop (mkF m 74 #[iv pa, iv pb, iv 3, iv 2, iv 1023, iv 519, iv 448, iv 56, iv 519, iv 1023] [])) (fun t k => XS.icmpYes X155.here hx rfl (pc0 := 69) (pc' := 74) rfl (hb hby at_69) rfl (XT.ii_eq_t (by decide)) (by decide) (by decide) k) ?_
      refine Go.pull (V := T155.setTop (mkF m 76 #[iv pa, iv pb, iv 3, iv 2, iv 1023, iv 519, iv 448, iv 56, iv 519, iv 1023] [(.int 1023)])) (fun t k => XS.iload X155.here hx rfl (hb hby at_74) rfl  k) ?_
      refine Go.pull (V := T155.setTop (mkF m 79 #[iv pa, iv pb, iv 3, iv 2, iv 1023, iv 519, iv 448, iv 56, iv 519, iv 1023] [(.int (-1024)), (.int 1023)])) (fun t k => XS.sipush X155.here hx rfl (hb hby at_76) k) ?_
      refine Go.pull (V := T155.setTop (mkF m 80 #[iv pa, iv pb, iv 3, iv 2, iv 1023, iv 519, iv 448, iv 56, iv 519, iv 1023] [(.int 0)])) (fun t k => XS.iand X155.here hx rfl (hb hby at_79) rfl k) ?_
      refine Go.pull (V := T155.setTop (mkF m 83 #[iv pa, iv pb, iv 3, iv 2, iv 1023, iv 519, iv 448, iv 56, iv 519, iv 1023] [])) (fun t k => XS.ifNo X155.here hx rfl (hb hby at_80) rfl (XT.i0_ne_f (by decide)) k) ?_
      refine Go.pull (V := T155.setTop (mkF m 85 #[iv pa, iv pb, iv 3, iv 2, iv 1023, iv 519, iv 448, iv 56, iv 519, iv 1023] [(.int 519)])) (fun t k => XS.iload X155.here hx rfl (hb hby at_83) rfl  k) ?_
      refine Go.pull (V := T155.setTop (mkF m 88 #[iv pa, iv pb, iv 3, iv 2, iv 1023, iv 519, iv 448, iv 56, iv 519, iv 1023] [(.int (-1024)), (.int 519)])) (fun t k => XS.sipush X155.here hx rfl (hb hby at_85) k) ?_
      refine Go.pull (V := T155.setTop (mkF m 89 #[iv pa, iv pb, iv 3, iv 2, iv 1023, iv 519, iv 448, iv 56, iv 519, iv 1023] [(.int 0)])) (fun t k => XS.iand X155.here hx rfl (hb hby at_88) rfl k) ?_
      refine Go.pull (V := T155.setTop (mkF m 94 #[iv pa, iv pb, iv 3, iv 2, iv 1023, iv 519, iv 448, iv 56, iv 519, iv 1023] [])) (fun t k => XS.ifYes X155.here hx rfl (pc0 := 89) (pc' := 94) rfl (hb hby at_89) rfl (XT.i0_eq_t (by decide)) (by decide) (by decide) k) ?_
      refine Go.pull (V := T155.setTop (mkF m 96 #[iv pa, iv pb, iv 3, iv 2, iv 1023, iv 519, iv 448, iv 56, iv 519, iv 1023] [(.int 1023)])) (fun t k => XS.iload X155.here hx rfl (hb hby at_94) rfl  k) ?_
      refine Go.pull (V := T155.setTop (mkF m 99 #[iv pa, iv pb, iv 3, iv 2, iv 1023, iv 519, iv 448, iv 56, iv 519, iv 1023] [(.int 1023), (.int 1023)])) (fun t k => XS.sipush X155.here hx rfl (hb hby at_96) k) ?_
      refine Go.pull (V := T155.setTop (mkF m 102 #[iv pa, iv pb, iv 3, iv 2, iv 1023, iv 519, iv 448, iv 56, iv 519, iv 1023] [])) (fun t k => XS.icmpNo X155.here hx rfl (hb hby at_99) rfl (XT.ii_ne_f (by decide)) k) ?_
      refine Go.pull (V := T155.setTop (mkF m 104 #[iv pa, iv pb, iv 3, iv 2, iv 1023, iv 519, iv 448, iv 56, iv 519, iv 1023] [(.int 448)])) (fun t k => XS.iload X155.here hx rfl (hb hby at_102) rfl  k) ?_
      refine Go.pull (V := T155.setTop (mkF m 106 #[iv pa, iv pb, iv 3, iv 2, iv 1023, iv 519, iv 448, iv 56, iv 519, iv 1023] [(.int 56), (.int 448)])) (fun t k => XS.iload X155.here hx rfl (hb hby at_104) rfl  k) ?_
      refine Go.pull (V := T155.setTop (mkF m 107 #[iv pa, iv pb, iv 3, iv 2, iv 1023, iv 519, iv 448, iv 56, iv 519, iv 1023] [(.int 504)])) (fun t k => XS.ior X155.here hx rfl (hb hby at_106) rfl k) ?_
      refine Go.pull (V := T155.setTop (mkF m 109 #[iv pa, iv pb, iv 3, iv 2, iv 1023, iv 519, iv 448, iv 56, iv 519, iv 1023] [(.int 519), (.int 504)])) (fun t k => XS.iload X155.here hx rfl (hb hby at_107) rfl  k) ?_
      refine Go.pull (V := T155.setTop (mkF m 110 #[iv pa, iv pb, iv 3, iv 2, iv 1023, iv 519, iv 448, iv 56, iv 519, iv 1023] [(.int 1023)])) (fun t k => XS.ior X155.here hx rfl (hb hby at_109) rfl k) ?_
      refine Go.pull (V := T155.setTop (mkF m 112 #[iv pa, iv pb, iv 3, iv 2, iv 1023, iv 519, iv 448, iv 56, iv 519, iv 1023] [(.int 1023), (.int 1023)])) (fun t k => XS.iload X155.here hx rfl (hb hby at_110) rfl  k) ?_
      refine Go.pull (V := T155.setTop (mkF m 117 #[iv pa, iv pb, iv 3, iv 2, iv 1023, iv 519, iv 448, iv 56, iv 519, iv 1023] [])) (fun t k => XS.icmpYes X155.here hx rfl (pc0 := 112) (pc' := 117) rfl (hb hby at_112) rfl (XT.ii_eq_t (by decide)) (by decide) (by decide) k) ?_
      refine Go.pull (V := T155.setTop (mkF m 119 #[iv pa, iv pb, iv 3, iv 2, iv 1023, iv 519, iv 448, iv 56, iv 519, iv 1023] [(.int 448)])) (fun t k => XS.iload X155.here hx rfl (hb hby at_117) rfl  k) ?_
      refine Go.pull (V := T155.setTop (mkF m 121 #[iv pa, iv pb, iv 3, iv 2, iv 1023, iv 519, iv 448, iv 56, iv 519, iv 1023] [(.int 56), (.int 448)])) (fun t k => XS.iload X155.here hx rfl (hb hby at_119) rfl  k) ?_
      refine Go.pull (V := T155.setTop (mkF m 122 #[iv pa, iv pb, iv 3, iv 2, iv 1023, iv 519, iv 448, iv 56, iv 519, iv 1023] [(.int 0)])) (fun t k => XS.iand X155.here hx rfl (hb hby at_121) rfl k) ?_
      refine Go.pull (V := T155.setTop (mkF m 125 #[iv pa, iv pb, iv 3, iv 2, iv 1023, iv 519, iv 448, iv 56, iv 519, iv 1023] [])) (fun t k => XS.ifNo X155.here hx rfl (hb hby at_122) rfl (XT.i0_ne_f (by decide)) k) ?_
      refine Go.pull (V := T155.setTop (mkF m 127 #[iv pa, iv pb, iv 3, iv 2, iv 1023, iv 519, iv 448, iv 56, iv 519, iv 1023] [(.int 448)])) (fun t k => XS.iload X155.here hx rfl (hb hby at_125) rfl  k) ?_
      refine Go.pull (V := T155.setTop (mkF m 129 #[iv pa, iv pb, iv 3, iv 2, iv 1023, iv 519, iv 448, iv 56, iv 519, iv 1023] [(.int 519), (.int 448)])) (fun t k => XS.iload X155.here hx rfl (hb hby at_127) rfl  k) ?_
      refine Go.pull (V := T155.setTop (mkF m 130 #[iv pa, iv pb, iv 3, iv 2, iv 1023, iv 519, iv 448, iv 56, iv 519, iv 1023] [(.int 0)])) (fun t k => XS.iand X155.here hx rfl (hb hby at_129) rfl k) ?_
      refine Go.pull (V := T155.setTop (mkF m 133 #[iv pa, iv pb, iv 3, iv 2, iv 1023, iv 519, iv 448, iv 56, iv 519, iv 1023] [])) (fun t k => XS.ifNo X155.here hx rfl (hb hby at_130) rfl (XT.i0_ne_f (by decide)) k) ?_
      refine Go.pull (V := T155.setTop (mkF m 135 #[iv pa, iv pb, iv 3, iv 2, iv 1023, iv 519, iv 448, iv 56, iv 519, iv 1023] [(.int 56)])) (fun t k => XS.iload X155.here hx rfl (hb hby at_133) rfl  k) ?_
      refine Go.pull (V := T155.setTop (mkF m 137 #[iv pa, iv pb, iv 3, iv 2, iv 1023, iv 519, iv 448, iv 56, iv 519, iv 1023] [(.int 519), (.int 56)])) (fun t k => XS.iload X155.here hx rfl (hb hby at_135) rfl  k) ?_
      refine Go.pull (V := T155.setTop (mkF m 138 #[iv pa, iv pb, iv 3, iv 2, iv 1023, iv 519, iv 448, iv 56, iv 519, iv 1023] [(.int 0)])) (fun t k => XS.iand X155.here hx rfl (hb hby at_137) rfl k) ?_
      refine Go.pull (V := T155.setTop (mkF m 143 #[iv pa, iv pb, iv 3, iv 2, iv 1023, iv 519, iv 448, iv 56, iv 519, iv 1023] [])) (fun t k => XS.ifYes X155.here hx rfl (pc0 := 138) (pc' := 143) rfl (hb hby at_138) rfl (XT.i0_eq_t (by decide)) (by decide) (by decide) k) ?_
      refine Go.pull (V := T155.setTop (mkF m 144 #[iv pa, iv pb, iv 3, iv 2, iv 1023, iv 519, iv 448, iv 56, iv 519, iv 1023] [(.int 3)])) (fun t k => XS.iloadN X155.here hx rfl (hb hby at_143) rfl  k) ?_
      refine Go.pull (V := T155.setTop (mkF m 145 #[iv pa, iv pb, iv 3, iv 2, iv 1023, iv 519, iv 448, iv 56, iv 519, iv 1023] [(.int 2), (.int 3)])) (fun t k => XS.iloadN X155.here hx rfl (hb hby at_144) rfl  k) ?_
      refine Go.pull (V := T155.setTop (mkF m 148 #[iv pa, iv pb, iv 3, iv 2, iv 1023, iv 519, iv 448, iv 56, iv 519, iv 1023] [])) (fun t k => XS.icmpNo X155.here hx rfl (hb hby at_145) rfl (XT.ii_eq_f (by decide)) k) ?_
      refine Go.pull (V := T155.setTop (mkF m 149 #[iv pa, iv pb, iv 3, iv 2, iv 1023, iv 519, iv 448, iv 56, iv 519, iv 1023] [(.int 3)])) (fun t k => XS.iloadN X155.here hx rfl (hb hby at_148) rfl  k) ?_
      refine Go.pull (V := T155.setTop (mkF m 150 #[iv pa, iv pb, iv 3, iv 2, iv 1023, iv 519, iv 448, iv 56, iv 519, iv 1023] [(.int 3), (.int 3)])) (fun t k => XS.iconst X155.here hx rfl (hb hby at_149) k) ?_
      refine Go.pull (V := T155.setTop (mkF m 168 #[iv pa, iv pb, iv 3, iv 2, iv 1023, iv 519, iv 448, iv 56, iv 519, iv 1023] [])) (fun t k => XS.icmpYes X155.here hx rfl (pc0 := 150) (pc' := 168) rfl (hb hby at_150) rfl (XT.ii_eq_t (by decide)) (by decide) (by decide) k) ?_
      refine Go.pull (V := T155.setTop (mkF m 170 #[iv pa, iv pb, iv 3, iv 2, iv 1023, iv 519, iv 448, iv 56, iv 519, iv 1023] [(.int 519)])) (fun t k => XS.iload X155.here hx rfl (hb hby at_168) rfl  k) ?_
      refine Go.pull (V := T155.setTop (mkF m 173 #[iv pa, iv pb, iv 3, iv 2, iv 1023, iv 519, iv 448, iv 56, iv 519, iv 1023] [(.int 512), (.int 519)])) (fun t k => XS.sipush X155.here hx rfl (hb hby at_170) k) ?_
      refine Go.pull (V := T155.setTop (mkF m 174 #[iv pa, iv pb, iv 3, iv 2, iv 1023, iv 519, iv 448, iv 56, iv 519, iv 1023] [(.int 512)])) (fun t k => XS.iand X155.here hx rfl (hb hby at_173) rfl k) ?_
      refine Go.pull (V := T155.setTop (mkF m 177 #[iv pa, iv pb, iv 3, iv 2, iv 1023, iv 519, iv 448, iv 56, iv 519, iv 1023] [])) (fun t k => XS.ifNo X155.here hx rfl (hb hby at_174) rfl (XT.i0_eq_f (by decide)) k) ?_
      refine Go.pull (V := T155.setTop (mkF m 179 #[iv pa, iv pb, iv 3, iv 2, iv 1023, iv 519, iv 448, iv 56, iv 519, iv 1023] [(.int 448)])) (fun t k => XS.iload X155.here hx rfl (hb hby at_177) rfl  k) ?_
      refine Go.pull (V := T155.setTop (mkF m 181 #[iv pa, iv pb, iv 3, iv 2, iv 1023, iv 519, iv 448, iv 56, iv 519, iv 1023] [(.int 56), (.int 448)])) (fun t k => XS.iload X155.here hx rfl (hb hby at_179) rfl  k) ?_
      refine Go.pull (V := T155.setTop (mkF m 182 #[iv pa, iv pb, iv 3, iv 2, iv 1023, iv 519, iv 448, iv 56, iv 519, iv 1023] [(.int 504)])) (fun t k => XS.ior X155.here hx rfl (hb hby at_181) rfl k) ?_
      refine Go.pull (V := T155.setTop (mkF m 185 #[iv pa, iv pb, iv 3, iv 2, iv 1023, iv 519, iv 448, iv 56, iv 519, iv 1023] [(.int 512), (.int 504)])) (fun t k => XS.sipush X155.here hx rfl (hb hby at_182) k) ?_
      refine Go.pull (V := T155.setTop (mkF m 186 #[iv pa, iv pb, iv 3, iv 2, iv 1023, iv 519, iv 448, iv 56, iv 519, iv 1023] [(.int 0)])) (fun t k => XS.iand X155.here hx rfl (hb hby at_185) rfl k) ?_
      refine Go.pull (V := T155.setTop (mkF m 191 #[iv pa, iv pb, iv 3, iv 2, iv 1023, iv 519, iv 448, iv 56, iv 519, iv 1023] [])) (fun t k => XS.ifYes X155.here hx rfl (pc0 := 186) (pc' := 191) rfl (hb hby at_186) rfl (XT.i0_eq_t (by decide)) (by decide) (by decide) k) ?_
      refine Go.pull (V := T155.setTop (mkF m 192 #[iv pa, iv pb, iv 3, iv 2, iv 1023, iv 519, iv 448, iv 56, iv 519, iv 1023] [(.int 1)])) (fun t k => XS.iconst X155.here hx rfl (hb hby at_191) k) ?_
      exact Go.retN X155 hx Bd.notSynchronized (t := .boolean) Bd.returns (by simp) (hb hby at_192) ⟨rfl, N155⟩ (by decide) (by decide)
    · subst hv125
      refine Go.pull (V := s₁.setTop (mkF m 9 #[iv pa, iv pb, iv 3, iv 3, .unset, .unset, .unset, .unset, .unset, .unset] [(.int 3)])) (fun t k => XS.iloadN X0.here hx rfl (hb hby at_8) rfl  k) ?_
      obtain ⟨_, _, ⟨T156, L156, k156, n156⟩, -, X156, ⟨Lc156, hQ156, l156, y156, z156⟩, st156⟩ := Jvm.LawKit.callS X0 hx (y := (⟨"com/example/facl/facl/ModeSpecPartPinLaw", "letter", "(I)C"⟩ : MethodName)) hown (mvT hZ (hw _ (List.mem_of_getElem? (i := 0) rfl))) (mvT hZ (hw _ (List.mem_of_getElem? (i := 1) rfl))) (mvT hZ (hw _ (List.mem_of_getElem? (i := 2) rfl))) (mvT hZ (hw _ (List.mem_of_getElem? (i := 3) rfl))) (by decide) (backOf (W := 0) (rmL l Z a0 hw [] (3 : Int32) h0 n0 ) hZ (hw _ (List.mem_of_getElem? (i := 3) rfl)) (hw _ (List.mem_of_getElem? (i := 2) rfl)) (by decide) (by decide)) (g := (mkF m 9 #[iv pa, iv pb, iv 3, iv 3, .unset, .unset, .unset, .unset, .unset, .unset] [(.int 3)])) rfl (by rw [hml]; rfl) (argsL := [(.int 3)]) (rest := []) (lenOf pd_0 rfl) rfl (by show 2 * 0 + _ ≤ _; exact Nat.le_of_eq rfl) (hb hby at_9) (fun _ _ => ⟨rfl, e0, (by decide : 0 + 0 ≤ _), (by decide : 0 + 0 ≤ _)⟩)
      dsimp only [Pt.U, Pt.locs, Pt.cells, Pt.slots] at X156 l156 y156 z156 st156 hQ156
      subst l156 y156 z156
      obtain ⟨hv156, N156q, e156⟩ := hQ156
      rw [(show (own_letter (3 : Int32)) = (97 : Int32) from by decide)] at hv156; subst hv156
      have N156 := Fr.app N0 N156q
      refine Go.pull (V := T156.setTop (mkF m 12 #[iv pa, iv pb, iv 3, iv 3, .unset, .unset, .unset, .unset, .unset, .unset] [(.int 97)])) st156 ?_
      obtain ⟨_, _, ⟨T157, L157, k157, n157⟩, -, X157, ⟨Lc157, hQ157, l157, y157, z157⟩, st157⟩ := Jvm.LawKit.callS X156 hx (y := (⟨"com/example/facl/facl/ModeSpec", "part", "(C)I"⟩ : MethodName)) hown (mvT hZ (hw _ (List.mem_of_getElem? (i := 4) rfl))) (mvT hZ (hw _ (List.mem_of_getElem? (i := 5) rfl))) (mvT hZ (hw _ (List.mem_of_getElem? (i := 6) rfl))) (mvT hZ (hw _ (List.mem_of_getElem? (i := 7) rfl))) (by decide) (backOf (W := 0) (rmP l Z a0 hw [] (97 : Int32) h0 n0 (by decide)) hZ (hw _ (List.mem_of_getElem? (i := 7) rfl)) (hw _ (List.mem_of_getElem? (i := 6) rfl)) (by decide) (by decide)) (g := (mkF m 12 #[iv pa, iv pb, iv 3, iv 3, .unset, .unset, .unset, .unset, .unset, .unset] [(.int 97)])) rfl (by rw [hml]; rfl) (argsL := [(.int 97)]) (rest := []) (lenOf pd_1 rfl) rfl (by show 2 * 0 + _ ≤ _; exact Nat.le_of_eq rfl) (hb hby at_12) (fun _ _ => ⟨rfl, e156, (by decide : 0 + 0 ≤ _), (by decide : 0 + 0 ≤ _)⟩)
      dsimp only [Pt.U, Pt.locs, Pt.cells, Pt.slots] at X157 l157 y157 z157 st157 hQ157
      subst l157 y157 z157
      obtain ⟨hv157, N157q, e157⟩ := hQ157
      rw [(show (own_part (97 : Int32)) = (1023 : Int32) from by decide)] at hv157; subst hv157
      have N157 := Fr.app N156 N157q
      refine Go.pull (V := T157.setTop (mkF m 15 #[iv pa, iv pb, iv 3, iv 3, .unset, .unset, .unset, .unset, .unset, .unset] [(.int 1023)])) st157 ?_
      refine Go.pull (V := T157.setTop (mkF m 17 #[iv pa, iv pb, iv 3, iv 3, iv 1023, .unset, .unset, .unset, .unset, .unset] [])) (fun t k => XS.istore X157.here hx rfl (hb hby at_15) rfl (l' := #[iv pa, iv pb, iv 3, iv 3, iv 1023, .unset, .unset, .unset, .unset, .unset]) rfl k) ?_
      refine Go.pull (V := T157.setTop (mkF m 18 #[iv pa, iv pb, iv 3, iv 3, iv 1023, .unset, .unset, .unset, .unset, .unset] [(.int 3)])) (fun t k => XS.iloadN X157.here hx rfl (hb hby at_17) rfl  k) ?_
      obtain ⟨_, _, ⟨T158, L158, k158, n158⟩, -, X158, ⟨Lc158, hQ158, l158, y158, z158⟩, st158⟩ := Jvm.LawKit.callS X157 hx (y := (⟨"com/example/facl/facl/ModeSpecPartPinLaw", "letter", "(I)C"⟩ : MethodName)) hown (mvT hZ (hw _ (List.mem_of_getElem? (i := 0) rfl))) (mvT hZ (hw _ (List.mem_of_getElem? (i := 1) rfl))) (mvT hZ (hw _ (List.mem_of_getElem? (i := 2) rfl))) (mvT hZ (hw _ (List.mem_of_getElem? (i := 3) rfl))) (by decide) (backOf (W := 0) (rmL l Z a0 hw [] (3 : Int32) h0 n0 ) hZ (hw _ (List.mem_of_getElem? (i := 3) rfl)) (hw _ (List.mem_of_getElem? (i := 2) rfl)) (by decide) (by decide)) (g := (mkF m 18 #[iv pa, iv pb, iv 3, iv 3, iv 1023, .unset, .unset, .unset, .unset, .unset] [(.int 3)])) rfl (by rw [hml]; rfl) (argsL := [(.int 3)]) (rest := []) (lenOf pd_0 rfl) rfl (by show 2 * 0 + _ ≤ _; exact Nat.le_of_eq rfl) (hb hby at_18) (fun _ _ => ⟨rfl, e157, (by decide : 0 + 0 ≤ _), (by decide : 0 + 0 ≤ _)⟩)
      dsimp only [Pt.U, Pt.locs, Pt.cells, Pt.slots] at X158 l158 y158 z158 st158 hQ158
      subst l158 y158 z158
      obtain ⟨hv158, N158q, e158⟩ := hQ158
      rw [(show (own_letter (3 : Int32)) = (97 : Int32) from by decide)] at hv158; subst hv158
      have N158 := Fr.app N157 N158q
      refine Go.pull (V := T158.setTop (mkF m 21 #[iv pa, iv pb, iv 3, iv 3, iv 1023, .unset, .unset, .unset, .unset, .unset] [(.int 97)])) st158 ?_
      obtain ⟨_, _, ⟨T159, L159, k159, n159⟩, -, X159, ⟨Lc159, hQ159, l159, y159, z159⟩, st159⟩ := Jvm.LawKit.callS X158 hx (y := (⟨"com/example/facl/facl/ModeSpec", "part", "(C)I"⟩ : MethodName)) hown (mvT hZ (hw _ (List.mem_of_getElem? (i := 4) rfl))) (mvT hZ (hw _ (List.mem_of_getElem? (i := 5) rfl))) (mvT hZ (hw _ (List.mem_of_getElem? (i := 6) rfl))) (mvT hZ (hw _ (List.mem_of_getElem? (i := 7) rfl))) (by decide) (backOf (W := 0) (rmP l Z a0 hw [] (97 : Int32) h0 n0 (by decide)) hZ (hw _ (List.mem_of_getElem? (i := 7) rfl)) (hw _ (List.mem_of_getElem? (i := 6) rfl)) (by decide) (by decide)) (g := (mkF m 21 #[iv pa, iv pb, iv 3, iv 3, iv 1023, .unset, .unset, .unset, .unset, .unset] [(.int 97)])) rfl (by rw [hml]; rfl) (argsL := [(.int 97)]) (rest := []) (lenOf pd_1 rfl) rfl (by show 2 * 0 + _ ≤ _; exact Nat.le_of_eq rfl) (hb hby at_21) (fun _ _ => ⟨rfl, e158, (by decide : 0 + 0 ≤ _), (by decide : 0 + 0 ≤ _)⟩)
      dsimp only [Pt.U, Pt.locs, Pt.cells, Pt.slots] at X159 l159 y159 z159 st159 hQ159
      subst l159 y159 z159
      obtain ⟨hv159, N159q, e159⟩ := hQ159
      rw [(show (own_part (97 : Int32)) = (1023 : Int32) from by decide)] at hv159; subst hv159
      have N159 := Fr.app N158 N159q
      refine Go.pull (V := T159.setTop (mkF m 24 #[iv pa, iv pb, iv 3, iv 3, iv 1023, .unset, .unset, .unset, .unset, .unset] [(.int 1023)])) st159 ?_
      refine Go.pull (V := T159.setTop (mkF m 26 #[iv pa, iv pb, iv 3, iv 3, iv 1023, iv 1023, .unset, .unset, .unset, .unset] [])) (fun t k => XS.istore X159.here hx rfl (hb hby at_24) rfl (l' := #[iv pa, iv pb, iv 3, iv 3, iv 1023, iv 1023, .unset, .unset, .unset, .unset]) rfl k) ?_
      refine Go.pull (V := T159.setTop (mkF m 28 #[iv pa, iv pb, iv 3, iv 3, iv 1023, iv 1023, .unset, .unset, .unset, .unset] [(.int 117)])) (fun t k => XS.bipush X159.here hx rfl (hb hby at_26) k) ?_
      obtain ⟨_, _, ⟨T160, L160, k160, n160⟩, -, X160, ⟨Lc160, hQ160, l160, y160, z160⟩, st160⟩ := Jvm.LawKit.callS X159 hx (y := (⟨"com/example/facl/facl/ModeSpec", "part", "(C)I"⟩ : MethodName)) hown (mvT hZ (hw _ (List.mem_of_getElem? (i := 4) rfl))) (mvT hZ (hw _ (List.mem_of_getElem? (i := 5) rfl))) (mvT hZ (hw _ (List.mem_of_getElem? (i := 6) rfl))) (mvT hZ (hw _ (List.mem_of_getElem? (i := 7) rfl))) (by decide) (backOf (W := 0) (rmP l Z a0 hw [] (117 : Int32) h0 n0 (by decide)) hZ (hw _ (List.mem_of_getElem? (i := 7) rfl)) (hw _ (List.mem_of_getElem? (i := 6) rfl)) (by decide) (by decide)) (g := (mkF m 28 #[iv pa, iv pb, iv 3, iv 3, iv 1023, iv 1023, .unset, .unset, .unset, .unset] [(.int 117)])) rfl (by rw [hml]; rfl) (argsL := [(.int 117)]) (rest := []) (lenOf pd_1 rfl) rfl (by show 2 * 0 + _ ≤ _; exact Nat.le_of_eq rfl) (hb hby at_28) (fun _ _ => ⟨rfl, e159, (by decide : 0 + 0 ≤ _), (by decide : 0 + 0 ≤ _)⟩)
      dsimp only [Pt.U, Pt.locs, Pt.cells, Pt.slots] at X160 l160 y160 z160 st160 hQ160
      subst l160 y160 z160
      obtain ⟨hv160, N160q, e160⟩ := hQ160
      rw [(show (own_part (117 : Int32)) = (448 : Int32) from by decide)] at hv160; subst hv160
      have N160 := Fr.app N159 N160q
      refine Go.pull (V := T160.setTop (mkF m 31 #[iv pa, iv pb, iv 3, iv 3, iv 1023, iv 1023, .unset, .unset, .unset, .unset] [(.int 448)])) st160 ?_
      refine Go.pull (V := T160.setTop (mkF m 33 #[iv pa, iv pb, iv 3, iv 3, iv 1023, iv 1023, iv 448, .unset, .unset, .unset] [])) (fun t k => XS.istore X160.here hx rfl (hb hby at_31) rfl (l' := #[iv pa, iv pb, iv 3, iv 3, iv 1023, iv 1023, iv 448, .unset, .unset, .unset]) rfl k) ?_
      refine Go.pull (V := T160.setTop (mkF m 35 #[iv pa, iv pb, iv 3, iv 3, iv 1023, iv 1023, iv 448, .unset, .unset, .unset] [(.int 103)])) (fun t k => XS.bipush X160.here hx rfl (hb hby at_33) k) ?_
      obtain ⟨_, _, ⟨T161, L161, k161, n161⟩, -, X161, ⟨Lc161, hQ161, l161, y161, z161⟩, st161⟩ := Jvm.LawKit.callS X160 hx (y := (⟨"com/example/facl/facl/ModeSpec", "part", "(C)I"⟩ : MethodName)) hown (mvT hZ (hw _ (List.mem_of_getElem? (i := 4) rfl))) (mvT hZ (hw _ (List.mem_of_getElem? (i := 5) rfl))) (mvT hZ (hw _ (List.mem_of_getElem? (i := 6) rfl))) (mvT hZ (hw _ (List.mem_of_getElem? (i := 7) rfl))) (by decide) (backOf (W := 0) (rmP l Z a0 hw [] (103 : Int32) h0 n0 (by decide)) hZ (hw _ (List.mem_of_getElem? (i := 7) rfl)) (hw _ (List.mem_of_getElem? (i := 6) rfl)) (by decide) (by decide)) (g := (mkF m 35 #[iv pa, iv pb, iv 3, iv 3, iv 1023, iv 1023, iv 448, .unset, .unset, .unset] [(.int 103)])) rfl (by rw [hml]; rfl) (argsL := [(.int 103)]) (rest := []) (lenOf pd_1 rfl) rfl (by show 2 * 0 + _ ≤ _; exact Nat.le_of_eq rfl) (hb hby at_35) (fun _ _ => ⟨rfl, e160, (by decide : 0 + 0 ≤ _), (by decide : 0 + 0 ≤ _)⟩)
      dsimp only [Pt.U, Pt.locs, Pt.cells, Pt.slots] at X161 l161 y161 z161 st161 hQ161
      subst l161 y161 z161
      obtain ⟨hv161, N161q, e161⟩ := hQ161
      rw [(show (own_part (103 : Int32)) = (56 : Int32) from by decide)] at hv161; subst hv161
      have N161 := Fr.app N160 N161q
      refine Go.pull (V := T161.setTop (mkF m 38 #[iv pa, iv pb, iv 3, iv 3, iv 1023, iv 1023, iv 448, .unset, .unset, .unset] [(.int 56)])) st161 ?_
      refine Go.pull (V := T161.setTop (mkF m 40 #[iv pa, iv pb, iv 3, iv 3, iv 1023, iv 1023, iv 448, iv 56, .unset, .unset] [])) (fun t k => XS.istore X161.here hx rfl (hb hby at_38) rfl (l' := #[iv pa, iv pb, iv 3, iv 3, iv 1023, iv 1023, iv 448, iv 56, .unset, .unset]) rfl k) ?_
      refine Go.pull (V := T161.setTop (mkF m 42 #[iv pa, iv pb, iv 3, iv 3, iv 1023, iv 1023, iv 448, iv 56, .unset, .unset] [(.int 111)])) (fun t k => XS.bipush X161.here hx rfl (hb hby at_40) k) ?_
      obtain ⟨_, _, ⟨T162, L162, k162, n162⟩, -, X162, ⟨Lc162, hQ162, l162, y162, z162⟩, st162⟩ := Jvm.LawKit.callS X161 hx (y := (⟨"com/example/facl/facl/ModeSpec", "part", "(C)I"⟩ : MethodName)) hown (mvT hZ (hw _ (List.mem_of_getElem? (i := 4) rfl))) (mvT hZ (hw _ (List.mem_of_getElem? (i := 5) rfl))) (mvT hZ (hw _ (List.mem_of_getElem? (i := 6) rfl))) (mvT hZ (hw _ (List.mem_of_getElem? (i := 7) rfl))) (by decide) (backOf (W := 0) (rmP l Z a0 hw [] (111 : Int32) h0 n0 (by decide)) hZ (hw _ (List.mem_of_getElem? (i := 7) rfl)) (hw _ (List.mem_of_getElem? (i := 6) rfl)) (by decide) (by decide)) (g := (mkF m 42 #[iv pa, iv pb, iv 3, iv 3, iv 1023, iv 1023, iv 448, iv 56, .unset, .unset] [(.int 111)])) rfl (by rw [hml]; rfl) (argsL := [(.int 111)]) (rest := []) (lenOf pd_1 rfl) rfl (by show 2 * 0 + _ ≤ _; exact Nat.le_of_eq rfl) (hb hby at_42) (fun _ _ => ⟨rfl, e161, (by decide : 0 + 0 ≤ _), (by decide : 0 + 0 ≤ _)⟩)
      dsimp only [Pt.U, Pt.locs, Pt.cells, Pt.slots] at X162 l162 y162 z162 st162 hQ162
      subst l162 y162 z162
      obtain ⟨hv162, N162q, e162⟩ := hQ162
      rw [(show (own_part (111 : Int32)) = (519 : Int32) from by decide)] at hv162; subst hv162
      have N162 := Fr.app N161 N162q
      refine Go.pull (V := T162.setTop (mkF m 45 #[iv pa, iv pb, iv 3, iv 3, iv 1023, iv 1023, iv 448, iv 56, .unset, .unset] [(.int 519)])) st162 ?_
      refine Go.pull (V := T162.setTop (mkF m 47 #[iv pa, iv pb, iv 3, iv 3, iv 1023, iv 1023, iv 448, iv 56, iv 519, .unset] [])) (fun t k => XS.istore X162.here hx rfl (hb hby at_45) rfl (l' := #[iv pa, iv pb, iv 3, iv 3, iv 1023, iv 1023, iv 448, iv 56, iv 519, .unset]) rfl k) ?_
      refine Go.pull (V := T162.setTop (mkF m 49 #[iv pa, iv pb, iv 3, iv 3, iv 1023, iv 1023, iv 448, iv 56, iv 519, .unset] [(.int 97)])) (fun t k => XS.bipush X162.here hx rfl (hb hby at_47) k) ?_
      obtain ⟨_, _, ⟨T163, L163, k163, n163⟩, -, X163, ⟨Lc163, hQ163, l163, y163, z163⟩, st163⟩ := Jvm.LawKit.callS X162 hx (y := (⟨"com/example/facl/facl/ModeSpec", "part", "(C)I"⟩ : MethodName)) hown (mvT hZ (hw _ (List.mem_of_getElem? (i := 4) rfl))) (mvT hZ (hw _ (List.mem_of_getElem? (i := 5) rfl))) (mvT hZ (hw _ (List.mem_of_getElem? (i := 6) rfl))) (mvT hZ (hw _ (List.mem_of_getElem? (i := 7) rfl))) (by decide) (backOf (W := 0) (rmP l Z a0 hw [] (97 : Int32) h0 n0 (by decide)) hZ (hw _ (List.mem_of_getElem? (i := 7) rfl)) (hw _ (List.mem_of_getElem? (i := 6) rfl)) (by decide) (by decide)) (g := (mkF m 49 #[iv pa, iv pb, iv 3, iv 3, iv 1023, iv 1023, iv 448, iv 56, iv 519, .unset] [(.int 97)])) rfl (by rw [hml]; rfl) (argsL := [(.int 97)]) (rest := []) (lenOf pd_1 rfl) rfl (by show 2 * 0 + _ ≤ _; exact Nat.le_of_eq rfl) (hb hby at_49) (fun _ _ => ⟨rfl, e162, (by decide : 0 + 0 ≤ _), (by decide : 0 + 0 ≤ _)⟩)
      dsimp only [Pt.U, Pt.locs, Pt.cells, Pt.slots] at X163 l163 y163 z163 st163 hQ163
      subst l163 y163 z163
      obtain ⟨hv163, N163q, e163⟩ := hQ163
      rw [(show (own_part (97 : Int32)) = (1023 : Int32) from by decide)] at hv163; subst hv163
      have N163 := Fr.app N162 N163q
      refine Go.pull (V := T163.setTop (mkF m 52 #[iv pa, iv pb, iv 3, iv 3, iv 1023, iv 1023, iv 448, iv 56, iv 519, .unset] [(.int 1023)])) st163 ?_
      refine Go.pull (V := T163.setTop (mkF m 54 #[iv pa, iv pb, iv 3, iv 3, iv 1023, iv 1023, iv 448, iv 56, iv 519, iv 1023] [])) (fun t k => XS.istore X163.here hx rfl (hb hby at_52) rfl (l' := #[iv pa, iv pb, iv 3, iv 3, iv 1023, iv 1023, iv 448, iv 56, iv 519, iv 1023]) rfl k) ?_
      refine Go.pull (V := T163.setTop (mkF m 56 #[iv pa, iv pb, iv 3, iv 3, iv 1023, iv 1023, iv 448, iv 56, iv 519, iv 1023] [(.int 1023)])) (fun t k => XS.iload X163.here hx rfl (hb hby at_54) rfl  k) ?_
      refine Go.pull (V := T163.setTop (mkF m 57 #[iv pa, iv pb, iv 3, iv 3, iv 1023, iv 1023, iv 448, iv 56, iv 519, iv 1023] [(.int 3), (.int 1023)])) (fun t k => XS.iloadN X163.here hx rfl (hb hby at_56) rfl  k) ?_
      obtain ⟨_, _, ⟨T164, L164, k164, n164⟩, -, X164, ⟨Lc164, hQ164, l164, y164, z164⟩, st164⟩ := Jvm.LawKit.callS X163 hx (y := (⟨"com/example/facl/facl/ModeSpecPartPinLaw", "expected", "(I)I"⟩ : MethodName)) hown (mvT hZ (hw _ (List.mem_of_getElem? (i := 8) rfl))) (mvT hZ (hw _ (List.mem_of_getElem? (i := 9) rfl))) (mvT hZ (hw _ (List.mem_of_getElem? (i := 2) rfl))) (mvT hZ (hw _ (List.mem_of_getElem? (i := 10) rfl))) (by decide) (backOf (W := 1) (rmX l Z a0 hw [] (3 : Int32) h0 n0 ) hZ (hw _ (List.mem_of_getElem? (i := 10) rfl)) (hw _ (List.mem_of_getElem? (i := 2) rfl)) (by decide) (by decide)) (g := (mkF m 57 #[iv pa, iv pb, iv 3, iv 3, iv 1023, iv 1023, iv 448, iv 56, iv 519, iv 1023] [(.int 3), (.int 1023)])) rfl (by rw [hml]; rfl) (argsL := [(.int 3)]) (rest := [(.int 1023)]) (lenOf pd_2 rfl) rfl (by show 2 * 0 + _ ≤ _; exact Nat.le_of_eq rfl) (hb hby at_57) (fun _ _ => ⟨rfl, e163, (by decide : 0 + 0 ≤ _), (by decide : 0 + 0 ≤ _)⟩)
      dsimp only [Pt.U, Pt.locs, Pt.cells, Pt.slots] at X164 l164 y164 z164 st164 hQ164
      subst l164 y164 z164
      obtain ⟨hv164, N164q, e164⟩ := hQ164
      rw [(show (own_expected (3 : Int32)) = (1023 : Int32) from by decide)] at hv164; subst hv164
      have N164 := Fr.app N163 N164q
      refine Go.pull (V := T164.setTop (mkF m 60 #[iv pa, iv pb, iv 3, iv 3, iv 1023, iv 1023, iv 448, iv 56, iv 519, iv 1023] [(.int 1023), (.int 1023)])) st164 ?_
      refine Go.pull (V := T164.setTop (mkF m 63 #[iv pa, iv pb, iv 3, iv 3, iv 1023, iv 1023, iv 448, iv 56, iv 519, iv 1023] [])) (fun t k => XS.icmpNo X164.here hx rfl (hb hby at_60) rfl (XT.ii_ne_f (by decide)) k) ?_
      refine Go.pull (V := T164.setTop (mkF m 65 #[iv pa, iv pb, iv 3, iv 3, iv 1023, iv 1023, iv 448, iv 56, iv 519, iv 1023] [(.int 1023)])) (fun t k => XS.iload X164.here hx rfl (hb hby at_63) rfl  k) ?_
      refine Go.pull (V := T164.setTop (mkF m 66 #[iv pa, iv pb, iv 3, iv 3, iv 1023, iv 1023, iv 448, iv 56, iv 519, iv 1023] [(.int 3), (.int 1023)])) (fun t k => XS.iloadN X164.here hx rfl (hb hby at_65) rfl  k) ?_
      obtain ⟨_, _, ⟨T165, L165, k165, n165⟩, -, X165, ⟨Lc165, hQ165, l165, y165, z165⟩, st165⟩ := Jvm.LawKit.callS X164 hx (y := (⟨"com/example/facl/facl/ModeSpecPartPinLaw", "expected", "(I)I"⟩ : MethodName)) hown (mvT hZ (hw _ (List.mem_of_getElem? (i := 8) rfl))) (mvT hZ (hw _ (List.mem_of_getElem? (i := 9) rfl))) (mvT hZ (hw _ (List.mem_of_getElem? (i := 2) rfl))) (mvT hZ (hw _ (List.mem_of_getElem? (i := 10) rfl))) (by decide) (backOf (W := 1) (rmX l Z a0 hw [] (3 : Int32) h0 n0 ) hZ (hw _ (List.mem_of_getElem? (i := 10) rfl)) (hw _ (List.mem_of_getElem? (i := 2) rfl)) (by decide) (by decide)) (g := (mkF m 66 #[iv pa, iv pb, iv 3, iv 3, iv 1023, iv 1023, iv 448, iv 56, iv 519, iv 1023] [(.int 3), (.int 1023)])) rfl (by rw [hml]; rfl) (argsL := [(.int 3)]) (rest := [(.int 1023)]) (lenOf pd_2 rfl) rfl (by show 2 * 0 + _ ≤ _; exact Nat.le_of_eq rfl) (hb hby at_66) (fun _ _ => ⟨rfl, e164, (by decide : 0 + 0 ≤ _), (by decide : 0 + 0 ≤ _)⟩)
      dsimp only [Pt.U, Pt.locs, Pt.cells, Pt.slots] at X165 l165 y165 z165 st165 hQ165
      subst l165 y165 z165
      obtain ⟨hv165, N165q, e165⟩ := hQ165
      rw [(show (own_expected (3 : Int32)) = (1023 : Int32) from by decide)] at hv165; subst hv165
      have N165 := Fr.app N164 N165q
      refine Go.pull (V := T165.setTop (mkF m 69 #[iv pa, iv pb, iv 3, iv 3, iv 1023, iv 1023, iv 448, iv 56, iv 519, iv 1023] [(.int 1023), (.int 1023)])) st165 ?_
      refine Go.pull (V := T165.setTop (mkF m 74 #[iv pa, iv pb, iv 3, iv 3, iv 1023, iv 1023, iv 448, iv 56, iv 519, iv 1023] [])) (fun t k => XS.icmpYes X165.here hx rfl (pc0 := 69) (pc' := 74) rfl (hb hby at_69) rfl (XT.ii_eq_t (by decide)) (by decide) (by decide) k) ?_
      refine Go.pull (V := T165.setTop (mkF m 76 #[iv pa, iv pb, iv 3, iv 3, iv 1023, iv 1023, iv 448, iv 56, iv 519, iv 1023] [(.int 1023)])) (fun t k => XS.iload X165.here hx rfl (hb hby at_74) rfl  k) ?_
      refine Go.pull (V := T165.setTop (mkF m 79 #[iv pa, iv pb, iv 3, iv 3, iv 1023, iv 1023, iv 448, iv 56, iv 519, iv 1023] [(.int (-1024)), (.int 1023)])) (fun t k => XS.sipush X165.here hx rfl (hb hby at_76) k) ?_
      refine Go.pull (V := T165.setTop (mkF m 80 #[iv pa, iv pb, iv 3, iv 3, iv 1023, iv 1023, iv 448, iv 56, iv 519, iv 1023] [(.int 0)])) (fun t k => XS.iand X165.here hx rfl (hb hby at_79) rfl k) ?_
      refine Go.pull (V := T165.setTop (mkF m 83 #[iv pa, iv pb, iv 3, iv 3, iv 1023, iv 1023, iv 448, iv 56, iv 519, iv 1023] [])) (fun t k => XS.ifNo X165.here hx rfl (hb hby at_80) rfl (XT.i0_ne_f (by decide)) k) ?_
      refine Go.pull (V := T165.setTop (mkF m 85 #[iv pa, iv pb, iv 3, iv 3, iv 1023, iv 1023, iv 448, iv 56, iv 519, iv 1023] [(.int 1023)])) (fun t k => XS.iload X165.here hx rfl (hb hby at_83) rfl  k) ?_
      refine Go.pull (V := T165.setTop (mkF m 88 #[iv pa, iv pb, iv 3, iv 3, iv 1023, iv 1023, iv 448, iv 56, iv 519, iv 1023] [(.int (-1024)), (.int 1023)])) (fun t k => XS.sipush X165.here hx rfl (hb hby at_85) k) ?_
      refine Go.pull (V := T165.setTop (mkF m 89 #[iv pa, iv pb, iv 3, iv 3, iv 1023, iv 1023, iv 448, iv 56, iv 519, iv 1023] [(.int 0)])) (fun t k => XS.iand X165.here hx rfl (hb hby at_88) rfl k) ?_
      refine Go.pull (V := T165.setTop (mkF m 94 #[iv pa, iv pb, iv 3, iv 3, iv 1023, iv 1023, iv 448, iv 56, iv 519, iv 1023] [])) (fun t k => XS.ifYes X165.here hx rfl (pc0 := 89) (pc' := 94) rfl (hb hby at_89) rfl (XT.i0_eq_t (by decide)) (by decide) (by decide) k) ?_
      refine Go.pull (V := T165.setTop (mkF m 96 #[iv pa, iv pb, iv 3, iv 3, iv 1023, iv 1023, iv 448, iv 56, iv 519, iv 1023] [(.int 1023)])) (fun t k => XS.iload X165.here hx rfl (hb hby at_94) rfl  k) ?_
      refine Go.pull (V := T165.setTop (mkF m 99 #[iv pa, iv pb, iv 3, iv 3, iv 1023, iv 1023, iv 448, iv 56, iv 519, iv 1023] [(.int 1023), (.int 1023)])) (fun t k => XS.sipush X165.here hx rfl (hb hby at_96) k) ?_
      refine Go.pull (V := T165.setTop (mkF m 102 #[iv pa, iv pb, iv 3, iv 3, iv 1023, iv 1023, iv 448, iv 56, iv 519, iv 1023] [])) (fun t k => XS.icmpNo X165.here hx rfl (hb hby at_99) rfl (XT.ii_ne_f (by decide)) k) ?_
      refine Go.pull (V := T165.setTop (mkF m 104 #[iv pa, iv pb, iv 3, iv 3, iv 1023, iv 1023, iv 448, iv 56, iv 519, iv 1023] [(.int 448)])) (fun t k => XS.iload X165.here hx rfl (hb hby at_102) rfl  k) ?_
      refine Go.pull (V := T165.setTop (mkF m 106 #[iv pa, iv pb, iv 3, iv 3, iv 1023, iv 1023, iv 448, iv 56, iv 519, iv 1023] [(.int 56), (.int 448)])) (fun t k => XS.iload X165.here hx rfl (hb hby at_104) rfl  k) ?_
      refine Go.pull (V := T165.setTop (mkF m 107 #[iv pa, iv pb, iv 3, iv 3, iv 1023, iv 1023, iv 448, iv 56, iv 519, iv 1023] [(.int 504)])) (fun t k => XS.ior X165.here hx rfl (hb hby at_106) rfl k) ?_
      refine Go.pull (V := T165.setTop (mkF m 109 #[iv pa, iv pb, iv 3, iv 3, iv 1023, iv 1023, iv 448, iv 56, iv 519, iv 1023] [(.int 519), (.int 504)])) (fun t k => XS.iload X165.here hx rfl (hb hby at_107) rfl  k) ?_
      refine Go.pull (V := T165.setTop (mkF m 110 #[iv pa, iv pb, iv 3, iv 3, iv 1023, iv 1023, iv 448, iv 56, iv 519, iv 1023] [(.int 1023)])) (fun t k => XS.ior X165.here hx rfl (hb hby at_109) rfl k) ?_
      refine Go.pull (V := T165.setTop (mkF m 112 #[iv pa, iv pb, iv 3, iv 3, iv 1023, iv 1023, iv 448, iv 56, iv 519, iv 1023] [(.int 1023), (.int 1023)])) (fun t k => XS.iload X165.here hx rfl (hb hby at_110) rfl  k) ?_
      refine Go.pull (V := T165.setTop (mkF m 117 #[iv pa, iv pb, iv 3, iv 3, iv 1023, iv 1023, iv 448, iv 56, iv 519, iv 1023] [])) (fun t k => XS.icmpYes X165.here hx rfl (pc0 := 112) (pc' := 117) rfl (hb hby at_112) rfl (XT.ii_eq_t (by decide)) (by decide) (by decide) k) ?_
      refine Go.pull (V := T165.setTop (mkF m 119 #[iv pa, iv pb, iv 3, iv 3, iv 1023, iv 1023, iv 448, iv 56, iv 519, iv 1023] [(.int 448)])) (fun t k => XS.iload X165.here hx rfl (hb hby at_117) rfl  k) ?_
      refine Go.pull (V := T165.setTop (mkF m 121 #[iv pa, iv pb, iv 3, iv 3, iv 1023, iv 1023, iv 448, iv 56, iv 519, iv 1023] [(.int 56), (.int 448)])) (fun t k => XS.iload X165.here hx rfl (hb hby at_119) rfl  k) ?_
      refine Go.pull (V := T165.setTop (mkF m 122 #[iv pa, iv pb, iv 3, iv 3, iv 1023, iv 1023, iv 448, iv 56, iv 519, iv 1023] [(.int 0)])) (fun t k => XS.iand X165.here hx rfl (hb hby at_121) rfl k) ?_
      refine Go.pull (V := T165.setTop (mkF m 125 #[iv pa, iv pb, iv 3, iv 3, iv 1023, iv 1023, iv 448, iv 56, iv 519, iv 1023] [])) (fun t k => XS.ifNo X165.here hx rfl (hb hby at_122) rfl (XT.i0_ne_f (by decide)) k) ?_
      refine Go.pull (V := T165.setTop (mkF m 127 #[iv pa, iv pb, iv 3, iv 3, iv 1023, iv 1023, iv 448, iv 56, iv 519, iv 1023] [(.int 448)])) (fun t k => XS.iload X165.here hx rfl (hb hby at_125) rfl  k) ?_
      refine Go.pull (V := T165.setTop (mkF m 129 #[iv pa, iv pb, iv 3, iv 3, iv 1023, iv 1023, iv 448, iv 56, iv 519, iv 1023] [(.int 519), (.int 448)])) (fun t k => XS.iload X165.here hx rfl (hb hby at_127) rfl  k) ?_
      refine Go.pull (V := T165.setTop (mkF m 130 #[iv pa, iv pb, iv 3, iv 3, iv 1023, iv 1023, iv 448, iv 56, iv 519, iv 1023] [(.int 0)])) (fun t k => XS.iand X165.here hx rfl (hb hby at_129) rfl k) ?_
      refine Go.pull (V := T165.setTop (mkF m 133 #[iv pa, iv pb, iv 3, iv 3, iv 1023, iv 1023, iv 448, iv 56, iv 519, iv 1023] [])) (fun t k => XS.ifNo X165.here hx rfl (hb hby at_130) rfl (XT.i0_ne_f (by decide)) k) ?_
      refine Go.pull (V := T165.setTop (mkF m 135 #[iv pa, iv pb, iv 3, iv 3, iv 1023, iv 1023, iv 448, iv 56, iv 519, iv 1023] [(.int 56)])) (fun t k => XS.iload X165.here hx rfl (hb hby at_133) rfl  k) ?_
      refine Go.pull (V := T165.setTop (mkF m 137 #[iv pa, iv pb, iv 3, iv 3, iv 1023, iv 1023, iv 448, iv 56, iv 519, iv 1023] [(.int 519), (.int 56)])) (fun t k => XS.iload X165.here hx rfl (hb hby at_135) rfl  k) ?_
      refine Go.pull (V := T165.setTop (mkF m 138 #[iv pa, iv pb, iv 3, iv 3, iv 1023, iv 1023, iv 448, iv 56, iv 519, iv 1023] [(.int 0)])) (fun t k => XS.iand X165.here hx rfl (hb hby at_137) rfl k) ?_
      refine Go.pull (V := T165.setTop (mkF m 143 #[iv pa, iv pb, iv 3, iv 3, iv 1023, iv 1023, iv 448, iv 56, iv 519, iv 1023] [])) (fun t k => XS.ifYes X165.here hx rfl (pc0 := 138) (pc' := 143) rfl (hb hby at_138) rfl (XT.i0_eq_t (by decide)) (by decide) (by decide) k) ?_
      refine Go.pull (V := T165.setTop (mkF m 144 #[iv pa, iv pb, iv 3, iv 3, iv 1023, iv 1023, iv 448, iv 56, iv 519, iv 1023] [(.int 3)])) (fun t k => XS.iloadN X165.here hx rfl (hb hby at_143) rfl  k) ?_
      refine Go.pull (V := T165.setTop (mkF m 145 #[iv pa, iv pb, iv 3, iv 3, iv 1023, iv 1023, iv 448, iv 56, iv 519, iv 1023] [(.int 3), (.int 3)])) (fun t k => XS.iloadN X165.here hx rfl (hb hby at_144) rfl  k) ?_
      refine Go.pull (V := T165.setTop (mkF m 168 #[iv pa, iv pb, iv 3, iv 3, iv 1023, iv 1023, iv 448, iv 56, iv 519, iv 1023] [])) (fun t k => XS.icmpYes X165.here hx rfl (pc0 := 145) (pc' := 168) rfl (hb hby at_145) rfl (XT.ii_eq_t (by decide)) (by decide) (by decide) k) ?_
      refine Go.pull (V := T165.setTop (mkF m 170 #[iv pa, iv pb, iv 3, iv 3, iv 1023, iv 1023, iv 448, iv 56, iv 519, iv 1023] [(.int 519)])) (fun t k => XS.iload X165.here hx rfl (hb hby at_168) rfl  k) ?_
      refine Go.pull (V := T165.setTop (mkF m 173 #[iv pa, iv pb, iv 3, iv 3, iv 1023, iv 1023, iv 448, iv 56, iv 519, iv 1023] [(.int 512), (.int 519)])) (fun t k => XS.sipush X165.here hx rfl (hb hby at_170) k) ?_
      refine Go.pull (V := T165.setTop (mkF m 174 #[iv pa, iv pb, iv 3, iv 3, iv 1023, iv 1023, iv 448, iv 56, iv 519, iv 1023] [(.int 512)])) (fun t k => XS.iand X165.here hx rfl (hb hby at_173) rfl k) ?_
      refine Go.pull (V := T165.setTop (mkF m 177 #[iv pa, iv pb, iv 3, iv 3, iv 1023, iv 1023, iv 448, iv 56, iv 519, iv 1023] [])) (fun t k => XS.ifNo X165.here hx rfl (hb hby at_174) rfl (XT.i0_eq_f (by decide)) k) ?_
      refine Go.pull (V := T165.setTop (mkF m 179 #[iv pa, iv pb, iv 3, iv 3, iv 1023, iv 1023, iv 448, iv 56, iv 519, iv 1023] [(.int 448)])) (fun t k => XS.iload X165.here hx rfl (hb hby at_177) rfl  k) ?_
      refine Go.pull (V := T165.setTop (mkF m 181 #[iv pa, iv pb, iv 3, iv 3, iv 1023, iv 1023, iv 448, iv 56, iv 519, iv 1023] [(.int 56), (.int 448)])) (fun t k => XS.iload X165.here hx rfl (hb hby at_179) rfl  k) ?_
      refine Go.pull (V := T165.setTop (mkF m 182 #[iv pa, iv pb, iv 3, iv 3, iv 1023, iv 1023, iv 448, iv 56, iv 519, iv 1023] [(.int 504)])) (fun t k => XS.ior X165.here hx rfl (hb hby at_181) rfl k) ?_
      refine Go.pull (V := T165.setTop (mkF m 185 #[iv pa, iv pb, iv 3, iv 3, iv 1023, iv 1023, iv 448, iv 56, iv 519, iv 1023] [(.int 512), (.int 504)])) (fun t k => XS.sipush X165.here hx rfl (hb hby at_182) k) ?_
      refine Go.pull (V := T165.setTop (mkF m 186 #[iv pa, iv pb, iv 3, iv 3, iv 1023, iv 1023, iv 448, iv 56, iv 519, iv 1023] [(.int 0)])) (fun t k => XS.iand X165.here hx rfl (hb hby at_185) rfl k) ?_
      refine Go.pull (V := T165.setTop (mkF m 191 #[iv pa, iv pb, iv 3, iv 3, iv 1023, iv 1023, iv 448, iv 56, iv 519, iv 1023] [])) (fun t k => XS.ifYes X165.here hx rfl (pc0 := 186) (pc' := 191) rfl (hb hby at_186) rfl (XT.i0_eq_t (by decide)) (by decide) (by decide) k) ?_
      refine Go.pull (V := T165.setTop (mkF m 192 #[iv pa, iv pb, iv 3, iv 3, iv 1023, iv 1023, iv 448, iv 56, iv 519, iv 1023] [(.int 1)])) (fun t k => XS.iconst X165.here hx rfl (hb hby at_191) k) ?_
      exact Go.retN X165 hx Bd.notSynchronized (t := .boolean) Bd.returns (by simp) (hb hby at_192) ⟨rfl, N165⟩ (by decide) (by decide)
set_option maxRecDepth 65536 in
set_option maxHeartbeats 40000000 in
theorem comes_1 {Post : Tables → Env → Array Value → State → Outcome → State → Prop} (hpost : ∀ tb e args s v u, (limb_1_1.after args s (.returned v) u = true ∧ limb_1_2.after args s (.returned v) u = true ∧ True) → FrameEnd s (.returned v) u (Jvm.fieldLocs frame_1_writes args s ++ Jvm.arrayLocs frame_1_arrays args s ++ Jvm.staticLocs frame_1_statics s) 0 0 → Post tb e args s (.returned v) u) :
    ArmFor flags0 classFile x code maxLocals ret World_1 tables_1 room_1 Calls_1 rest_1 Pre_1 Post := by
  intro l hfl _ _ p e ha hc hk s m args below hf hA hF happ hP
  obtain ⟨hcalls, hrest, hpre⟩ := hP
  obtain ⟨-, -, -, hnamed, -, -, -, hat⟩ := (Spec.applies_iff hf).mp happ
  obtain ⟨hg, hn⟩ := and_e (Cond.before_iff.mp (show (Jvm.Cond.and given_1 narrow_1).before args s = true from hpre))
  obtain ⟨y1, y2⟩ := and_e hg
  obtain ⟨y3, y4⟩ := and_e y2
  obtain ⟨w0, w1, rfl⟩ : ∃ w0 w1 : Value, args = #[w0, w1] := by
    have hs : args.size = 2 := by simpa [Cond.value, given_1] using y1
    obtain ⟨L⟩ := args
    match L, hs with
    | [w0, w1], _ => exact ⟨w0, w1, rfl⟩
  have hw := fun d (hd : d ∈ tables_1) => atoms_spec (ws := Jvm.Cond.code x code maxLocals ret :: tables_1) hat d (List.mem_cons_of_mem _ hd)
  have hfit : Fit s := fun {y c} hc i hi => by
    obtain ⟨ha, rfl⟩ := Array.getElem?_eq_some_iff.mp hc
    have q := List.all_eq_true.mp ((Array.all_eq_true_iff_forall_mem.mp hF) _ (Array.getElem_mem ha)) i (List.mem_range.mpr hi)
    simpa [Array.getElem?_eq_getElem hi] using q
  obtain ⟨i0, ei0⟩ := is_v y3
  obtain rfl : w0 = (.int i0) := Option.some.inj ei0
  obtain ⟨i1, ei1⟩ := is_v y4
  obtain rfl : w1 = (.int i1) := Option.some.inj ei1
  obtain ⟨n, o, h1, h2, h3, _, L, rfl, ⟨rfl, N⟩, hq⟩ := rm0 l s _ hw tables_1 i0 i1 s.heap s.heap.size (Nat.le_refl _)  p e ha hc hk s m _ below hf ((Spec.applies_iff_loose hf).mp happ).1 ⟨rfl, State.Warmed39.refl s, rfl⟩ trivial
  refine ⟨n, _, h1, h2, h3, hpost _ _ _ _ _ _ ⟨Cond.after_iff.mpr rfl, Cond.after_iff.mpr (eq_i res_at (Term.int_eval (1)) rfl), trivial⟩ ⟨hq.1, hq.2.1, (hq.2.2.sift fun y hy => Or.inr (N y hy)).mono (by decide) (by decide)⟩⟩
theorem main_1_1 : Claimed_1_1 := comes_1 fun _ _ _ _ _ _ h hF => ⟨h.1, hF⟩
theorem main_1_2 : Claimed_1_2 := comes_1 fun _ _ _ _ _ _ h hF => ⟨h.2.1, hF⟩
end Jvm.Pilot.@@N@@
namespace Jvm.Pilot.@@N@@
open Jvm Jvm.ClassFile Sem Op Lib Jvm.Free Jvm.Stand Jvm.Pilot.@@N@@.Jvm.D
/-! MADE BY PROGRAM (witnessworld.py) out of the Statement's table words and the real class files: 9 classes; the members and pool entries that the words name. The judged class is class 1, her method 3. -/
namespace start1
open Jvm.ClassFile
def u (s : String) : CpInfo := .utf8 (stringToUtf16 s)
/-- a pool by its gaps: so many unusable entries, then the entry; so many at the end -/
def gap : Nat → List CpInfo → List CpInfo
  | 0, r => r
  | n + 1, r => .unusable :: gap n r
def poolList (es : List (Nat × CpInfo)) (last : Nat) : List CpInfo := es.foldr (fun e r => gap e.1 (e.2 :: r)) (gap last [])
def pool (es : List (Nat × CpInfo)) (last : Nat) : Array CpInfo := ⟨poolList es last⟩
def fileOf (pool : Array CpInfo) (this : Nat) (attrs : Array Attribute := #[]) (ms : Array MethodInfo := #[]) (fl : Nat := 33) (sup : Nat := 0) (ifs : Array Nat := #[]) (fds : Array FieldInfo := #[]) : ClassFile where
  minorVersion := 0
  majorVersion := 65
  constantPool := pool
  accessFlags := fl
  thisClass := this
  superClass := sup
  interfaces := ifs
  fields := fds
  methods := ms
  attributes := attrs
def plain (name : String) (sup : Option ClassId) : Class where
  name := name
  kind := .ordinary
  loader := none
  accessFlags := 33
  super := sup
  interfaces := #[]
  cf := none
  fields := #[]
  methods := #[]
  instanceTypes := #[]
  staticTypes := #[]
  resolved := #[]
  callSites := []
  init := .initialized
  statics := none
  mirror := none

def pool0 : Array CpInfo := pool [(5, u "<init>"), (0, u "()V"), (1, .class_ 10), (1, u "java/lang/Object")] 113

def k0m0 : Method := { name := "<init>", desc := "()V", sig := { parameters := [], returnType := none }, accessFlags := 1, code := none }
/-- java/lang/Object -/
def k0 : Class := { plain "java/lang/Object" none with
  accessFlags := 33
  interfaces := #[]
  cf := some (fileOf pool0 8 #[] #[{ accessFlags := 1, nameIndex := 5, descriptorIndex := 6, attributes := #[] }] 33 0 #[] #[])
  fields := #[]
  methods := #[k0m0]
  instanceTypes := #[]
  staticTypes := #[]
  resolved := Array.replicate 124 none
  statics := none }

def pool1 : Array CpInfo := pool [(2, .class_ 4), (1, u "java/lang/Object"), (0, u "<init>"), (0, u "()V"), (2, .methodref 10 11), (0, .class_ 12), (0, .nameAndType 13 14), (0, u "com/example/facl/facl/ModeSpecPartPinLaw"), (0, u "letter"), (0, u "(I)C"), (0, .methodref 16 17), (0, .class_ 18), (0, .nameAndType 19 20), (0, u "com/example/facl/facl/ModeSpec"), (0, u "part"), (0, u "(C)I"), (0, .methodref 10 22), (0, .nameAndType 23 24), (0, u "expected"), (0, u "(I)I"), (5, u "law"), (0, u "(II)Z")] 2

def k1m0 : Method := { name := "<init>", desc := "()V", sig := { parameters := [], returnType := none }, accessFlags := 2, code := none }
def k1c1 : Code := { maxStack := 2, maxLocals := 1, code := method_2_code, exceptionTable := #[], attributes := #[] }
def k1m1 : Method := { name := "letter", desc := "(I)C", sig := { parameters := [.int], returnType := some .char }, accessFlags := 10, code := some k1c1 }
def k1c2 : Code := { maxStack := 2, maxLocals := 1, code := method_3_code, exceptionTable := #[], attributes := #[] }
def k1m2 : Method := { name := "expected", desc := "(I)I", sig := { parameters := [.int], returnType := some .int }, accessFlags := 10, code := some k1c2 }
def k1c3 : Code := { maxStack := 2, maxLocals := 10, code := code, exceptionTable := #[], attributes := #[] }
def k1m3 : Method := { name := "law", desc := "(II)Z", sig := { parameters := [.int, .int], returnType := some .boolean }, accessFlags := 9, code := some k1c3 }
/-- com/example/facl/facl/ModeSpecPartPinLaw -/
def k1 : Class := { plain "com/example/facl/facl/ModeSpecPartPinLaw" (some 0) with
  accessFlags := 49
  interfaces := #[]
  cf := some (fileOf pool1 10 #[] #[{ accessFlags := 2, nameIndex := 5, descriptorIndex := 6, attributes := #[] }, { accessFlags := 10, nameIndex := 13, descriptorIndex := 14, attributes := #[] }, { accessFlags := 10, nameIndex := 23, descriptorIndex := 24, attributes := #[] }, { accessFlags := 9, nameIndex := 30, descriptorIndex := 31, attributes := #[] }] 49 2 #[] #[])
  fields := #[]
  methods := #[k1m0, k1m1, k1m2, k1m3]
  instanceTypes := #[]
  staticTypes := #[]
  resolved := Array.replicate 34 none
  statics := none }

def pool2 : Array CpInfo := pool [(2, .class_ 4), (1, u "java/lang/Object"), (9, .class_ 16), (1, u "com/example/facl/facl/ModeSpec"), (0, u "actions"), (0, u "Ljava/util/List;"), (16, .class_ 36), (0, u "com/example/facl/facl/ModeSpec$Action"), (60, u "part"), (0, u "(C)I")] 70

def k2c0 : Code := { maxStack := 1, maxLocals := 1, code := prog_28_method_5_code, exceptionTable := #[], attributes := #[] }
def k2m0 : Method := { name := "part", desc := "(C)I", sig := { parameters := [.char], returnType := some .int }, accessFlags := 8, code := some k2c0 }
/-- com/example/facl/facl/ModeSpec -/
def k2 : Class := { plain "com/example/facl/facl/ModeSpec" (some 0) with
  accessFlags := 33
  interfaces := #[]
  cf := some (fileOf pool2 14 #[.nestMembers #[35]] #[{ accessFlags := 8, nameIndex := 97, descriptorIndex := 98, attributes := #[] }] 33 2 #[] #[{ accessFlags := 18, nameIndex := 17, descriptorIndex := 18, attributes := #[] }])
  fields := #[{ name := "actions", type := (.object "java/util/List"), accessFlags := 18, slot := 0, constantValue := 0 }]
  methods := #[k2m0]
  instanceTypes := #[(.object "java/util/List")]
  staticTypes := #[]
  resolved := Array.replicate 169 none
  statics := none }

def pool3 : Array CpInfo := pool [(1, u "java/lang/Cloneable"), (0, .class_ 1), (0, u "java/lang/Object"), (0, .class_ 3)] 3

/-- java/lang/Cloneable -/
def k3 : Class := { plain "java/lang/Cloneable" (some 0) with
  accessFlags := 1537
  interfaces := #[]
  cf := some (fileOf pool3 2 #[] #[] 1537 4 #[] #[])
  fields := #[]
  methods := #[]
  instanceTypes := #[]
  staticTypes := #[]
  resolved := Array.replicate 8 none
  statics := none }

def pool4 : Array CpInfo := pool [(1, u "java/io/Serializable"), (0, .class_ 1), (0, u "java/lang/Object"), (0, .class_ 3)] 3

/-- java/io/Serializable -/
def k4 : Class := { plain "java/io/Serializable" (some 0) with
  accessFlags := 1537
  interfaces := #[]
  cf := some (fileOf pool4 2 #[] #[] 1537 4 #[] #[])
  fields := #[]
  methods := #[]
  instanceTypes := #[]
  staticTypes := #[]
  resolved := Array.replicate 8 none
  statics := none }

/-- the primitive byte -/
def k5 : Class := { plain "byte" none with kind := .primitive 'B', accessFlags := 0x411 }
/-- [B -/
def k6 : Class := { plain "[B" (some 0) with kind := .array 5 .byte, interfaces := #[3, 4], accessFlags := 1041 }

/-- the primitive int -/
def k7 : Class := { plain "int" none with kind := .primitive 'I', accessFlags := 0x411 }
/-- [I -/
def k8 : Class := { plain "[I" (some 0) with kind := .array 7 .int, interfaces := #[3, 4], accessFlags := 1041 }

def heap : Heap := #[]
def classes : Array Class := #[k0, k1, k2, k3, k4, k5, k6, k7, k8]
def interned : List (Array UInt16 × Addr) := []
def slotsUsed : Nat := 0
def theMethod : MethodId := ⟨1, 3⟩
def args0 : Array Value := #[.int 5, .int 6]
def aboutOver (below : List Frame) : State where
  vm := { classes := classes, interned := interned.toArray }
  heap := heap
  slotsUsed := slotsUsed
  threads := #[{ frames := .invoking theMethod args0 :: below }]
def below0 : List Frame := [.native { method := ⟨0, 0⟩, args := #[] }]
def about1 : State := aboutOver below0
def p0 : Program := .bare "" "" ""
def e0 : Env := launch0.env 0 0 0
theorem w_frames : about1.frames = Frame.invoking theMethod args0 :: below0 := rfl
set_option maxRecDepth 65536 in
theorem w_args : argsFit about1.vm theMethod args0 = true := by decide +kernel
set_option maxRecDepth 65536 in
theorem w_heap : heapFits about1 = true := by decide +kernel
set_option maxRecDepth 65536 in
theorem w_runnable : about1.curStatus? = some .runnable := by decide +kernel
set_option maxRecDepth 65536 in
theorem w_alone : about1.alone = true := by decide +kernel
set_option maxRecDepth 65536 in
theorem w_named : about1.methodNamed? x = some theMethod := by decide +kernel
set_option maxRecDepth 65536 in
theorem w_hears : about1.hears theMethod below0 = true := by decide +kernel
set_option maxRecDepth 65536 in
theorem w_ripe : about1.ripe theMethod args0 below0 = true := by decide +kernel
theorem w_running : about1.status = .running := rfl
set_option maxRecDepth 65536 in
theorem w_room : about1.hasRoom e0.platform room_1 = true :=
  launch0.hasRoom_least _ room_1 (by decide +kernel) (by decide +kernel) (by decide +kernel) (by decide +kernel) (by decide +kernel) (by decide +kernel)
theorem allAtoms_all (ts : List Jvm.Cond) (a : Array Jvm.Value) (st : Jvm.State) : (allAtoms ts).before a st = ts.all (fun c => c.before a st) := by
  induction ts with
  | nil => rfl
  | cons c t ih =>
    show (Jvm.Cond.and c (allAtoms t)).before a st = _
    rw [Jvm.Cond.before_and, ih, List.all_cons]
def words1 : List Jvm.Cond := Jvm.Cond.code x code maxLocals ret :: tables_1
/-- a 'code' word, met by the world's own term for the bytes: nothing is compared byte by byte -/
theorem code_word {y : MethodName} {bytes : ByteArray} {mx : Nat} {rt : Option FieldType} {a : Array Value} {s : State} {m : MethodId} {meth : Method} {c : Code} (h1 : s.methodNamed? y = some m) (h2 : s.vm.method? m = some meth) (h3 : meth.code = some c) (h4 : c.code = bytes)
    (h5 : (c.maxLocals == mx && c.exceptionTable.isEmpty && decide (c.maxStack ≤ mostOperands) && decide (meth.sig.returnType = rt) && !meth.locks && decide (parseMethodDescriptor y.desc = some meth.sig)) = true) : (Jvm.Cond.code y bytes mx rt).before a s = true := by
  simp only [Bool.and_eq_true, beq_iff_eq, Bool.not_eq_true', decide_eq_true_eq] at h5
  obtain ⟨⟨⟨⟨⟨g1, g2⟩, g3⟩, g4⟩, g5⟩, g6⟩ := h5
  simp [Cond.before, Cond.holds, Cond.value, h1, h2, h3, h4, g1, g2, g3, g4, g5, g6]
def isCode : Jvm.Cond → Bool
  | .code _ _ _ _ => true
  | _ => false
theorem all_split {L : List Jvm.Cond} {P : Jvm.Cond → Bool} (h1 : L.all (fun c => isCode c || P c) = true) (h2 : ∀ c ∈ L.filter isCode, P c = true) : L.all P = true := by
  refine List.all_eq_true.mpr fun c hc => ?_
  have h := List.all_eq_true.mp h1 c hc
  rcases Bool.eq_false_or_eq_true (isCode c) with hi | hi
  · exact h2 c (List.mem_filter.mpr ⟨hc, hi⟩)
  · simpa [hi] using h
set_option maxRecDepth 65536 in
theorem w_c0 : (Jvm.Cond.code x code maxLocals ret).before args0 about1 = true := code_word (m := ⟨1, 3⟩) (meth := k1m3) (c := k1c3) (by decide +kernel) rfl rfl rfl (by decide +kernel)
set_option maxRecDepth 65536 in
theorem w_c1 : (Jvm.Cond.code ({ cls := "com/example/facl/facl/ModeSpecPartPinLaw", name := "letter", desc := "(I)C" } : Jvm.MethodName) method_2_code (1 : Nat) (Option.some Jvm.ClassFile.FieldType.char)).before args0 about1 = true := code_word (m := ⟨1, 1⟩) (meth := k1m1) (c := k1c1) (by decide +kernel) rfl rfl rfl (by decide +kernel)
set_option maxRecDepth 65536 in
theorem w_c2 : (Jvm.Cond.code ({ cls := "com/example/facl/facl/ModeSpec", name := "part", desc := "(C)I" } : Jvm.MethodName) prog_28_method_5_code (1 : Nat) (Option.some Jvm.ClassFile.FieldType.int)).before args0 about1 = true := code_word (m := ⟨2, 0⟩) (meth := k2m0) (c := k2c0) (by decide +kernel) rfl rfl rfl (by decide +kernel)
set_option maxRecDepth 65536 in
theorem w_c3 : (Jvm.Cond.code ({ cls := "com/example/facl/facl/ModeSpecPartPinLaw", name := "expected", desc := "(I)I" } : Jvm.MethodName) method_3_code (1 : Nat) (Option.some Jvm.ClassFile.FieldType.int)).before args0 about1 = true := code_word (m := ⟨1, 2⟩) (meth := k1m2) (c := k1c2) (by decide +kernel) rfl rfl rfl (by decide +kernel)
def codes1 : List Jvm.Cond := [Jvm.Cond.code x code maxLocals ret, Jvm.Cond.code ({ cls := "com/example/facl/facl/ModeSpecPartPinLaw", name := "letter", desc := "(I)C" } : Jvm.MethodName) method_2_code (1 : Nat) (Option.some Jvm.ClassFile.FieldType.char), Jvm.Cond.code ({ cls := "com/example/facl/facl/ModeSpec", name := "part", desc := "(C)I" } : Jvm.MethodName) prog_28_method_5_code (1 : Nat) (Option.some Jvm.ClassFile.FieldType.int), Jvm.Cond.code ({ cls := "com/example/facl/facl/ModeSpecPartPinLaw", name := "expected", desc := "(I)I" } : Jvm.MethodName) method_3_code (1 : Nat) (Option.some Jvm.ClassFile.FieldType.int)]
set_option maxRecDepth 65536 in
theorem codes_eq : words1.filter isCode = codes1 := rfl
theorem w_codes : ∀ c ∈ words1.filter isCode, c.before args0 about1 = true := by
  rw [codes_eq]
  intro c hc
  simp only [codes1, List.mem_cons, List.not_mem_nil, or_false] at hc
  rcases hc with rfl | rfl | rfl | rfl
  · exact w_c0
  · exact w_c1
  · exact w_c2
  · exact w_c3
set_option maxRecDepth 65536 in
theorem w_t1 : words1.all (fun c => isCode c || c.before args0 about1) = true := by decide +kernel
theorem w_tables : (allAtoms (Jvm.Cond.code x code maxLocals ret :: tables_1)).before args0 about1 = true := by
  rw [allAtoms_all]
  show words1.all (fun c => c.before args0 about1) = true
  refine all_split ?_ w_codes
  rw [w_t1]
set_option maxRecDepth 65536 in
theorem w_case : (Jvm.Cond.and given_1 narrow_1).before args0 about1 = true := by decide +kernel
theorem w_applies : (headSpec (Jvm.Cond.code x code maxLocals ret :: tables_1) room_1).applies x e0.platform about1 = true :=
  (Spec.applies_iff w_frames).mpr ⟨w_running, w_runnable, w_alone, w_named, w_hears, w_ripe, w_room, w_tables⟩
theorem atStart : AtStart classFile x code maxLocals ret World_1 tables_1 room_1 Calls_1 rest_1 Pre_1 launch0 p0 e0 about1 theMethod args0 below0 :=
  ⟨lists_1, trivial, launch0.admits_env _ _ _, launch0.least_env, fairChoices_fair.cas, fairChoices_fair.clock, w_frames, w_args, w_heap, w_applies, trivial, trivial, w_case⟩
end start1
theorem witness_1 : WitnessClaimed_1 := ⟨start1.p0, start1.e0, start1.about1, start1.theMethod, start1.args0, start1.below0, start1.atStart⟩
end Jvm.Pilot.@@N@@
