import JvmDerived
import JvmDerived.Pilot.@@N@@Statement
import JvmDerived.Pilot.@@N@@Code
set_option linter.unusedVariables false
set_option linter.unusedSimpArgs false
namespace Jvm.Pilot.@@N@@
open Jvm Jvm.ClassFile Sem Op Lib Jvm.Free Jvm.Stand Jvm.LawKit Jvm.RoadKit Bundle Jvm.Pilot.@@N@@.Jvm.D
section Own
variable {p : Program} {l : Launch} {e : Env} {R : Room} {s : State} {m : MethodId} {args : Array Value} {below : List Frame} {meth : Method} {c : Code} {T : State} {locs : List Loc} {cells slots : Nat} {P : Option Value → Heap → List Loc → Prop} {kk nn : Nat}
/-- from U a run comes to an end at which P holds, within kk cells and nn slots -/
def Go (p : Program) (e : Env) (below : List Frame) (s : State) (P : Option Value → Heap → List Loc → Prop) (kk nn : Nat) (U : State) : Prop :=
  ∃ s₂ o, Steps p.tables e below U s₂ ∧ s₂.status = .running ∧ Ended s₂ below o ∧ ∃ v L, o = .returned v ∧ P v s₂.heap L ∧ FrameEnd s o s₂ L kk nn
theorem Go.pull {U V : State} (h : ∀ t, Steps p.tables e below V t → Steps p.tables e below U t) (g : Go p e below s P kk nn V) : Go p e below s P kk nn U := by
  obtain ⟨s2, o, h1, h2⟩ := g
  exact ⟨s2, o, h _ h1, h2⟩
theorem Go.fin (X : Stand p l e R s m args below meth c T locs cells slots) {f : JFrame} {v : Option Value} (hlk : meth.locks = false) (hv : meth.sig.returnType = none → v = none)
    (hs : ∀ fs, (∀ (f : JFrame) (acts : List Action), f.method = m → f.locked = none → f.entered = [] → (doReturn e (T.setTop f) acts v).1 = T.setFrames fs) → Steps p.tables e below (T.setTop f) (T.setFrames fs))
    (hP : P v T.heap locs) (hk : cells ≤ kk) (hn : slots ≤ nn) : Go p e below s P kk nn (T.setTop f) := by
  obtain ⟨fs, hr, hrun, hended, hW, hsame⟩ := X.leave (v := v) hv hlk
  exact ⟨_, _, hs fs hr, hrun, hended, _, _, rfl, hP, ⟨_, rfl⟩, hW, hsame.mono hk hn⟩
theorem Go.retN (X : Stand p l e R s m args below meth c T locs cells slots) (hx : p.tables.exec = Jvm.exec) (hlk : meth.locks = false) {pc : Nat} {Ls : Array Slot} {z : Int32} {t : FieldType} {rest : List Value} (hret : meth.sig.returnType = some t) (ht : t = .boolean ∨ t = .byte ∨ t = .char ∨ t = .short)
    (hd : decode c.code pc = .ok (.ireturn, 1)) (hP : P (some (.int (nar t z))) T.heap locs) (hk : cells ≤ kk) (hn : slots ≤ nn) : Go p e below s P kk nn (T.setTop (mkF m pc Ls (.int z :: rest))) :=
  Go.fin X hlk (fun h => by rw [hret] at h; cases h) (fun fs hr => RoadKit.retN X hx hret ht hd hr) hP hk hn
theorem Go.retI (X : Stand p l e R s m args below meth c T locs cells slots) (hx : p.tables.exec = Jvm.exec) (hlk : meth.locks = false) {pc : Nat} {Ls : Array Slot} {z : Int32} {rest : List Value} (hret : meth.sig.returnType = some .int)
    (hd : decode c.code pc = .ok (.ireturn, 1)) (hP : P (some (.int z)) T.heap locs) (hk : cells ≤ kk) (hn : slots ≤ nn) : Go p e below s P kk nn (T.setTop (mkF m pc Ls (.int z :: rest))) :=
  Go.fin X hlk (fun h => by rw [hret] at h; cases h) (fun fs hr => retOut X hx hret rfl (Or.inl ⟨rfl, Or.inl rfl, z, rfl⟩) hd hr) hP hk hn
theorem Go.retJ (X : Stand p l e R s m args below meth c T locs cells slots) (hx : p.tables.exec = Jvm.exec) (hlk : meth.locks = false) {pc : Nat} {Ls : Array Slot} {z : Int64} {rest : List Value} (hret : meth.sig.returnType = some .long)
    (hd : decode c.code pc = .ok (.lreturn, 1)) (hP : P (some (.long z)) T.heap locs) (hk : cells ≤ kk) (hn : slots ≤ nn) : Go p e below s P kk nn (T.setTop (mkF m pc Ls (.long z :: rest))) :=
  Go.fin X hlk (fun h => by rw [hret] at h; cases h) (fun fs hr => retOut X hx hret rfl (Or.inr (Or.inl ⟨rfl, rfl, z, rfl⟩)) hd hr) hP hk hn
theorem Go.retR (X : Stand p l e R s m args below meth c T locs cells slots) (hx : p.tables.exec = Jvm.exec) (hlk : meth.locks = false) {pc : Nat} {Ls : Array Slot} {w : Value} {t : FieldType} {rest : List Value} (hret : meth.sig.returnType = some t) (hna : narrow t w = w) (ht : t.isReference = true) (hw : w.isRef = true)
    (hd : decode c.code pc = .ok (.areturn, 1)) (hP : P (some w) T.heap locs) (hk : cells ≤ kk) (hn : slots ≤ nn) : Go p e below s P kk nn (T.setTop (mkF m pc Ls (w :: rest))) :=
  Go.fin X hlk (fun h => by rw [hret] at h; cases h) (fun fs hr => retOut X hx hret hna (Or.inr (Or.inr (Or.inr (Or.inr ⟨rfl, ht, hw⟩)))) hd hr) hP hk hn
theorem Go.ret0 (X : Stand p l e R s m args below meth c T locs cells slots) (hx : p.tables.exec = Jvm.exec) (hlk : meth.locks = false) {pc : Nat} {Ls : Array Slot} (hret : meth.sig.returnType = none)
    (hd : decode c.code pc = .ok (.return_, 1)) (hP : P none T.heap locs) (hk : cells ≤ kk) (hn : slots ≤ nn) : Go p e below s P kk nn (T.setTop (mkF m pc Ls [])) :=
  Go.fin X hlk (fun _ => rfl) (fun fs hr => X.returnOut hx hret hd hr) hP hk hn
theorem own_lsw {tb : Tables} [Ours tb] {e : Env} {below : List Frame} {T target : State} {m : MethodId} {c : Code} {g : JFrame} (h : At T m c below) (hx : tb.exec = Jvm.exec) (hg : g.method = m) {dflt : Int} {prs : Array (Int × Int)} {len : Nat} {o : Int} {pc0 pc' : Nat} (hpc : g.pc = pc0)
    (hd : decode c.code g.pc = .ok (.lookupswitch dflt prs, len)) {i : Int32} {rest : List Value} (hs : g.stack = .int i :: rest) (hord : (prs.toList.zip (prs.toList.drop 1)).all (fun (a, next) => a.1 < next.1) = true) (hoff : lookupswitch.offset prs.toList dflt i.toInt = o)
    (ho : 0 ≤ (pc0 : Int) + o) (hp : ((pc0 : Int) + o).toNat = pc') (hr : Steps tb e below (T.setTop { g with pc := pc', stack := rest }) target) : Steps tb e below (T.setTop g) target := by
  subst hg hpc hp hoff
  jvm_step h [h.top, hx, hd, hs, ho, lookupswitch.wp_chain]
  exact ⟨by simpa using hord, hr⟩
theorem own_eq_i {t : Term} {n : Int32} {first : State} {o : Option Outcome} {idx : List Nat} (h : (Cond.eq t (.int n)).value args first o s idx = some true) : t.eval args first o idx s = some (.int n) := by
  obtain ⟨x, y, e1, e2, k1, k2⟩ := cmp_v (Or.inl h)
  cases (Term.int_eval n).symm.trans e2
  obtain ⟨z, rfl⟩ : ∃ z, x = .int z := k2
  rw [e1, gotT (Cond.eq_ints e1 e2) h]
theorem own_eq_l {t : Term} {n : Int64} {first : State} {o : Option Outcome} {idx : List Nat} (h : (Cond.eq t (.long n)).value args first o s idx = some true) : t.eval args first o idx s = some (.long n) := by
  obtain ⟨x, y, e1, e2, k1, k2⟩ := cmp_v (Or.inl h)
  have e3 : (Term.long n).eval args first o idx s = some (.long n) := rfl
  cases e3.symm.trans e2
  obtain ⟨z, rfl⟩ : ∃ z, x = .long z := k2
  rw [e1, gotT (eq_L e1 e2) h]
theorem own_eq_r {t u : Term} {a : Addr} {first : State} {o : Option Outcome} {idx : List Nat} (hu : u.eval args first o idx s = some (.ref a)) (h : (Cond.eq t u).value args first o s idx = some true) : t.eval args first o idx s = some (.ref a) := by
  obtain ⟨x, y, e1, e2, k1, k2⟩ := cmp_v (Or.inl h)
  cases hu.symm.trans e2
  have k3 : (Value.ref a).isRef = true ∧ x.isRef = true := k2
  rw [e1, gotT (eq_R e1 e2 k3.2 rfl) h]
theorem own_sta_keep {Z : State} {h h' : Heap} {C n d : String} {w : Value} {ws : List Addr} (F : Sta Z h C n d w) (K : Keep h h' ws) (q : ∀ x ∈ ws, ∃ c : Cell, h[x]? = some c ∧ ∀ q, c.vm ≠ .statics q) : Sta Z h' C n d w := by
  obtain ⟨cf, i, k, f, st, cell, h1, h2, h3, h4, h5, h6, h7⟩ := F
  refine ⟨cf, i, k, f, st, cell, h1, h2, h3, h4, K.2.1 st cell h5 (fun hm => ?_), h6, h7⟩
  obtain ⟨c, hc, hq⟩ := q st hm
  cases h5.symm.trans hc
  cases hv : cell.vm with
  | statics r => exact hq r hv
  | _ => rw [hv] at h6; cases h6
end Own
theorem pd_0 : parseMethodDescriptor "()V" = some ⟨[], none⟩ := by decide +kernel
theorem pd_1 : parseMethodDescriptor "(IIII)I" = some ⟨[.int, .int, .int, .int], some .int⟩ := by decide +kernel
theorem pd_2 : parseMethodDescriptor "(II)V" = some ⟨[.int, .int], none⟩ := by decide +kernel
theorem pd_3 : parseMethodDescriptor "(I)Z" = some ⟨[.int], some .boolean⟩ := by decide +kernel
theorem pd_4 : parseMethodDescriptor "(II)I" = some ⟨[.int, .int], some .int⟩ := by decide +kernel
def own_pick (pf pl pn pm : Int32) : Int32 := if (pm &&& 7) = 1 then pf else if (pm &&& 7) = 2 then pl else if (pm &&& 7) = 3 then pf - 1 else if (pm &&& 7) = 4 then pl + 1 else pn
def own_max (pa pb : Int32) : Int32 := if pa < pb then pb else pa
def own_min (pa pb : Int32) : Int32 := if pb < pa then pb else pa
def own_in (pf pl pv : Int32) : Int32 := if pv < pf then 0 else if pl < pv then 0 else 1
theorem own_max_y {a b : Int32} (h : ¬ b < a) : own_max a b = b := by
  unfold own_max; split
  · rfl
  · rename_i h2; rw [Int32.lt_iff_toInt_lt] at h h2; exact Int32.toInt_inj.mp (by omega)
theorem own_max_n {a b : Int32} (h : b < a) : ¬ own_max a b = b := by
  unfold own_max; split
  · rename_i h2; intro _; rw [Int32.lt_iff_toInt_lt] at h h2; omega
  · intro h3; rw [h3] at h; exact Int32.lt_irrefl h
theorem own_min_y {a b : Int32} (h : ¬ b < a) : own_min a b = a := if_neg h
theorem own_min_n {a b : Int32} (h : b < a) : ¬ own_min a b = a := by
  unfold own_min; rw [if_pos h]; intro h3; rw [h3] at h; exact Int32.lt_irrefl h
theorem dP_0 : decode method_2_code 0 = .ok (.iload_n 3, 1) := by decide +kernel
theorem dP_1 : decode method_2_code 1 = .ok (.bipush 7, 2) := by decide +kernel
theorem dP_3 : decode method_2_code 3 = .ok (.iand, 1) := by decide +kernel
theorem dP_4 : decode method_2_code 4 = .ok (.istore 4, 2) := by decide +kernel
theorem dP_6 : decode method_2_code 6 = .ok (.iload 4, 2) := by decide +kernel
theorem dP_8 : decode method_2_code 8 = .ok (.iconst 1, 1) := by decide +kernel
theorem dP_9 : decode method_2_code 9 = .ok (.if_icmp .ne 5, 3) := by decide +kernel
theorem dP_12 : decode method_2_code 12 = .ok (.iload_n 0, 1) := by decide +kernel
theorem dP_13 : decode method_2_code 13 = .ok (.ireturn, 1) := by decide +kernel
theorem dP_14 : decode method_2_code 14 = .ok (.iload 4, 2) := by decide +kernel
theorem dP_16 : decode method_2_code 16 = .ok (.iconst 2, 1) := by decide +kernel
theorem dP_17 : decode method_2_code 17 = .ok (.if_icmp .ne 5, 3) := by decide +kernel
theorem dP_20 : decode method_2_code 20 = .ok (.iload_n 1, 1) := by decide +kernel
theorem dP_21 : decode method_2_code 21 = .ok (.ireturn, 1) := by decide +kernel
theorem dP_22 : decode method_2_code 22 = .ok (.iload 4, 2) := by decide +kernel
theorem dP_24 : decode method_2_code 24 = .ok (.iconst 3, 1) := by decide +kernel
theorem dP_25 : decode method_2_code 25 = .ok (.if_icmp .ne 7, 3) := by decide +kernel
theorem dP_28 : decode method_2_code 28 = .ok (.iload_n 0, 1) := by decide +kernel
theorem dP_29 : decode method_2_code 29 = .ok (.iconst 1, 1) := by decide +kernel
theorem dP_30 : decode method_2_code 30 = .ok (.isub, 1) := by decide +kernel
theorem dP_31 : decode method_2_code 31 = .ok (.ireturn, 1) := by decide +kernel
theorem dP_32 : decode method_2_code 32 = .ok (.iload 4, 2) := by decide +kernel
theorem dP_34 : decode method_2_code 34 = .ok (.iconst 4, 1) := by decide +kernel
theorem dP_35 : decode method_2_code 35 = .ok (.if_icmp .ne 7, 3) := by decide +kernel
theorem dP_38 : decode method_2_code 38 = .ok (.iload_n 1, 1) := by decide +kernel
theorem dP_39 : decode method_2_code 39 = .ok (.iconst 1, 1) := by decide +kernel
theorem dP_40 : decode method_2_code 40 = .ok (.iadd, 1) := by decide +kernel
theorem dP_41 : decode method_2_code 41 = .ok (.ireturn, 1) := by decide +kernel
theorem dP_42 : decode method_2_code 42 = .ok (.iload_n 2, 1) := by decide +kernel
theorem dP_43 : decode method_2_code 43 = .ok (.ireturn, 1) := by decide +kernel
theorem efP (m : MethodId) (x0 : Int32) (x1 : Int32) (x2 : Int32) (x3 : Int32) : entryFrame m #[(.int x0), (.int x1), (.int x2), (.int x3)] 5 = mkF m 0 #[iv x0, iv x1, iv x2, iv x3, .unset] [] := by first | (simp [entryFrame, mkF, argsToLocals, Value.category]; done) | rfl
theorem pn_com_example_tagwire_tagwire_NumberRangeContainsPinLaw : plainName "com/example/tagwire/tagwire/NumberRangeContainsPinLaw" = true := by first | (simp [plainName, overriddenIn]; done) | decide +kernel
def QP (Z : State) (pf : Int32) (pl : Int32) (pn : Int32) (pm : Int32) (h0 : Heap) (n0 : Nat) (v : Option Value) (h : Heap) (L : List Loc) : Prop := v = some (.int (own_pick pf pl pn pm)) ∧ Fr n0 L ∧ h = h0
set_option maxRecDepth 65536 in
set_option maxHeartbeats 40000000 in
theorem rmP (l : Launch) (Z : State) (a0 : Array Value) (hw : ∀ d ∈ tables_1, d.before a0 Z = true) (ws : List Jvm.Cond) (pf : Int32) (pl : Int32) (pn : Int32) (pm : Int32) (h0 : Heap) (n0 : Nat) :
    MetFree l (⟨"com/example/tagwire/tagwire/NumberRangeContainsPinLaw", "pick", "(IIII)I"⟩ : MethodName) (head1 (Jvm.Cond.code (⟨"com/example/tagwire/tagwire/NumberRangeContainsPinLaw", "pick", "(IIII)I"⟩ : MethodName) method_2_code 5 (some .int) :: ws) ({ frames := 0, cells := 0, slots := 0, locals := 0 } : Room)) (fun as' U => as' = #[(.int pf), (.int pl), (.int pn), (.int pm)] ∧ Z.Warmed39 U.vm ∧ U.heap = h0) (fun _ _ _ _ _ => True) (fun _ U o U' => ∃ v L, o = .returned v ∧ QP Z pf pl pn pm h0 n0 v U'.heap L ∧ FrameEnd U o U' L ({ frames := 0, cells := 0, slots := 0, locals := 0 } : Room).cells ({ frames := 0, cells := 0, slots := 0, locals := 0 } : Room).slots) := by
  refine MetFree.of_bodySF (plainFor_of_name pn_com_example_tagwire_tagwire_NumberRangeContainsPinLaw) hisR ?_
  intro p e s m args below meth c s₁ Bd hml0 hP hK
  obtain ⟨rfl, hZ, hh⟩ := hP
  have hx := Bd.exec
  have hby := Bd.bytes
  have hml : c.maxLocals = 5 := hml0
  have hown : s.vm.findClass "com/example/tagwire/tagwire/NumberRangeContainsPinLaw" = some m.cls := findClass_of_methodNamed Bd.named
  have hnm := (name_of_methodNamed Bd.named Bd.method).1
  have X0 : Stand p l e ({ frames := 0, cells := 0, slots := 0, locals := 0 } : Room) s m #[(.int pf), (.int pl), (.int pn), (.int pm)] below meth c s₁ [] 0 0 := Stand.of_body Bd
  have e0 : s₁.heap = h0 := by rw [← hh, Bd.state]; rfl
  have N0 := Fr.nil n0
  show Go p e below s (fun v h L => QP Z pf pl pn pm h0 n0 v h L) 0 0 _
  refine Go.pull (V := s₁.setTop (mkF m 0 #[iv pf, iv pl, iv pn, iv pm, .unset] [])) (fun t k => castTop (efP m pf pl pn pm) k) ?_
  refine Go.pull (V := s₁.setTop (mkF m 1 #[iv pf, iv pl, iv pn, iv pm, .unset] [(.int pm)])) (fun t k => XS.iloadN X0.here hx rfl (hb hby dP_0) rfl  k) ?_
  refine Go.pull (V := s₁.setTop (mkF m 3 #[iv pf, iv pl, iv pn, iv pm, .unset] [(.int 7), (.int pm)])) (fun t k => XS.bipush X0.here hx rfl (hb hby dP_1) k) ?_
  refine Go.pull (V := s₁.setTop (mkF m 4 #[iv pf, iv pl, iv pn, iv pm, .unset] [(.int (pm &&& (7 : Int32)))])) (fun t k => XS.iand X0.here hx rfl (hb hby dP_3) rfl k) ?_
  refine Go.pull (V := s₁.setTop (mkF m 6 #[iv pf, iv pl, iv pn, iv pm, iv (pm &&& (7 : Int32))] [])) (fun t k => XS.istore X0.here hx rfl (hb hby dP_4) rfl (l' := #[iv pf, iv pl, iv pn, iv pm, iv (pm &&& (7 : Int32))]) rfl k) ?_
  refine Go.pull (V := s₁.setTop (mkF m 8 #[iv pf, iv pl, iv pn, iv pm, iv (pm &&& (7 : Int32))] [(.int (pm &&& (7 : Int32)))])) (fun t k => XS.iload X0.here hx rfl (hb hby dP_6) rfl  k) ?_
  refine Go.pull (V := s₁.setTop (mkF m 9 #[iv pf, iv pl, iv pn, iv pm, iv (pm &&& (7 : Int32))] [(.int 1), (.int (pm &&& (7 : Int32)))])) (fun t k => XS.iconst X0.here hx rfl (hb hby dP_8) k) ?_
  by_cases hc9_1 : (pm &&& (7 : Int32)) = (1 : Int32)
  · skip
    refine Go.pull (V := s₁.setTop (mkF m 12 #[iv pf, iv pl, iv pn, iv pm, iv (pm &&& (7 : Int32))] [])) (fun t k => XS.icmpNo X0.here hx rfl (hb hby dP_9) rfl (XT.ii_ne_f hc9_1) k) ?_
    refine Go.pull (V := s₁.setTop (mkF m 13 #[iv pf, iv pl, iv pn, iv pm, iv (pm &&& (7 : Int32))] [(.int pf)])) (fun t k => XS.iloadN X0.here hx rfl (hb hby dP_12) rfl  k) ?_
    exact Go.retI X0 hx Bd.notSynchronized Bd.returns (hb hby dP_13) ⟨(by rw [own_pick, if_pos hc9_1] <;> rfl), N0, e0⟩ (by decide) (by decide)
  · skip
    refine Go.pull (V := s₁.setTop (mkF m 14 #[iv pf, iv pl, iv pn, iv pm, iv (pm &&& (7 : Int32))] [])) (fun t k => XS.icmpYes X0.here hx rfl (pc0 := 9) (pc' := 14) rfl (hb hby dP_9) rfl (XT.ii_ne_t hc9_1) (by decide) (by decide) k) ?_
    refine Go.pull (V := s₁.setTop (mkF m 16 #[iv pf, iv pl, iv pn, iv pm, iv (pm &&& (7 : Int32))] [(.int (pm &&& (7 : Int32)))])) (fun t k => XS.iload X0.here hx rfl (hb hby dP_14) rfl  k) ?_
    refine Go.pull (V := s₁.setTop (mkF m 17 #[iv pf, iv pl, iv pn, iv pm, iv (pm &&& (7 : Int32))] [(.int 2), (.int (pm &&& (7 : Int32)))])) (fun t k => XS.iconst X0.here hx rfl (hb hby dP_16) k) ?_
    by_cases hc17_2 : (pm &&& (7 : Int32)) = (2 : Int32)
    · skip
      refine Go.pull (V := s₁.setTop (mkF m 20 #[iv pf, iv pl, iv pn, iv pm, iv (pm &&& (7 : Int32))] [])) (fun t k => XS.icmpNo X0.here hx rfl (hb hby dP_17) rfl (XT.ii_ne_f hc17_2) k) ?_
      refine Go.pull (V := s₁.setTop (mkF m 21 #[iv pf, iv pl, iv pn, iv pm, iv (pm &&& (7 : Int32))] [(.int pl)])) (fun t k => XS.iloadN X0.here hx rfl (hb hby dP_20) rfl  k) ?_
      exact Go.retI X0 hx Bd.notSynchronized Bd.returns (hb hby dP_21) ⟨(by rw [own_pick, if_neg hc9_1, if_pos hc17_2] <;> rfl), N0, e0⟩ (by decide) (by decide)
    · skip
      refine Go.pull (V := s₁.setTop (mkF m 22 #[iv pf, iv pl, iv pn, iv pm, iv (pm &&& (7 : Int32))] [])) (fun t k => XS.icmpYes X0.here hx rfl (pc0 := 17) (pc' := 22) rfl (hb hby dP_17) rfl (XT.ii_ne_t hc17_2) (by decide) (by decide) k) ?_
      refine Go.pull (V := s₁.setTop (mkF m 24 #[iv pf, iv pl, iv pn, iv pm, iv (pm &&& (7 : Int32))] [(.int (pm &&& (7 : Int32)))])) (fun t k => XS.iload X0.here hx rfl (hb hby dP_22) rfl  k) ?_
      refine Go.pull (V := s₁.setTop (mkF m 25 #[iv pf, iv pl, iv pn, iv pm, iv (pm &&& (7 : Int32))] [(.int 3), (.int (pm &&& (7 : Int32)))])) (fun t k => XS.iconst X0.here hx rfl (hb hby dP_24) k) ?_
      by_cases hc25_3 : (pm &&& (7 : Int32)) = (3 : Int32)
      · skip
        refine Go.pull (V := s₁.setTop (mkF m 28 #[iv pf, iv pl, iv pn, iv pm, iv (pm &&& (7 : Int32))] [])) (fun t k => XS.icmpNo X0.here hx rfl (hb hby dP_25) rfl (XT.ii_ne_f hc25_3) k) ?_
        refine Go.pull (V := s₁.setTop (mkF m 29 #[iv pf, iv pl, iv pn, iv pm, iv (pm &&& (7 : Int32))] [(.int pf)])) (fun t k => XS.iloadN X0.here hx rfl (hb hby dP_28) rfl  k) ?_
        refine Go.pull (V := s₁.setTop (mkF m 30 #[iv pf, iv pl, iv pn, iv pm, iv (pm &&& (7 : Int32))] [(.int 1), (.int pf)])) (fun t k => XS.iconst X0.here hx rfl (hb hby dP_29) k) ?_
        refine Go.pull (V := s₁.setTop (mkF m 31 #[iv pf, iv pl, iv pn, iv pm, iv (pm &&& (7 : Int32))] [(.int (pf - (1 : Int32)))])) (fun t k => XS.isub X0.here hx rfl (hb hby dP_30) rfl k) ?_
        exact Go.retI X0 hx Bd.notSynchronized Bd.returns (hb hby dP_31) ⟨(by rw [own_pick, if_neg hc9_1, if_neg hc17_2, if_pos hc25_3] <;> rfl), N0, e0⟩ (by decide) (by decide)
      · skip
        refine Go.pull (V := s₁.setTop (mkF m 32 #[iv pf, iv pl, iv pn, iv pm, iv (pm &&& (7 : Int32))] [])) (fun t k => XS.icmpYes X0.here hx rfl (pc0 := 25) (pc' := 32) rfl (hb hby dP_25) rfl (XT.ii_ne_t hc25_3) (by decide) (by decide) k) ?_
        refine Go.pull (V := s₁.setTop (mkF m 34 #[iv pf, iv pl, iv pn, iv pm, iv (pm &&& (7 : Int32))] [(.int (pm &&& (7 : Int32)))])) (fun t k => XS.iload X0.here hx rfl (hb hby dP_32) rfl  k) ?_
        refine Go.pull (V := s₁.setTop (mkF m 35 #[iv pf, iv pl, iv pn, iv pm, iv (pm &&& (7 : Int32))] [(.int 4), (.int (pm &&& (7 : Int32)))])) (fun t k => XS.iconst X0.here hx rfl (hb hby dP_34) k) ?_
        by_cases hc35_4 : (pm &&& (7 : Int32)) = (4 : Int32)
        · skip
          refine Go.pull (V := s₁.setTop (mkF m 38 #[iv pf, iv pl, iv pn, iv pm, iv (pm &&& (7 : Int32))] [])) (fun t k => XS.icmpNo X0.here hx rfl (hb hby dP_35) rfl (XT.ii_ne_f hc35_4) k) ?_
          refine Go.pull (V := s₁.setTop (mkF m 39 #[iv pf, iv pl, iv pn, iv pm, iv (pm &&& (7 : Int32))] [(.int pl)])) (fun t k => XS.iloadN X0.here hx rfl (hb hby dP_38) rfl  k) ?_
          refine Go.pull (V := s₁.setTop (mkF m 40 #[iv pf, iv pl, iv pn, iv pm, iv (pm &&& (7 : Int32))] [(.int 1), (.int pl)])) (fun t k => XS.iconst X0.here hx rfl (hb hby dP_39) k) ?_
          refine Go.pull (V := s₁.setTop (mkF m 41 #[iv pf, iv pl, iv pn, iv pm, iv (pm &&& (7 : Int32))] [(.int (pl + (1 : Int32)))])) (fun t k => XS.iadd X0.here hx rfl (hb hby dP_40) rfl k) ?_
          exact Go.retI X0 hx Bd.notSynchronized Bd.returns (hb hby dP_41) ⟨(by rw [own_pick, if_neg hc9_1, if_neg hc17_2, if_neg hc25_3, if_pos hc35_4] <;> rfl), N0, e0⟩ (by decide) (by decide)
        · skip
          refine Go.pull (V := s₁.setTop (mkF m 42 #[iv pf, iv pl, iv pn, iv pm, iv (pm &&& (7 : Int32))] [])) (fun t k => XS.icmpYes X0.here hx rfl (pc0 := 35) (pc' := 42) rfl (hb hby dP_35) rfl (XT.ii_ne_t hc35_4) (by decide) (by decide) k) ?_
          refine Go.pull (V := s₁.setTop (mkF m 43 #[iv pf, iv pl, iv pn, iv pm, iv (pm &&& (7 : Int32))] [(.int pn)])) (fun t k => XS.iloadN X0.here hx rfl (hb hby dP_42) rfl  k) ?_
          exact Go.retI X0 hx Bd.notSynchronized Bd.returns (hb hby dP_43) ⟨(by rw [own_pick, if_neg hc9_1, if_neg hc17_2, if_neg hc25_3, if_neg hc35_4] <;> rfl), N0, e0⟩ (by decide) (by decide)
theorem dR_0 : decode jdk_30_method_1_code 0 = .ok (.aload_n 0, 1) := by decide +kernel
theorem dR_1 : decode jdk_30_method_1_code 1 = .ok (.invokespecial 1, 3) := by decide +kernel
theorem dR_4 : decode jdk_30_method_1_code 4 = .ok (.return_, 1) := by decide +kernel
theorem efR (m : MethodId) (x0 : Addr) : entryFrame m #[(.ref x0)] 1 = mkF m 0 #[rv x0] [] := by first | (simp [entryFrame, mkF, argsToLocals, Value.category]; done) | rfl
theorem pn_java_lang_Record : plainName "java/lang/Record" = true := by first | (simp [plainName, overriddenIn]; done) | decide +kernel
def QR (Z : State) (a : Addr) (h0 : Heap) (n0 : Nat) (v : Option Value) (h : Heap) (L : List Loc) : Prop := v = none ∧ Fr n0 L ∧ h = h0
set_option maxRecDepth 65536 in
set_option maxHeartbeats 40000000 in
theorem rmR (l : Launch) (Z : State) (a0 : Array Value) (hw : ∀ d ∈ tables_1, d.before a0 Z = true) (ws : List Jvm.Cond) (a : Addr) (h0 : Heap) (n0 : Nat) :
    MetFree l (⟨"java/lang/Record", "<init>", "()V"⟩ : MethodName) (head1 (Jvm.Cond.code (⟨"java/lang/Record", "<init>", "()V"⟩ : MethodName) jdk_30_method_1_code 1 none :: ws) ({ frames := 1, cells := 0, slots := 0, locals := 12 } : Room)) (fun as' U => as' = #[(.ref a)] ∧ Z.Warmed39 U.vm ∧ U.heap = h0) (fun _ _ _ _ _ => True) (fun _ U o U' => ∃ v L, o = .returned v ∧ QR Z a h0 n0 v U'.heap L ∧ FrameEnd U o U' L ({ frames := 1, cells := 0, slots := 0, locals := 12 } : Room).cells ({ frames := 1, cells := 0, slots := 0, locals := 12 } : Room).slots) := by
  refine MetFree.of_bodySF (plainFor_of_name pn_java_lang_Record) hisR ?_
  intro p e s m args below meth c s₁ Bd hml0 hP hK
  obtain ⟨rfl, hZ, hh⟩ := hP
  have hx := Bd.exec
  have hby := Bd.bytes
  have hml : c.maxLocals = 1 := hml0
  have hown : s.vm.findClass "java/lang/Record" = some m.cls := findClass_of_methodNamed Bd.named
  have hnm := (name_of_methodNamed Bd.named Bd.method).1
  have X0 : Stand p l e ({ frames := 1, cells := 0, slots := 0, locals := 12 } : Room) s m #[(.ref a)] below meth c s₁ [] 0 0 := Stand.of_body Bd
  have e0 : s₁.heap = h0 := by rw [← hh, Bd.state]; rfl
  have N0 := Fr.nil n0
  show Go p e below s (fun v h L => QR Z a h0 n0 v h L) 0 0 _
  refine Go.pull (V := s₁.setTop (mkF m 0 #[rv a] [])) (fun t k => castTop (efR m a) k) ?_
  refine Go.pull (V := s₁.setTop (mkF m 1 #[rv a] [(.ref a)])) (fun t k => XS.aloadN X0.here hx rfl (hb hby dR_0) rfl rfl k) ?_
  obtain ⟨T1, X1, e1, st1⟩ := initO X0 hx hZ hown (hw _ (List.mem_of_getElem? (i := 15) rfl)) (hw _ (List.mem_of_getElem? (i := 16) rfl)) (hw _ (List.mem_of_getElem? (i := 17) rfl)) e0 (g := (mkF m 1 #[rv a] [(.ref a)])) rfl (by rw [hml]; rfl) rfl (hb hby dR_1) (by decide) (W := 0) (by show 2 * 0 + _ ≤ _; exact Nat.le_of_eq rfl) (by decide)
  refine Go.pull (V := T1.setTop (mkF m 4 #[rv a] [])) st1 ?_
  exact Go.ret0 X1 hx Bd.notSynchronized Bd.returns (hb hby dR_4) ⟨rfl, N0, e1⟩ (by decide) (by decide)
theorem dI_0 : decode prog_22_method_1_code 0 = .ok (.aload_n 0, 1) := by decide +kernel
theorem dI_1 : decode prog_22_method_1_code 1 = .ok (.invokespecial 1, 3) := by decide +kernel
theorem dI_4 : decode prog_22_method_1_code 4 = .ok (.aload_n 0, 1) := by decide +kernel
theorem dI_5 : decode prog_22_method_1_code 5 = .ok (.iload_n 1, 1) := by decide +kernel
theorem dI_6 : decode prog_22_method_1_code 6 = .ok (.putfield 7, 3) := by decide +kernel
theorem dI_9 : decode prog_22_method_1_code 9 = .ok (.aload_n 0, 1) := by decide +kernel
theorem dI_10 : decode prog_22_method_1_code 10 = .ok (.iload_n 2, 1) := by decide +kernel
theorem dI_11 : decode prog_22_method_1_code 11 = .ok (.putfield 13, 3) := by decide +kernel
theorem dI_14 : decode prog_22_method_1_code 14 = .ok (.return_, 1) := by decide +kernel
theorem efI (m : MethodId) (x0 : Addr) (x1 : Int32) (x2 : Int32) : entryFrame m #[(.ref x0), (.int x1), (.int x2)] 3 = mkF m 0 #[rv x0, iv x1, iv x2] [] := by first | (simp [entryFrame, mkF, argsToLocals, Value.category]; done) | rfl
theorem pn_com_example_tagwire_tagwire_NumberRange : plainName "com/example/tagwire/tagwire/NumberRange" = true := by first | (simp [plainName, overriddenIn]; done) | decide +kernel
def QI (Z : State) (a : Addr) (pf : Int32) (pl : Int32) (ua : Value) (ub : Value) (h0 : Heap) (n0 : Nat) (v : Option Value) (h : Heap) (L : List Loc) : Prop := v = none ∧ Fr n0 L ∧ Keep h0 h [a] ∧ Fld Z h a "com/example/tagwire/tagwire/NumberRange" "first" "I" (.int pf) ∧ Fld Z h a "com/example/tagwire/tagwire/NumberRange" "last" "I" (.int pl)
set_option maxRecDepth 65536 in
set_option maxHeartbeats 40000000 in
theorem rmI (l : Launch) (Z : State) (a0 : Array Value) (hw : ∀ d ∈ tables_1, d.before a0 Z = true) (ws : List Jvm.Cond) (a : Addr) (pf : Int32) (pl : Int32) (ua : Value) (ub : Value) (h0 : Heap) (n0 : Nat) (g_a : n0 ≤ a) (Ea : Exa Z h0 a "com/example/tagwire/tagwire/NumberRange") (Fu : Fld Z h0 a "com/example/tagwire/tagwire/NumberRange" "first" "I" ua) (Fv : Fld Z h0 a "com/example/tagwire/tagwire/NumberRange" "last" "I" ub) :
    MetFree l (⟨"com/example/tagwire/tagwire/NumberRange", "<init>", "(II)V"⟩ : MethodName) (head1 (Jvm.Cond.code (⟨"com/example/tagwire/tagwire/NumberRange", "<init>", "(II)V"⟩ : MethodName) prog_22_method_1_code 3 none :: ws) ({ frames := 2, cells := 0, slots := 0, locals := 24 } : Room)) (fun as' U => as' = #[(.ref a), (.int pf), (.int pl)] ∧ Z.Warmed39 U.vm ∧ U.heap = h0) (fun _ _ _ _ _ => True) (fun _ U o U' => ∃ v L, o = .returned v ∧ QI Z a pf pl ua ub h0 n0 v U'.heap L ∧ FrameEnd U o U' L ({ frames := 2, cells := 0, slots := 0, locals := 24 } : Room).cells ({ frames := 2, cells := 0, slots := 0, locals := 24 } : Room).slots) := by
  refine MetFree.of_bodySF (plainFor_of_name pn_com_example_tagwire_tagwire_NumberRange) hisR ?_
  intro p e s m args below meth c s₁ Bd hml0 hP hK
  obtain ⟨rfl, hZ, hh⟩ := hP
  have hx := Bd.exec
  have hby := Bd.bytes
  have hml : c.maxLocals = 3 := hml0
  have hown : s.vm.findClass "com/example/tagwire/tagwire/NumberRange" = some m.cls := findClass_of_methodNamed Bd.named
  have hnm := (name_of_methodNamed Bd.named Bd.method).1
  have X0 : Stand p l e ({ frames := 2, cells := 0, slots := 0, locals := 24 } : Room) s m #[(.ref a), (.int pf), (.int pl)] below meth c s₁ [] 0 0 := Stand.of_body Bd
  have e0 : s₁.heap = h0 := by rw [← hh, Bd.state]; rfl
  have N0 := Fr.nil n0
  show Go p e below s (fun v h L => QI Z a pf pl ua ub h0 n0 v h L) 0 0 _
  refine Go.pull (V := s₁.setTop (mkF m 0 #[rv a, iv pf, iv pl] [])) (fun t k => castTop (efI m a pf pl) k) ?_
  refine Go.pull (V := s₁.setTop (mkF m 1 #[rv a, iv pf, iv pl] [(.ref a)])) (fun t k => XS.aloadN X0.here hx rfl (hb hby dI_0) rfl rfl k) ?_
  obtain ⟨_, _, ⟨T1, L1, k1, n1⟩, -, X1, ⟨Lc1, hQ1, l1, y1, z1⟩, st1⟩ := X0.specialBack hx (y := (⟨"java/lang/Record", "<init>", "()V"⟩ : MethodName)) rfl hown (mvT hZ (hw _ (List.mem_of_getElem? (i := 10) rfl))) (mvT hZ (hw _ (List.mem_of_getElem? (i := 11) rfl))) (mvT hZ (hw _ (List.mem_of_getElem? (i := 14) rfl))) (by decide) (backOf (W := 0) (rmR l Z a0 hw [] a h0 n0 ) hZ (hw _ (List.mem_of_getElem? (i := 14) rfl)) (hw _ (List.mem_of_getElem? (i := 13) rfl)) (by decide) (by decide)) (g := (mkF m 1 #[rv a, iv pf, iv pl] [(.ref a)])) rfl (by rw [hml]; rfl) (Steps.refl _) (a := a) (argsL := []) (rest := []) (lenOf pd_0 rfl) rfl (by show 2 * 0 + _ ≤ _; exact Nat.le_of_eq rfl) (hb hby dI_1) (fun _ _ => ⟨rfl, e0, (by decide : 0 + 0 ≤ _), (by decide : 0 + 0 ≤ _)⟩)
  dsimp only [Pt.U, Pt.locs, Pt.cells, Pt.slots] at X1 l1 y1 z1 st1 hQ1
  subst l1 y1 z1
  obtain ⟨rfl, N1q, e1⟩ := hQ1
  have N1 := Fr.app N0 N1q
  refine Go.pull (V := T1.setTop (mkF m 4 #[rv a, iv pf, iv pl] [])) (fun _ k => st1.trans k) ?_
  refine Go.pull (V := T1.setTop (mkF m 5 #[rv a, iv pf, iv pl] [(.ref a)])) (fun t k => XS.aloadN X1.here hx rfl (hb hby dI_4) rfl rfl k) ?_
  refine Go.pull (V := T1.setTop (mkF m 6 #[rv a, iv pf, iv pl] [(.int pf), (.ref a)])) (fun t k => XS.iloadN X1.here hx rfl (hb hby dI_5) rfl  k) ?_
  obtain ⟨T2, h2, X2, e2, W2, st2⟩ := putF X1 hx hZ hown (host := "") (Or.inl (hw _ (List.mem_of_getElem? (i := 18) rfl))) Via.refl e1 Fu Ea (Or.inr ⟨(hw _ (List.mem_of_getElem? (i := 19) rfl)), rfl, hnm⟩) (hw _ (List.mem_of_getElem? (i := 5) rfl)) (ty := .int) (by decide) rfl rfl (g := (mkF m 6 #[rv a, iv pf, iv pl] [(.int pf), (.ref a)])) rfl rfl (hb hby dI_6)
  have Fw2 : Fld Z h2 a "com/example/tagwire/tagwire/NumberRange" "first" "I" (.int pf) := Fu.same W2
  have K2 : Keep h0 h2 [a] := (Keep.refl h0 [a]).wr W2 (Or.inl (List.mem_of_getElem? (i := 0) rfl))
  have N2 := Fr.snoc X2 N1 g_a
  refine Go.pull (V := T2.setTop (mkF m 9 #[rv a, iv pf, iv pl] [])) st2 ?_
  refine Go.pull (V := T2.setTop (mkF m 10 #[rv a, iv pf, iv pl] [(.ref a)])) (fun t k => XS.aloadN X2.here hx rfl (hb hby dI_9) rfl rfl k) ?_
  refine Go.pull (V := T2.setTop (mkF m 11 #[rv a, iv pf, iv pl] [(.int pl), (.ref a)])) (fun t k => XS.iloadN X2.here hx rfl (hb hby dI_10) rfl  k) ?_
  obtain ⟨T3, h3, X3, e3, W3, st3⟩ := putF X2 hx hZ hown (host := "") (Or.inl (hw _ (List.mem_of_getElem? (i := 20) rfl))) Via.refl e2 (Fv.other W2 (Or.inr (slot_ne (Or.inr (hw _ (List.mem_of_getElem? (i := 21) rfl))) (Or.inr (hw _ (List.mem_of_getElem? (i := 19) rfl))) (by decide) (t := .int) (t' := .int) (by decide) (by decide)))) (Ea.wr W2) (Or.inr ⟨(hw _ (List.mem_of_getElem? (i := 21) rfl)), rfl, hnm⟩) (hw _ (List.mem_of_getElem? (i := 5) rfl)) (ty := .int) (by decide) rfl rfl (g := (mkF m 11 #[rv a, iv pf, iv pl] [(.int pl), (.ref a)])) rfl rfl (hb hby dI_11)
  have Fw3 : Fld Z h3 a "com/example/tagwire/tagwire/NumberRange" "last" "I" (.int pl) := (Fv.other W2 (Or.inr (slot_ne (Or.inr (hw _ (List.mem_of_getElem? (i := 21) rfl))) (Or.inr (hw _ (List.mem_of_getElem? (i := 19) rfl))) (by decide) (t := .int) (t' := .int) (by decide) (by decide)))).same W3
  have K3 : Keep h0 h3 [a] := K2.wr W3 (Or.inl (List.mem_of_getElem? (i := 0) rfl))
  have N3 := Fr.snoc X3 N2 g_a
  refine Go.pull (V := T3.setTop (mkF m 14 #[rv a, iv pf, iv pl] [])) st3 ?_
  exact Go.ret0 X3 hx Bd.notSynchronized Bd.returns (hb hby dI_14) (by rw [e3]; exact ⟨rfl, N3, K3, (Fw2.other W3 (Or.inr (slot_ne (Or.inr (hw _ (List.mem_of_getElem? (i := 19) rfl))) (Or.inr (hw _ (List.mem_of_getElem? (i := 21) rfl))) (by decide) (t := .int) (t' := .int) (by decide) (by decide)))), Fw3⟩) (by decide) (by decide)
theorem dA_0 : decode prog_22_method_2_code 0 = .ok (.aload_n 0, 1) := by decide +kernel
theorem dA_1 : decode prog_22_method_2_code 1 = .ok (.getfield 7, 3) := by decide +kernel
theorem dA_4 : decode prog_22_method_2_code 4 = .ok (.iload_n 1, 1) := by decide +kernel
theorem dA_5 : decode prog_22_method_2_code 5 = .ok (.if_icmp .gt 15, 3) := by decide +kernel
theorem dA_8 : decode prog_22_method_2_code 8 = .ok (.iload_n 1, 1) := by decide +kernel
theorem dA_9 : decode prog_22_method_2_code 9 = .ok (.aload_n 0, 1) := by decide +kernel
theorem dA_10 : decode prog_22_method_2_code 10 = .ok (.getfield 13, 3) := by decide +kernel
theorem dA_13 : decode prog_22_method_2_code 13 = .ok (.if_icmp .gt 7, 3) := by decide +kernel
theorem dA_16 : decode prog_22_method_2_code 16 = .ok (.iconst 1, 1) := by decide +kernel
theorem dA_17 : decode prog_22_method_2_code 17 = .ok (.goto 4, 3) := by decide +kernel
theorem dA_20 : decode prog_22_method_2_code 20 = .ok (.iconst 0, 1) := by decide +kernel
theorem dA_21 : decode prog_22_method_2_code 21 = .ok (.ireturn, 1) := by decide +kernel
theorem efA (m : MethodId) (x0 : Addr) (x1 : Int32) : entryFrame m #[(.ref x0), (.int x1)] 2 = mkF m 0 #[rv x0, iv x1] [] := by first | (simp [entryFrame, mkF, argsToLocals, Value.category]; done) | rfl
def QA (Z : State) (a : Addr) (pv : Int32) (pf : Int32) (pl : Int32) (h0 : Heap) (n0 : Nat) (v : Option Value) (h : Heap) (L : List Loc) : Prop := v = some (.int (own_in pf pl pv)) ∧ Fr n0 L ∧ h = h0
set_option maxRecDepth 65536 in
set_option maxHeartbeats 40000000 in
theorem rmA (l : Launch) (Z : State) (a0 : Array Value) (hw : ∀ d ∈ tables_1, d.before a0 Z = true) (ws : List Jvm.Cond) (a : Addr) (pv : Int32) (pf : Int32) (pl : Int32) (h0 : Heap) (n0 : Nat) (Fp : Fld Z h0 a "com/example/tagwire/tagwire/NumberRange" "first" "I" (.int pf)) (Fq : Fld Z h0 a "com/example/tagwire/tagwire/NumberRange" "last" "I" (.int pl)) :
    MetFree l (⟨"com/example/tagwire/tagwire/NumberRange", "contains", "(I)Z"⟩ : MethodName) (head1 (Jvm.Cond.code (⟨"com/example/tagwire/tagwire/NumberRange", "contains", "(I)Z"⟩ : MethodName) prog_22_method_2_code 2 (some .boolean) :: ws) ({ frames := 0, cells := 0, slots := 0, locals := 0 } : Room)) (fun as' U => as' = #[(.ref a), (.int pv)] ∧ Z.Warmed39 U.vm ∧ U.heap = h0) (fun _ _ _ _ _ => True) (fun _ U o U' => ∃ v L, o = .returned v ∧ QA Z a pv pf pl h0 n0 v U'.heap L ∧ FrameEnd U o U' L ({ frames := 0, cells := 0, slots := 0, locals := 0 } : Room).cells ({ frames := 0, cells := 0, slots := 0, locals := 0 } : Room).slots) := by
  refine MetFree.of_bodySF (plainFor_of_name pn_com_example_tagwire_tagwire_NumberRange) hisR ?_
  intro p e s m args below meth c s₁ Bd hml0 hP hK
  obtain ⟨rfl, hZ, hh⟩ := hP
  have hx := Bd.exec
  have hby := Bd.bytes
  have hml : c.maxLocals = 2 := hml0
  have hown : s.vm.findClass "com/example/tagwire/tagwire/NumberRange" = some m.cls := findClass_of_methodNamed Bd.named
  have hnm := (name_of_methodNamed Bd.named Bd.method).1
  have X0 : Stand p l e ({ frames := 0, cells := 0, slots := 0, locals := 0 } : Room) s m #[(.ref a), (.int pv)] below meth c s₁ [] 0 0 := Stand.of_body Bd
  have e0 : s₁.heap = h0 := by rw [← hh, Bd.state]; rfl
  have N0 := Fr.nil n0
  show Go p e below s (fun v h L => QA Z a pv pf pl h0 n0 v h L) 0 0 _
  refine Go.pull (V := s₁.setTop (mkF m 0 #[rv a, iv pv] [])) (fun t k => castTop (efA m a pv) k) ?_
  refine Go.pull (V := s₁.setTop (mkF m 1 #[rv a, iv pv] [(.ref a)])) (fun t k => XS.aloadN X0.here hx rfl (hb hby dA_0) rfl rfl k) ?_
  obtain ⟨T1, X1, e1, st1⟩ := getF X0 hx hZ hown (host := "") (Or.inl (hw _ (List.mem_of_getElem? (i := 18) rfl))) Via.refl e0 Fp (g := (mkF m 1 #[rv a, iv pv] [(.ref a)])) rfl rfl (hb hby dA_1)
  refine Go.pull (V := T1.setTop (mkF m 4 #[rv a, iv pv] [(.int pf)])) st1 ?_
  refine Go.pull (V := T1.setTop (mkF m 5 #[rv a, iv pv] [(.int pv), (.int pf)])) (fun t k => XS.iloadN X1.here hx rfl (hb hby dA_4) rfl  k) ?_
  by_cases hc5_2 : pv < pf
  · skip
    refine Go.pull (V := T1.setTop (mkF m 20 #[rv a, iv pv] [])) (fun t k => XS.icmpYes X1.here hx rfl (pc0 := 5) (pc' := 20) rfl (hb hby dA_5) rfl (XT.ii_gt_t hc5_2) (by decide) (by decide) k) ?_
    refine Go.pull (V := T1.setTop (mkF m 21 #[rv a, iv pv] [(.int 0)])) (fun t k => XS.iconst X1.here hx rfl (hb hby dA_20) k) ?_
    exact Go.retN X1 hx Bd.notSynchronized (t := .boolean) Bd.returns (by simp) (hb hby dA_21) ⟨(by rw [own_in, if_pos hc5_2] <;> rfl), N0, e1⟩ (by decide) (by decide)
  · skip
    refine Go.pull (V := T1.setTop (mkF m 8 #[rv a, iv pv] [])) (fun t k => XS.icmpNo X1.here hx rfl (hb hby dA_5) rfl (XT.ii_gt_f hc5_2) k) ?_
    refine Go.pull (V := T1.setTop (mkF m 9 #[rv a, iv pv] [(.int pv)])) (fun t k => XS.iloadN X1.here hx rfl (hb hby dA_8) rfl  k) ?_
    refine Go.pull (V := T1.setTop (mkF m 10 #[rv a, iv pv] [(.ref a), (.int pv)])) (fun t k => XS.aloadN X1.here hx rfl (hb hby dA_9) rfl rfl k) ?_
    obtain ⟨T3, X3, e3, st3⟩ := getF X1 hx hZ hown (host := "") (Or.inl (hw _ (List.mem_of_getElem? (i := 20) rfl))) Via.refl e1 Fq (g := (mkF m 10 #[rv a, iv pv] [(.ref a), (.int pv)])) rfl rfl (hb hby dA_10)
    refine Go.pull (V := T3.setTop (mkF m 13 #[rv a, iv pv] [(.int pl), (.int pv)])) st3 ?_
    by_cases hc13_4 : pl < pv
    · skip
      refine Go.pull (V := T3.setTop (mkF m 20 #[rv a, iv pv] [])) (fun t k => XS.icmpYes X3.here hx rfl (pc0 := 13) (pc' := 20) rfl (hb hby dA_13) rfl (XT.ii_gt_t hc13_4) (by decide) (by decide) k) ?_
      refine Go.pull (V := T3.setTop (mkF m 21 #[rv a, iv pv] [(.int 0)])) (fun t k => XS.iconst X3.here hx rfl (hb hby dA_20) k) ?_
      exact Go.retN X3 hx Bd.notSynchronized (t := .boolean) Bd.returns (by simp) (hb hby dA_21) ⟨(by rw [own_in, if_neg hc5_2, if_pos hc13_4] <;> rfl), N0, e3⟩ (by decide) (by decide)
    · skip
      refine Go.pull (V := T3.setTop (mkF m 16 #[rv a, iv pv] [])) (fun t k => XS.icmpNo X3.here hx rfl (hb hby dA_13) rfl (XT.ii_gt_f hc13_4) k) ?_
      refine Go.pull (V := T3.setTop (mkF m 17 #[rv a, iv pv] [(.int 1)])) (fun t k => XS.iconst X3.here hx rfl (hb hby dA_16) k) ?_
      refine Go.pull (V := T3.setTop (mkF m 21 #[rv a, iv pv] [(.int 1)])) (fun t k => XS.goto X3.here hx rfl (pc0 := 17) (pc' := 21) rfl (hb hby dA_17) (by decide) (by decide) k) ?_
      exact Go.retN X3 hx Bd.notSynchronized (t := .boolean) Bd.returns (by simp) (hb hby dA_21) ⟨(by rw [own_in, if_neg hc5_2, if_neg hc13_4] <;> rfl), N0, e3⟩ (by decide) (by decide)
theorem dX_0 : decode jdk_29_method_65_code 0 = .ok (.iload_n 0, 1) := by decide +kernel
theorem dX_1 : decode jdk_29_method_65_code 1 = .ok (.iload_n 1, 1) := by decide +kernel
theorem dX_2 : decode jdk_29_method_65_code 2 = .ok (.if_icmp .lt 7, 3) := by decide +kernel
theorem dX_5 : decode jdk_29_method_65_code 5 = .ok (.iload_n 0, 1) := by decide +kernel
theorem dX_6 : decode jdk_29_method_65_code 6 = .ok (.goto 4, 3) := by decide +kernel
theorem dX_9 : decode jdk_29_method_65_code 9 = .ok (.iload_n 1, 1) := by decide +kernel
theorem dX_10 : decode jdk_29_method_65_code 10 = .ok (.ireturn, 1) := by decide +kernel
theorem efX (m : MethodId) (x0 : Int32) (x1 : Int32) : entryFrame m #[(.int x0), (.int x1)] 2 = mkF m 0 #[iv x0, iv x1] [] := by first | (simp [entryFrame, mkF, argsToLocals, Value.category]; done) | rfl
def QX (Z : State) (pa : Int32) (pb : Int32) (h0 : Heap) (n0 : Nat) (v : Option Value) (h : Heap) (L : List Loc) : Prop := v = some (.int (own_max pa pb)) ∧ Fr n0 L ∧ h = h0
set_option maxRecDepth 65536 in
set_option maxHeartbeats 40000000 in
theorem rmX (l : Launch) (Z : State) (a0 : Array Value) (hw : ∀ d ∈ tables_1, d.before a0 Z = true) (ws : List Jvm.Cond) (pa : Int32) (pb : Int32) (h0 : Heap) (n0 : Nat) :
    MetFree l (⟨"java/lang/Math", "max", "(II)I"⟩ : MethodName) (head1 (Jvm.Cond.code (⟨"java/lang/Math", "max", "(II)I"⟩ : MethodName) jdk_29_method_65_code 2 (some .int) :: ws) ({ frames := 0, cells := 0, slots := 0, locals := 0 } : Room)) (fun as' U => as' = #[(.int pa), (.int pb)] ∧ Z.Warmed39 U.vm ∧ U.heap = h0) (fun _ _ _ _ _ => True) (fun _ U o U' => ∃ v L, o = .returned v ∧ QX Z pa pb h0 n0 v U'.heap L ∧ FrameEnd U o U' L ({ frames := 0, cells := 0, slots := 0, locals := 0 } : Room).cells ({ frames := 0, cells := 0, slots := 0, locals := 0 } : Room).slots) := by
  refine MetFree.of_bodySF (Jvm.Free.JP.mathPlain rfl (by decide +kernel)) hisR ?_
  intro p e s m args below meth c s₁ Bd hml0 hP hK
  obtain ⟨rfl, hZ, hh⟩ := hP
  have hx := Bd.exec
  have hby := Bd.bytes
  have hml : c.maxLocals = 2 := hml0
  have hown : s.vm.findClass "java/lang/Math" = some m.cls := findClass_of_methodNamed Bd.named
  have hnm := (name_of_methodNamed Bd.named Bd.method).1
  have X0 : Stand p l e ({ frames := 0, cells := 0, slots := 0, locals := 0 } : Room) s m #[(.int pa), (.int pb)] below meth c s₁ [] 0 0 := Stand.of_body Bd
  have e0 : s₁.heap = h0 := by rw [← hh, Bd.state]; rfl
  have N0 := Fr.nil n0
  show Go p e below s (fun v h L => QX Z pa pb h0 n0 v h L) 0 0 _
  refine Go.pull (V := s₁.setTop (mkF m 0 #[iv pa, iv pb] [])) (fun t k => castTop (efX m pa pb) k) ?_
  refine Go.pull (V := s₁.setTop (mkF m 1 #[iv pa, iv pb] [(.int pa)])) (fun t k => XS.iloadN X0.here hx rfl (hb hby dX_0) rfl  k) ?_
  refine Go.pull (V := s₁.setTop (mkF m 2 #[iv pa, iv pb] [(.int pb), (.int pa)])) (fun t k => XS.iloadN X0.here hx rfl (hb hby dX_1) rfl  k) ?_
  by_cases hc2_1 : pa < pb
  · skip
    refine Go.pull (V := s₁.setTop (mkF m 9 #[iv pa, iv pb] [])) (fun t k => XS.icmpYes X0.here hx rfl (pc0 := 2) (pc' := 9) rfl (hb hby dX_2) rfl (XT.ii_lt_t hc2_1) (by decide) (by decide) k) ?_
    refine Go.pull (V := s₁.setTop (mkF m 10 #[iv pa, iv pb] [(.int pb)])) (fun t k => XS.iloadN X0.here hx rfl (hb hby dX_9) rfl  k) ?_
    exact Go.retI X0 hx Bd.notSynchronized Bd.returns (hb hby dX_10) ⟨(by rw [own_max, if_pos hc2_1] <;> rfl), N0, e0⟩ (by decide) (by decide)
  · skip
    refine Go.pull (V := s₁.setTop (mkF m 5 #[iv pa, iv pb] [])) (fun t k => XS.icmpNo X0.here hx rfl (hb hby dX_2) rfl (XT.ii_lt_f hc2_1) k) ?_
    refine Go.pull (V := s₁.setTop (mkF m 6 #[iv pa, iv pb] [(.int pa)])) (fun t k => XS.iloadN X0.here hx rfl (hb hby dX_5) rfl  k) ?_
    refine Go.pull (V := s₁.setTop (mkF m 10 #[iv pa, iv pb] [(.int pa)])) (fun t k => XS.goto X0.here hx rfl (pc0 := 6) (pc' := 10) rfl (hb hby dX_6) (by decide) (by decide) k) ?_
    exact Go.retI X0 hx Bd.notSynchronized Bd.returns (hb hby dX_10) ⟨(by rw [own_max, if_neg hc2_1] <;> rfl), N0, e0⟩ (by decide) (by decide)
theorem dY_0 : decode jdk_29_method_69_code 0 = .ok (.iload_n 0, 1) := by decide +kernel
theorem dY_1 : decode jdk_29_method_69_code 1 = .ok (.iload_n 1, 1) := by decide +kernel
theorem dY_2 : decode jdk_29_method_69_code 2 = .ok (.if_icmp .gt 7, 3) := by decide +kernel
theorem dY_5 : decode jdk_29_method_69_code 5 = .ok (.iload_n 0, 1) := by decide +kernel
theorem dY_6 : decode jdk_29_method_69_code 6 = .ok (.goto 4, 3) := by decide +kernel
theorem dY_9 : decode jdk_29_method_69_code 9 = .ok (.iload_n 1, 1) := by decide +kernel
theorem dY_10 : decode jdk_29_method_69_code 10 = .ok (.ireturn, 1) := by decide +kernel
theorem efY (m : MethodId) (x0 : Int32) (x1 : Int32) : entryFrame m #[(.int x0), (.int x1)] 2 = mkF m 0 #[iv x0, iv x1] [] := by first | (simp [entryFrame, mkF, argsToLocals, Value.category]; done) | rfl
def QY (Z : State) (pa : Int32) (pb : Int32) (h0 : Heap) (n0 : Nat) (v : Option Value) (h : Heap) (L : List Loc) : Prop := v = some (.int (own_min pa pb)) ∧ Fr n0 L ∧ h = h0
set_option maxRecDepth 65536 in
set_option maxHeartbeats 40000000 in
theorem rmY (l : Launch) (Z : State) (a0 : Array Value) (hw : ∀ d ∈ tables_1, d.before a0 Z = true) (ws : List Jvm.Cond) (pa : Int32) (pb : Int32) (h0 : Heap) (n0 : Nat) :
    MetFree l (⟨"java/lang/Math", "min", "(II)I"⟩ : MethodName) (head1 (Jvm.Cond.code (⟨"java/lang/Math", "min", "(II)I"⟩ : MethodName) jdk_29_method_69_code 2 (some .int) :: ws) ({ frames := 0, cells := 0, slots := 0, locals := 0 } : Room)) (fun as' U => as' = #[(.int pa), (.int pb)] ∧ Z.Warmed39 U.vm ∧ U.heap = h0) (fun _ _ _ _ _ => True) (fun _ U o U' => ∃ v L, o = .returned v ∧ QY Z pa pb h0 n0 v U'.heap L ∧ FrameEnd U o U' L ({ frames := 0, cells := 0, slots := 0, locals := 0 } : Room).cells ({ frames := 0, cells := 0, slots := 0, locals := 0 } : Room).slots) := by
  refine MetFree.of_bodySF (Jvm.Free.JP.mathPlain rfl (by decide +kernel)) hisR ?_
  intro p e s m args below meth c s₁ Bd hml0 hP hK
  obtain ⟨rfl, hZ, hh⟩ := hP
  have hx := Bd.exec
  have hby := Bd.bytes
  have hml : c.maxLocals = 2 := hml0
  have hown : s.vm.findClass "java/lang/Math" = some m.cls := findClass_of_methodNamed Bd.named
  have hnm := (name_of_methodNamed Bd.named Bd.method).1
  have X0 : Stand p l e ({ frames := 0, cells := 0, slots := 0, locals := 0 } : Room) s m #[(.int pa), (.int pb)] below meth c s₁ [] 0 0 := Stand.of_body Bd
  have e0 : s₁.heap = h0 := by rw [← hh, Bd.state]; rfl
  have N0 := Fr.nil n0
  show Go p e below s (fun v h L => QY Z pa pb h0 n0 v h L) 0 0 _
  refine Go.pull (V := s₁.setTop (mkF m 0 #[iv pa, iv pb] [])) (fun t k => castTop (efY m pa pb) k) ?_
  refine Go.pull (V := s₁.setTop (mkF m 1 #[iv pa, iv pb] [(.int pa)])) (fun t k => XS.iloadN X0.here hx rfl (hb hby dY_0) rfl  k) ?_
  refine Go.pull (V := s₁.setTop (mkF m 2 #[iv pa, iv pb] [(.int pb), (.int pa)])) (fun t k => XS.iloadN X0.here hx rfl (hb hby dY_1) rfl  k) ?_
  by_cases hc2_1 : pb < pa
  · skip
    refine Go.pull (V := s₁.setTop (mkF m 9 #[iv pa, iv pb] [])) (fun t k => XS.icmpYes X0.here hx rfl (pc0 := 2) (pc' := 9) rfl (hb hby dY_2) rfl (XT.ii_gt_t hc2_1) (by decide) (by decide) k) ?_
    refine Go.pull (V := s₁.setTop (mkF m 10 #[iv pa, iv pb] [(.int pb)])) (fun t k => XS.iloadN X0.here hx rfl (hb hby dY_9) rfl  k) ?_
    exact Go.retI X0 hx Bd.notSynchronized Bd.returns (hb hby dY_10) ⟨(by rw [own_min, if_pos hc2_1] <;> rfl), N0, e0⟩ (by decide) (by decide)
  · skip
    refine Go.pull (V := s₁.setTop (mkF m 5 #[iv pa, iv pb] [])) (fun t k => XS.icmpNo X0.here hx rfl (hb hby dY_2) rfl (XT.ii_gt_f hc2_1) k) ?_
    refine Go.pull (V := s₁.setTop (mkF m 6 #[iv pa, iv pb] [(.int pa)])) (fun t k => XS.iloadN X0.here hx rfl (hb hby dY_5) rfl  k) ?_
    refine Go.pull (V := s₁.setTop (mkF m 10 #[iv pa, iv pb] [(.int pa)])) (fun t k => XS.goto X0.here hx rfl (pc0 := 6) (pc' := 10) rfl (hb hby dY_6) (by decide) (by decide) k) ?_
    exact Go.retI X0 hx Bd.notSynchronized Bd.returns (hb hby dY_10) ⟨(by rw [own_min, if_neg hc2_1] <;> rfl), N0, e0⟩ (by decide) (by decide)
theorem ef0 (m : MethodId) (x0 : Int32) (x1 : Int32) (x2 : Int32) (x3 : Int32) : entryFrame m #[(.int x0), (.int x1), (.int x2), (.int x3)] maxLocals = mkF m 0 #[iv x0, iv x1, iv x2, iv x3, .unset, .unset, .unset, .unset, .unset, .unset] [] := by first | (simp [entryFrame, mkF, argsToLocals, Value.category, maxLocals]; done) | rfl
def Q0 (Z : State) (pf : Int32) (pl : Int32) (pn : Int32) (pm : Int32) (h0 : Heap) (n0 : Nat) (v : Option Value) (h : Heap) (L : List Loc) : Prop := v = some (.int 1) ∧ Fr n0 L
set_option maxRecDepth 65536 in
set_option maxHeartbeats 40000000 in
theorem rm0 (l : Launch) (Z : State) (a0 : Array Value) (hw : ∀ d ∈ tables_1, d.before a0 Z = true) (ws : List Jvm.Cond) (pf : Int32) (pl : Int32) (pn : Int32) (pm : Int32) (h0 : Heap) (n0 : Nat) (Z0 : n0 ≤ h0.size) :
    MetFree l x (head1 (Jvm.Cond.code x code maxLocals ret :: ws) room_1) (fun as' U => as' = #[(.int pf), (.int pl), (.int pn), (.int pm)] ∧ Z.Warmed39 U.vm ∧ U.heap = h0) (fun _ _ _ _ _ => True) (fun _ U o U' => ∃ v L, o = .returned v ∧ Q0 Z pf pl pn pm h0 n0 v U'.heap L ∧ FrameEnd U o U' L 16 128) := by
  refine MetFree.of_bodySF (plainFor_of_name pn_com_example_tagwire_tagwire_NumberRangeContainsPinLaw) hisR ?_
  intro p e s m args below meth c s₁ Bd hml0 hP hK
  obtain ⟨rfl, hZ, hh⟩ := hP
  have hx := Bd.exec
  have hby := Bd.bytes
  have hml : c.maxLocals = 10 := hml0
  have hown : s.vm.findClass "com/example/tagwire/tagwire/NumberRangeContainsPinLaw" = some m.cls := findClass_of_methodNamed Bd.named
  have hnm := (name_of_methodNamed Bd.named Bd.method).1
  have X0 : Stand p l e room_1 s m #[(.int pf), (.int pl), (.int pn), (.int pm)] below meth c s₁ [] 0 0 := Stand.of_body Bd
  have e0 : s₁.heap = h0 := by rw [← hh, Bd.state]; rfl
  have N0 := Fr.nil n0
  show Go p e below s (fun v h L => Q0 Z pf pl pn pm h0 n0 v h L) 16 128 _
  refine Go.pull (V := s₁.setTop (mkF m 0 #[iv pf, iv pl, iv pn, iv pm, .unset, .unset, .unset, .unset, .unset, .unset] [])) (fun t k => castTop (ef0 m pf pl pn pm) k) ?_
  refine Go.pull (V := s₁.setTop (mkF m 1 #[iv pf, iv pl, iv pn, iv pm, .unset, .unset, .unset, .unset, .unset, .unset] [(.int pf)])) (fun t k => XS.iloadN X0.here hx rfl (hb hby at_0) rfl  k) ?_
  refine Go.pull (V := s₁.setTop (mkF m 2 #[iv pf, iv pl, iv pn, iv pm, .unset, .unset, .unset, .unset, .unset, .unset] [(.int pl), (.int pf)])) (fun t k => XS.iloadN X0.here hx rfl (hb hby at_1) rfl  k) ?_
  refine Go.pull (V := s₁.setTop (mkF m 3 #[iv pf, iv pl, iv pn, iv pm, .unset, .unset, .unset, .unset, .unset, .unset] [(.int pn), (.int pl), (.int pf)])) (fun t k => XS.iloadN X0.here hx rfl (hb hby at_2) rfl  k) ?_
  refine Go.pull (V := s₁.setTop (mkF m 4 #[iv pf, iv pl, iv pn, iv pm, .unset, .unset, .unset, .unset, .unset, .unset] [(.int pm), (.int pn), (.int pl), (.int pf)])) (fun t k => XS.iloadN X0.here hx rfl (hb hby at_3) rfl  k) ?_
  obtain ⟨_, _, ⟨T1, L1, k1, n1⟩, -, X1, ⟨Lc1, hQ1, l1, y1, z1⟩, st1⟩ := Jvm.LawKit.callS X0 hx (y := (⟨"com/example/tagwire/tagwire/NumberRangeContainsPinLaw", "pick", "(IIII)I"⟩ : MethodName)) hown (mvT hZ (hw _ (List.mem_of_getElem? (i := 0) rfl))) (mvT hZ (hw _ (List.mem_of_getElem? (i := 1) rfl))) (mvT hZ (hw _ (List.mem_of_getElem? (i := 2) rfl))) (mvT hZ (hw _ (List.mem_of_getElem? (i := 3) rfl))) (by decide) (backOf (W := 0) (rmP l Z a0 hw [] pf pl pn pm h0 n0 ) hZ (hw _ (List.mem_of_getElem? (i := 3) rfl)) (hw _ (List.mem_of_getElem? (i := 2) rfl)) (by decide) (by decide)) (g := (mkF m 4 #[iv pf, iv pl, iv pn, iv pm, .unset, .unset, .unset, .unset, .unset, .unset] [(.int pm), (.int pn), (.int pl), (.int pf)])) rfl (by rw [hml]; rfl) (argsL := [(.int pf), (.int pl), (.int pn), (.int pm)]) (rest := []) (lenOf pd_1 rfl) rfl (by show 2 * 0 + _ ≤ _; exact Nat.le_of_eq rfl) (hb hby at_4) (fun _ _ => ⟨rfl, e0, (by decide : 0 + 0 ≤ _), (by decide : 0 + 0 ≤ _)⟩)
  dsimp only [Pt.U, Pt.locs, Pt.cells, Pt.slots] at X1 l1 y1 z1 st1 hQ1
  subst l1 y1 z1
  obtain ⟨rfl, N1q, e1⟩ := hQ1
  have N1 := Fr.app N0 N1q
  refine Go.pull (V := T1.setTop (mkF m 7 #[iv pf, iv pl, iv pn, iv pm, .unset, .unset, .unset, .unset, .unset, .unset] [(.int (own_pick pf pl pn pm))])) st1 ?_
  refine Go.pull (V := T1.setTop (mkF m 9 #[iv pf, iv pl, iv pn, iv pm, iv (own_pick pf pl pn pm), .unset, .unset, .unset, .unset, .unset] [])) (fun t k => XS.istore X1.here hx rfl (hb hby at_7) rfl (l' := #[iv pf, iv pl, iv pn, iv pm, iv (own_pick pf pl pn pm), .unset, .unset, .unset, .unset, .unset]) rfl k) ?_
  by_cases hp2 : (own_pick pf pl pn pm) < pf
  · skip
    by_cases hp3 : pl < (own_pick pf pl pn pm)
    · skip
      obtain ⟨T4, h4, X4, e4, E4, A4, D4, -, st4⟩ := newO X1 hx hZ hown (hw _ (List.mem_of_getElem? (i := 4) rfl)) (hw _ (List.mem_of_getElem? (i := 5) rfl)) (hw _ (List.mem_of_getElem? (i := 6) rfl)) e1 (g := (mkF m 9 #[iv pf, iv pl, iv pn, iv pm, iv (own_pick pf pl pn pm), .unset, .unset, .unset, .unset, .unset] [])) rfl (hb hby at_9) (by decide) (by decide)
      obtain ⟨b4, g4⟩ : ∃ z, z = h0.size := ⟨_, rfl⟩
      rw [← g4] at A4 D4 st4
      have sz_b4 : h0.size ≤ b4 := Nat.le_trans ((Keep.refl h0 [])).1 (Nat.le_of_eq g4.symm)
      have g_b4 : n0 ≤ b4 := Nat.le_trans Z0 sz_b4
      have K4 : Keep h0 h4 [] := (Keep.refl h0 []).ext E4
      have F5 : Fld Z h4 b4 "com/example/tagwire/tagwire/NumberRange" "first" "I" (.int 0) := D4 (Or.inr (hw _ (List.mem_of_getElem? (i := 19) rfl))) (ty := .int) (by decide)
      have F6 : Fld Z h4 b4 "com/example/tagwire/tagwire/NumberRange" "last" "I" (.int 0) := D4 (Or.inr (hw _ (List.mem_of_getElem? (i := 21) rfl))) (ty := .int) (by decide)
      refine Go.pull (V := T4.setTop (mkF m 12 #[iv pf, iv pl, iv pn, iv pm, iv (own_pick pf pl pn pm), .unset, .unset, .unset, .unset, .unset] [(.ref b4)])) st4 ?_
      refine Go.pull (V := T4.setTop (mkF m 13 #[iv pf, iv pl, iv pn, iv pm, iv (own_pick pf pl pn pm), .unset, .unset, .unset, .unset, .unset] [(.ref b4), (.ref b4)])) (fun t k => XS.dup X4.here hx rfl (hb hby at_12) rfl rfl k) ?_
      refine Go.pull (V := T4.setTop (mkF m 14 #[iv pf, iv pl, iv pn, iv pm, iv (own_pick pf pl pn pm), .unset, .unset, .unset, .unset, .unset] [(.int pf), (.ref b4), (.ref b4)])) (fun t k => XS.iloadN X4.here hx rfl (hb hby at_13) rfl  k) ?_
      refine Go.pull (V := T4.setTop (mkF m 15 #[iv pf, iv pl, iv pn, iv pm, iv (own_pick pf pl pn pm), .unset, .unset, .unset, .unset, .unset] [(.int pl), (.int pf), (.ref b4), (.ref b4)])) (fun t k => XS.iloadN X4.here hx rfl (hb hby at_14) rfl  k) ?_
      obtain ⟨_, _, ⟨T7, L7, k7, n7⟩, -, X7, ⟨Lc7, hQ7, l7, y7, z7⟩, st7⟩ := X4.specialBack hx (y := (⟨"com/example/tagwire/tagwire/NumberRange", "<init>", "(II)V"⟩ : MethodName)) rfl hown (mvT hZ (hw _ (List.mem_of_getElem? (i := 7) rfl))) (mvT hZ (hw _ (List.mem_of_getElem? (i := 8) rfl))) (mvT hZ (hw _ (List.mem_of_getElem? (i := 9) rfl))) (by decide) (backOf (W := 1) (rmI l Z a0 hw [] b4 pf pl (.int 0) (.int 0) h4 n0 (g_b4) A4 F5 F6) hZ (hw _ (List.mem_of_getElem? (i := 9) rfl)) (hw _ (List.mem_of_getElem? (i := 6) rfl)) (by decide) (by decide)) (g := (mkF m 15 #[iv pf, iv pl, iv pn, iv pm, iv (own_pick pf pl pn pm), .unset, .unset, .unset, .unset, .unset] [(.int pl), (.int pf), (.ref b4), (.ref b4)])) rfl (by rw [hml]; rfl) (Steps.refl _) (a := b4) (argsL := [(.int pf), (.int pl)]) (rest := [(.ref b4)]) (lenOf pd_2 rfl) rfl (by show 2 * 0 + _ ≤ _; exact Nat.le_of_eq rfl) (hb hby at_15) (fun _ _ => ⟨rfl, e4, (by decide : 1 + 0 ≤ _), (by decide : 2 + 0 ≤ _)⟩)
      dsimp only [Pt.U, Pt.locs, Pt.cells, Pt.slots] at X7 l7 y7 z7 st7 hQ7
      subst l7 y7 z7
      obtain ⟨rfl, N7q, Kc7, Fc7_0, Fc7_1⟩ := hQ7
      have K7 : Keep h0 T7.heap [] := K4.trans Kc7 ((allS (Or.inr sz_b4) all0))
      have N7 := Fr.app N1 N7q
      refine Go.pull (V := T7.setTop (mkF m 18 #[iv pf, iv pl, iv pn, iv pm, iv (own_pick pf pl pn pm), .unset, .unset, .unset, .unset, .unset] [(.ref b4)])) (fun _ k => st7.trans k) ?_
      refine Go.pull (V := T7.setTop (mkF m 20 #[iv pf, iv pl, iv pn, iv pm, iv (own_pick pf pl pn pm), rv b4, .unset, .unset, .unset, .unset] [])) (fun t k => XS.astore X7.here hx rfl (hb hby at_18) rfl rfl (l' := #[iv pf, iv pl, iv pn, iv pm, iv (own_pick pf pl pn pm), rv b4, .unset, .unset, .unset, .unset]) rfl k) ?_
      refine Go.pull (V := T7.setTop (mkF m 22 #[iv pf, iv pl, iv pn, iv pm, iv (own_pick pf pl pn pm), rv b4, .unset, .unset, .unset, .unset] [(.ref b4)])) (fun t k => XS.aload X7.here hx rfl (hb hby at_20) rfl rfl k) ?_
      refine Go.pull (V := T7.setTop (mkF m 24 #[iv pf, iv pl, iv pn, iv pm, iv (own_pick pf pl pn pm), rv b4, .unset, .unset, .unset, .unset] [(.int (own_pick pf pl pn pm)), (.ref b4)])) (fun t k => XS.iload X7.here hx rfl (hb hby at_22) rfl  k) ?_
      obtain ⟨cq8, kq8, q8a, q8b, q8c⟩ := isOf hZ rfl (A4.keep Kc7)
      obtain ⟨_, _, ⟨T8, L8, k8, n8⟩, -, X8, ⟨Lc8, hQ8, l8, y8, z8⟩, st8⟩ := X7.virtualBack hx (y := (⟨"com/example/tagwire/tagwire/NumberRange", "contains", "(I)Z"⟩ : MethodName)) (z := (⟨"com/example/tagwire/tagwire/NumberRange", "contains", "(I)Z"⟩ : MethodName)) hown (mvT hZ (hw _ (List.mem_of_getElem? (i := 22) rfl))) (mvT hZ (hw _ (List.mem_of_getElem? (i := 23) rfl))) (notFace_of_selects (args := #[]) (mvT hZ (hw _ (List.mem_of_getElem? (i := 25) rfl)))) (mvT hZ (hw _ (List.mem_of_getElem? (i := 25) rfl))) (mvT hZ (hw _ (List.mem_of_getElem? (i := 24) rfl))) (by decide) (backOf (W := 0) (rmA l Z a0 hw [] b4 (own_pick pf pl pn pm) pf pl T7.heap n0 Fc7_0 Fc7_1) hZ (hw _ (List.mem_of_getElem? (i := 26) rfl)) (hw _ (List.mem_of_getElem? (i := 6) rfl)) (by decide) (by decide)) q8a q8c (g := (mkF m 24 #[iv pf, iv pl, iv pn, iv pm, iv (own_pick pf pl pn pm), rv b4, .unset, .unset, .unset, .unset] [(.int (own_pick pf pl pn pm)), (.ref b4)])) rfl (by rw [hml]; rfl) (Steps.refl _) (argsL := [(.int (own_pick pf pl pn pm))]) (rest := []) (lenOf pd_3 rfl) rfl (by show 2 * 0 + _ ≤ _; exact Nat.le_of_eq rfl) (hb hby at_24) (fun _ _ => ⟨rfl, rfl, (by decide : 1 + 0 ≤ _), (by decide : 2 + 0 ≤ _)⟩)
      dsimp only [Pt.U, Pt.locs, Pt.cells, Pt.slots] at X8 l8 y8 z8 st8 hQ8
      subst l8 y8 z8
      obtain ⟨hv8, N8q, e8⟩ := hQ8
      rw [(show (own_in pf pl (own_pick pf pl pn pm)) = (0 : Int32) from by rw [own_in, if_pos hp2])] at hv8; subst hv8
      have N8 := Fr.app N7 N8q
      refine Go.pull (V := T8.setTop (mkF m 27 #[iv pf, iv pl, iv pn, iv pm, iv (own_pick pf pl pn pm), rv b4, .unset, .unset, .unset, .unset] [(.int 0)])) (fun _ k => st8.trans k) ?_
      refine Go.pull (V := T8.setTop (mkF m 29 #[iv pf, iv pl, iv pn, iv pm, iv (own_pick pf pl pn pm), rv b4, iv 0, .unset, .unset, .unset] [])) (fun t k => XS.istore X8.here hx rfl (hb hby at_27) rfl (l' := #[iv pf, iv pl, iv pn, iv pm, iv (own_pick pf pl pn pm), rv b4, iv 0, .unset, .unset, .unset]) rfl k) ?_
      refine Go.pull (V := T8.setTop (mkF m 30 #[iv pf, iv pl, iv pn, iv pm, iv (own_pick pf pl pn pm), rv b4, iv 0, .unset, .unset, .unset] [(.int pf)])) (fun t k => XS.iloadN X8.here hx rfl (hb hby at_29) rfl  k) ?_
      refine Go.pull (V := T8.setTop (mkF m 32 #[iv pf, iv pl, iv pn, iv pm, iv (own_pick pf pl pn pm), rv b4, iv 0, .unset, .unset, .unset] [(.int (own_pick pf pl pn pm)), (.int pf)])) (fun t k => XS.iload X8.here hx rfl (hb hby at_30) rfl  k) ?_
      obtain ⟨_, _, ⟨T9, L9, k9, n9⟩, -, X9, ⟨Lc9, hQ9, l9, y9, z9⟩, st9⟩ := Jvm.LawKit.callS X8 hx (y := (⟨"java/lang/Math", "max", "(II)I"⟩ : MethodName)) hown (mvT hZ (hw _ (List.mem_of_getElem? (i := 27) rfl))) (mvT hZ (hw _ (List.mem_of_getElem? (i := 28) rfl))) (mvT hZ (hw _ (List.mem_of_getElem? (i := 29) rfl))) (mvT hZ (hw _ (List.mem_of_getElem? (i := 30) rfl))) (by decide) (backOf (W := 0) (rmX l Z a0 hw [] pf (own_pick pf pl pn pm) T7.heap n0 ) hZ (hw _ (List.mem_of_getElem? (i := 30) rfl)) (hw _ (List.mem_of_getElem? (i := 29) rfl)) (by decide) (by decide)) (g := (mkF m 32 #[iv pf, iv pl, iv pn, iv pm, iv (own_pick pf pl pn pm), rv b4, iv 0, .unset, .unset, .unset] [(.int (own_pick pf pl pn pm)), (.int pf)])) rfl (by rw [hml]; rfl) (argsL := [(.int pf), (.int (own_pick pf pl pn pm))]) (rest := []) (lenOf pd_4 rfl) rfl (by show 2 * 0 + _ ≤ _; exact Nat.le_of_eq rfl) (hb hby at_32) (fun _ _ => ⟨rfl, e8, (by decide : 1 + 0 ≤ _), (by decide : 2 + 0 ≤ _)⟩)
      dsimp only [Pt.U, Pt.locs, Pt.cells, Pt.slots] at X9 l9 y9 z9 st9 hQ9
      subst l9 y9 z9
      obtain ⟨rfl, N9q, e9⟩ := hQ9
      have N9 := Fr.app N8 N9q
      refine Go.pull (V := T9.setTop (mkF m 35 #[iv pf, iv pl, iv pn, iv pm, iv (own_pick pf pl pn pm), rv b4, iv 0, .unset, .unset, .unset] [(.int (own_max pf (own_pick pf pl pn pm)))])) st9 ?_
      refine Go.pull (V := T9.setTop (mkF m 37 #[iv pf, iv pl, iv pn, iv pm, iv (own_pick pf pl pn pm), rv b4, iv 0, .unset, .unset, .unset] [(.int (own_pick pf pl pn pm)), (.int (own_max pf (own_pick pf pl pn pm)))])) (fun t k => XS.iload X9.here hx rfl (hb hby at_35) rfl  k) ?_
      refine Go.pull (V := T9.setTop (mkF m 44 #[iv pf, iv pl, iv pn, iv pm, iv (own_pick pf pl pn pm), rv b4, iv 0, .unset, .unset, .unset] [])) (fun t k => XS.icmpYes X9.here hx rfl (pc0 := 37) (pc' := 44) rfl (hb hby at_37) rfl (XT.ii_ne_t (own_max_n hp2)) (by decide) (by decide) k) ?_
      refine Go.pull (V := T9.setTop (mkF m 45 #[iv pf, iv pl, iv pn, iv pm, iv (own_pick pf pl pn pm), rv b4, iv 0, .unset, .unset, .unset] [(.int 0)])) (fun t k => XS.iconst X9.here hx rfl (hb hby at_44) k) ?_
      refine Go.pull (V := T9.setTop (mkF m 47 #[iv pf, iv pl, iv pn, iv pm, iv (own_pick pf pl pn pm), rv b4, iv 0, iv 0, .unset, .unset] [])) (fun t k => XS.istore X9.here hx rfl (hb hby at_45) rfl (l' := #[iv pf, iv pl, iv pn, iv pm, iv (own_pick pf pl pn pm), rv b4, iv 0, iv 0, .unset, .unset]) rfl k) ?_
      refine Go.pull (V := T9.setTop (mkF m 49 #[iv pf, iv pl, iv pn, iv pm, iv (own_pick pf pl pn pm), rv b4, iv 0, iv 0, .unset, .unset] [(.int (own_pick pf pl pn pm))])) (fun t k => XS.iload X9.here hx rfl (hb hby at_47) rfl  k) ?_
      refine Go.pull (V := T9.setTop (mkF m 50 #[iv pf, iv pl, iv pn, iv pm, iv (own_pick pf pl pn pm), rv b4, iv 0, iv 0, .unset, .unset] [(.int pl), (.int (own_pick pf pl pn pm))])) (fun t k => XS.iloadN X9.here hx rfl (hb hby at_49) rfl  k) ?_
      obtain ⟨_, _, ⟨T10, L10, k10, n10⟩, -, X10, ⟨Lc10, hQ10, l10, y10, z10⟩, st10⟩ := Jvm.LawKit.callS X9 hx (y := (⟨"java/lang/Math", "min", "(II)I"⟩ : MethodName)) hown (mvT hZ (hw _ (List.mem_of_getElem? (i := 31) rfl))) (mvT hZ (hw _ (List.mem_of_getElem? (i := 32) rfl))) (mvT hZ (hw _ (List.mem_of_getElem? (i := 29) rfl))) (mvT hZ (hw _ (List.mem_of_getElem? (i := 33) rfl))) (by decide) (backOf (W := 0) (rmY l Z a0 hw [] (own_pick pf pl pn pm) pl T7.heap n0 ) hZ (hw _ (List.mem_of_getElem? (i := 33) rfl)) (hw _ (List.mem_of_getElem? (i := 29) rfl)) (by decide) (by decide)) (g := (mkF m 50 #[iv pf, iv pl, iv pn, iv pm, iv (own_pick pf pl pn pm), rv b4, iv 0, iv 0, .unset, .unset] [(.int pl), (.int (own_pick pf pl pn pm))])) rfl (by rw [hml]; rfl) (argsL := [(.int (own_pick pf pl pn pm)), (.int pl)]) (rest := []) (lenOf pd_4 rfl) rfl (by show 2 * 0 + _ ≤ _; exact Nat.le_of_eq rfl) (hb hby at_50) (fun _ _ => ⟨rfl, e9, (by decide : 1 + 0 ≤ _), (by decide : 2 + 0 ≤ _)⟩)
      dsimp only [Pt.U, Pt.locs, Pt.cells, Pt.slots] at X10 l10 y10 z10 st10 hQ10
      subst l10 y10 z10
      obtain ⟨rfl, N10q, e10⟩ := hQ10
      have N10 := Fr.app N9 N10q
      refine Go.pull (V := T10.setTop (mkF m 53 #[iv pf, iv pl, iv pn, iv pm, iv (own_pick pf pl pn pm), rv b4, iv 0, iv 0, .unset, .unset] [(.int (own_min (own_pick pf pl pn pm) pl))])) st10 ?_
      refine Go.pull (V := T10.setTop (mkF m 55 #[iv pf, iv pl, iv pn, iv pm, iv (own_pick pf pl pn pm), rv b4, iv 0, iv 0, .unset, .unset] [(.int (own_pick pf pl pn pm)), (.int (own_min (own_pick pf pl pn pm) pl))])) (fun t k => XS.iload X10.here hx rfl (hb hby at_53) rfl  k) ?_
      refine Go.pull (V := T10.setTop (mkF m 62 #[iv pf, iv pl, iv pn, iv pm, iv (own_pick pf pl pn pm), rv b4, iv 0, iv 0, .unset, .unset] [])) (fun t k => XS.icmpYes X10.here hx rfl (pc0 := 55) (pc' := 62) rfl (hb hby at_55) rfl (XT.ii_ne_t (own_min_n hp3)) (by decide) (by decide) k) ?_
      refine Go.pull (V := T10.setTop (mkF m 63 #[iv pf, iv pl, iv pn, iv pm, iv (own_pick pf pl pn pm), rv b4, iv 0, iv 0, .unset, .unset] [(.int 0)])) (fun t k => XS.iconst X10.here hx rfl (hb hby at_62) k) ?_
      refine Go.pull (V := T10.setTop (mkF m 65 #[iv pf, iv pl, iv pn, iv pm, iv (own_pick pf pl pn pm), rv b4, iv 0, iv 0, iv 0, .unset] [])) (fun t k => XS.istore X10.here hx rfl (hb hby at_63) rfl (l' := #[iv pf, iv pl, iv pn, iv pm, iv (own_pick pf pl pn pm), rv b4, iv 0, iv 0, iv 0, .unset]) rfl k) ?_
      refine Go.pull (V := T10.setTop (mkF m 67 #[iv pf, iv pl, iv pn, iv pm, iv (own_pick pf pl pn pm), rv b4, iv 0, iv 0, iv 0, .unset] [(.int 0)])) (fun t k => XS.iload X10.here hx rfl (hb hby at_65) rfl  k) ?_
      refine Go.pull (V := T10.setTop (mkF m 79 #[iv pf, iv pl, iv pn, iv pm, iv (own_pick pf pl pn pm), rv b4, iv 0, iv 0, iv 0, .unset] [])) (fun t k => XS.ifYes X10.here hx rfl (pc0 := 67) (pc' := 79) rfl (hb hby at_67) rfl (XT.i0_eq_t (by decide)) (by decide) (by decide) k) ?_
      refine Go.pull (V := T10.setTop (mkF m 80 #[iv pf, iv pl, iv pn, iv pm, iv (own_pick pf pl pn pm), rv b4, iv 0, iv 0, iv 0, .unset] [(.int 0)])) (fun t k => XS.iconst X10.here hx rfl (hb hby at_79) k) ?_
      refine Go.pull (V := T10.setTop (mkF m 82 #[iv pf, iv pl, iv pn, iv pm, iv (own_pick pf pl pn pm), rv b4, iv 0, iv 0, iv 0, iv 0] [])) (fun t k => XS.istore X10.here hx rfl (hb hby at_80) rfl (l' := #[iv pf, iv pl, iv pn, iv pm, iv (own_pick pf pl pn pm), rv b4, iv 0, iv 0, iv 0, iv 0]) rfl k) ?_
      refine Go.pull (V := T10.setTop (mkF m 84 #[iv pf, iv pl, iv pn, iv pm, iv (own_pick pf pl pn pm), rv b4, iv 0, iv 0, iv 0, iv 0] [(.int 0)])) (fun t k => XS.iload X10.here hx rfl (hb hby at_82) rfl  k) ?_
      refine Go.pull (V := T10.setTop (mkF m 86 #[iv pf, iv pl, iv pn, iv pm, iv (own_pick pf pl pn pm), rv b4, iv 0, iv 0, iv 0, iv 0] [(.int 0), (.int 0)])) (fun t k => XS.iload X10.here hx rfl (hb hby at_84) rfl  k) ?_
      refine Go.pull (V := T10.setTop (mkF m 89 #[iv pf, iv pl, iv pn, iv pm, iv (own_pick pf pl pn pm), rv b4, iv 0, iv 0, iv 0, iv 0] [])) (fun t k => XS.icmpNo X10.here hx rfl (hb hby at_86) rfl (XT.ii_ne_f (by decide)) k) ?_
      refine Go.pull (V := T10.setTop (mkF m 90 #[iv pf, iv pl, iv pn, iv pm, iv (own_pick pf pl pn pm), rv b4, iv 0, iv 0, iv 0, iv 0] [(.int 1)])) (fun t k => XS.iconst X10.here hx rfl (hb hby at_89) k) ?_
      refine Go.pull (V := T10.setTop (mkF m 94 #[iv pf, iv pl, iv pn, iv pm, iv (own_pick pf pl pn pm), rv b4, iv 0, iv 0, iv 0, iv 0] [(.int 1)])) (fun t k => XS.goto X10.here hx rfl (pc0 := 90) (pc' := 94) rfl (hb hby at_90) (by decide) (by decide) k) ?_
      exact Go.retN X10 hx Bd.notSynchronized (t := .boolean) Bd.returns (by simp) (hb hby at_94) ⟨rfl, N10⟩ (by decide) (by decide)
    · skip
      obtain ⟨T11, h11, X11, e11, E11, A11, D11, -, st11⟩ := newO X1 hx hZ hown (hw _ (List.mem_of_getElem? (i := 4) rfl)) (hw _ (List.mem_of_getElem? (i := 5) rfl)) (hw _ (List.mem_of_getElem? (i := 6) rfl)) e1 (g := (mkF m 9 #[iv pf, iv pl, iv pn, iv pm, iv (own_pick pf pl pn pm), .unset, .unset, .unset, .unset, .unset] [])) rfl (hb hby at_9) (by decide) (by decide)
      obtain ⟨b11, g11⟩ : ∃ z, z = h0.size := ⟨_, rfl⟩
      rw [← g11] at A11 D11 st11
      have sz_b11 : h0.size ≤ b11 := Nat.le_trans ((Keep.refl h0 [])).1 (Nat.le_of_eq g11.symm)
      have g_b11 : n0 ≤ b11 := Nat.le_trans Z0 sz_b11
      have K11 : Keep h0 h11 [] := (Keep.refl h0 []).ext E11
      have F12 : Fld Z h11 b11 "com/example/tagwire/tagwire/NumberRange" "first" "I" (.int 0) := D11 (Or.inr (hw _ (List.mem_of_getElem? (i := 19) rfl))) (ty := .int) (by decide)
      have F13 : Fld Z h11 b11 "com/example/tagwire/tagwire/NumberRange" "last" "I" (.int 0) := D11 (Or.inr (hw _ (List.mem_of_getElem? (i := 21) rfl))) (ty := .int) (by decide)
      refine Go.pull (V := T11.setTop (mkF m 12 #[iv pf, iv pl, iv pn, iv pm, iv (own_pick pf pl pn pm), .unset, .unset, .unset, .unset, .unset] [(.ref b11)])) st11 ?_
      refine Go.pull (V := T11.setTop (mkF m 13 #[iv pf, iv pl, iv pn, iv pm, iv (own_pick pf pl pn pm), .unset, .unset, .unset, .unset, .unset] [(.ref b11), (.ref b11)])) (fun t k => XS.dup X11.here hx rfl (hb hby at_12) rfl rfl k) ?_
      refine Go.pull (V := T11.setTop (mkF m 14 #[iv pf, iv pl, iv pn, iv pm, iv (own_pick pf pl pn pm), .unset, .unset, .unset, .unset, .unset] [(.int pf), (.ref b11), (.ref b11)])) (fun t k => XS.iloadN X11.here hx rfl (hb hby at_13) rfl  k) ?_
      refine Go.pull (V := T11.setTop (mkF m 15 #[iv pf, iv pl, iv pn, iv pm, iv (own_pick pf pl pn pm), .unset, .unset, .unset, .unset, .unset] [(.int pl), (.int pf), (.ref b11), (.ref b11)])) (fun t k => XS.iloadN X11.here hx rfl (hb hby at_14) rfl  k) ?_
      obtain ⟨_, _, ⟨T14, L14, k14, n14⟩, -, X14, ⟨Lc14, hQ14, l14, y14, z14⟩, st14⟩ := X11.specialBack hx (y := (⟨"com/example/tagwire/tagwire/NumberRange", "<init>", "(II)V"⟩ : MethodName)) rfl hown (mvT hZ (hw _ (List.mem_of_getElem? (i := 7) rfl))) (mvT hZ (hw _ (List.mem_of_getElem? (i := 8) rfl))) (mvT hZ (hw _ (List.mem_of_getElem? (i := 9) rfl))) (by decide) (backOf (W := 1) (rmI l Z a0 hw [] b11 pf pl (.int 0) (.int 0) h11 n0 (g_b11) A11 F12 F13) hZ (hw _ (List.mem_of_getElem? (i := 9) rfl)) (hw _ (List.mem_of_getElem? (i := 6) rfl)) (by decide) (by decide)) (g := (mkF m 15 #[iv pf, iv pl, iv pn, iv pm, iv (own_pick pf pl pn pm), .unset, .unset, .unset, .unset, .unset] [(.int pl), (.int pf), (.ref b11), (.ref b11)])) rfl (by rw [hml]; rfl) (Steps.refl _) (a := b11) (argsL := [(.int pf), (.int pl)]) (rest := [(.ref b11)]) (lenOf pd_2 rfl) rfl (by show 2 * 0 + _ ≤ _; exact Nat.le_of_eq rfl) (hb hby at_15) (fun _ _ => ⟨rfl, e11, (by decide : 1 + 0 ≤ _), (by decide : 2 + 0 ≤ _)⟩)
      dsimp only [Pt.U, Pt.locs, Pt.cells, Pt.slots] at X14 l14 y14 z14 st14 hQ14
      subst l14 y14 z14
      obtain ⟨rfl, N14q, Kc14, Fc14_0, Fc14_1⟩ := hQ14
      have K14 : Keep h0 T14.heap [] := K11.trans Kc14 ((allS (Or.inr sz_b11) all0))
      have N14 := Fr.app N1 N14q
      refine Go.pull (V := T14.setTop (mkF m 18 #[iv pf, iv pl, iv pn, iv pm, iv (own_pick pf pl pn pm), .unset, .unset, .unset, .unset, .unset] [(.ref b11)])) (fun _ k => st14.trans k) ?_
      refine Go.pull (V := T14.setTop (mkF m 20 #[iv pf, iv pl, iv pn, iv pm, iv (own_pick pf pl pn pm), rv b11, .unset, .unset, .unset, .unset] [])) (fun t k => XS.astore X14.here hx rfl (hb hby at_18) rfl rfl (l' := #[iv pf, iv pl, iv pn, iv pm, iv (own_pick pf pl pn pm), rv b11, .unset, .unset, .unset, .unset]) rfl k) ?_
      refine Go.pull (V := T14.setTop (mkF m 22 #[iv pf, iv pl, iv pn, iv pm, iv (own_pick pf pl pn pm), rv b11, .unset, .unset, .unset, .unset] [(.ref b11)])) (fun t k => XS.aload X14.here hx rfl (hb hby at_20) rfl rfl k) ?_
      refine Go.pull (V := T14.setTop (mkF m 24 #[iv pf, iv pl, iv pn, iv pm, iv (own_pick pf pl pn pm), rv b11, .unset, .unset, .unset, .unset] [(.int (own_pick pf pl pn pm)), (.ref b11)])) (fun t k => XS.iload X14.here hx rfl (hb hby at_22) rfl  k) ?_
      obtain ⟨cq15, kq15, q15a, q15b, q15c⟩ := isOf hZ rfl (A11.keep Kc14)
      obtain ⟨_, _, ⟨T15, L15, k15, n15⟩, -, X15, ⟨Lc15, hQ15, l15, y15, z15⟩, st15⟩ := X14.virtualBack hx (y := (⟨"com/example/tagwire/tagwire/NumberRange", "contains", "(I)Z"⟩ : MethodName)) (z := (⟨"com/example/tagwire/tagwire/NumberRange", "contains", "(I)Z"⟩ : MethodName)) hown (mvT hZ (hw _ (List.mem_of_getElem? (i := 22) rfl))) (mvT hZ (hw _ (List.mem_of_getElem? (i := 23) rfl))) (notFace_of_selects (args := #[]) (mvT hZ (hw _ (List.mem_of_getElem? (i := 25) rfl)))) (mvT hZ (hw _ (List.mem_of_getElem? (i := 25) rfl))) (mvT hZ (hw _ (List.mem_of_getElem? (i := 24) rfl))) (by decide) (backOf (W := 0) (rmA l Z a0 hw [] b11 (own_pick pf pl pn pm) pf pl T14.heap n0 Fc14_0 Fc14_1) hZ (hw _ (List.mem_of_getElem? (i := 26) rfl)) (hw _ (List.mem_of_getElem? (i := 6) rfl)) (by decide) (by decide)) q15a q15c (g := (mkF m 24 #[iv pf, iv pl, iv pn, iv pm, iv (own_pick pf pl pn pm), rv b11, .unset, .unset, .unset, .unset] [(.int (own_pick pf pl pn pm)), (.ref b11)])) rfl (by rw [hml]; rfl) (Steps.refl _) (argsL := [(.int (own_pick pf pl pn pm))]) (rest := []) (lenOf pd_3 rfl) rfl (by show 2 * 0 + _ ≤ _; exact Nat.le_of_eq rfl) (hb hby at_24) (fun _ _ => ⟨rfl, rfl, (by decide : 1 + 0 ≤ _), (by decide : 2 + 0 ≤ _)⟩)
      dsimp only [Pt.U, Pt.locs, Pt.cells, Pt.slots] at X15 l15 y15 z15 st15 hQ15
      subst l15 y15 z15
      obtain ⟨hv15, N15q, e15⟩ := hQ15
      rw [(show (own_in pf pl (own_pick pf pl pn pm)) = (0 : Int32) from by rw [own_in, if_pos hp2])] at hv15; subst hv15
      have N15 := Fr.app N14 N15q
      refine Go.pull (V := T15.setTop (mkF m 27 #[iv pf, iv pl, iv pn, iv pm, iv (own_pick pf pl pn pm), rv b11, .unset, .unset, .unset, .unset] [(.int 0)])) (fun _ k => st15.trans k) ?_
      refine Go.pull (V := T15.setTop (mkF m 29 #[iv pf, iv pl, iv pn, iv pm, iv (own_pick pf pl pn pm), rv b11, iv 0, .unset, .unset, .unset] [])) (fun t k => XS.istore X15.here hx rfl (hb hby at_27) rfl (l' := #[iv pf, iv pl, iv pn, iv pm, iv (own_pick pf pl pn pm), rv b11, iv 0, .unset, .unset, .unset]) rfl k) ?_
      refine Go.pull (V := T15.setTop (mkF m 30 #[iv pf, iv pl, iv pn, iv pm, iv (own_pick pf pl pn pm), rv b11, iv 0, .unset, .unset, .unset] [(.int pf)])) (fun t k => XS.iloadN X15.here hx rfl (hb hby at_29) rfl  k) ?_
      refine Go.pull (V := T15.setTop (mkF m 32 #[iv pf, iv pl, iv pn, iv pm, iv (own_pick pf pl pn pm), rv b11, iv 0, .unset, .unset, .unset] [(.int (own_pick pf pl pn pm)), (.int pf)])) (fun t k => XS.iload X15.here hx rfl (hb hby at_30) rfl  k) ?_
      obtain ⟨_, _, ⟨T16, L16, k16, n16⟩, -, X16, ⟨Lc16, hQ16, l16, y16, z16⟩, st16⟩ := Jvm.LawKit.callS X15 hx (y := (⟨"java/lang/Math", "max", "(II)I"⟩ : MethodName)) hown (mvT hZ (hw _ (List.mem_of_getElem? (i := 27) rfl))) (mvT hZ (hw _ (List.mem_of_getElem? (i := 28) rfl))) (mvT hZ (hw _ (List.mem_of_getElem? (i := 29) rfl))) (mvT hZ (hw _ (List.mem_of_getElem? (i := 30) rfl))) (by decide) (backOf (W := 0) (rmX l Z a0 hw [] pf (own_pick pf pl pn pm) T14.heap n0 ) hZ (hw _ (List.mem_of_getElem? (i := 30) rfl)) (hw _ (List.mem_of_getElem? (i := 29) rfl)) (by decide) (by decide)) (g := (mkF m 32 #[iv pf, iv pl, iv pn, iv pm, iv (own_pick pf pl pn pm), rv b11, iv 0, .unset, .unset, .unset] [(.int (own_pick pf pl pn pm)), (.int pf)])) rfl (by rw [hml]; rfl) (argsL := [(.int pf), (.int (own_pick pf pl pn pm))]) (rest := []) (lenOf pd_4 rfl) rfl (by show 2 * 0 + _ ≤ _; exact Nat.le_of_eq rfl) (hb hby at_32) (fun _ _ => ⟨rfl, e15, (by decide : 1 + 0 ≤ _), (by decide : 2 + 0 ≤ _)⟩)
      dsimp only [Pt.U, Pt.locs, Pt.cells, Pt.slots] at X16 l16 y16 z16 st16 hQ16
      subst l16 y16 z16
      obtain ⟨rfl, N16q, e16⟩ := hQ16
      have N16 := Fr.app N15 N16q
      refine Go.pull (V := T16.setTop (mkF m 35 #[iv pf, iv pl, iv pn, iv pm, iv (own_pick pf pl pn pm), rv b11, iv 0, .unset, .unset, .unset] [(.int (own_max pf (own_pick pf pl pn pm)))])) st16 ?_
      refine Go.pull (V := T16.setTop (mkF m 37 #[iv pf, iv pl, iv pn, iv pm, iv (own_pick pf pl pn pm), rv b11, iv 0, .unset, .unset, .unset] [(.int (own_pick pf pl pn pm)), (.int (own_max pf (own_pick pf pl pn pm)))])) (fun t k => XS.iload X16.here hx rfl (hb hby at_35) rfl  k) ?_
      refine Go.pull (V := T16.setTop (mkF m 44 #[iv pf, iv pl, iv pn, iv pm, iv (own_pick pf pl pn pm), rv b11, iv 0, .unset, .unset, .unset] [])) (fun t k => XS.icmpYes X16.here hx rfl (pc0 := 37) (pc' := 44) rfl (hb hby at_37) rfl (XT.ii_ne_t (own_max_n hp2)) (by decide) (by decide) k) ?_
      refine Go.pull (V := T16.setTop (mkF m 45 #[iv pf, iv pl, iv pn, iv pm, iv (own_pick pf pl pn pm), rv b11, iv 0, .unset, .unset, .unset] [(.int 0)])) (fun t k => XS.iconst X16.here hx rfl (hb hby at_44) k) ?_
      refine Go.pull (V := T16.setTop (mkF m 47 #[iv pf, iv pl, iv pn, iv pm, iv (own_pick pf pl pn pm), rv b11, iv 0, iv 0, .unset, .unset] [])) (fun t k => XS.istore X16.here hx rfl (hb hby at_45) rfl (l' := #[iv pf, iv pl, iv pn, iv pm, iv (own_pick pf pl pn pm), rv b11, iv 0, iv 0, .unset, .unset]) rfl k) ?_
      refine Go.pull (V := T16.setTop (mkF m 49 #[iv pf, iv pl, iv pn, iv pm, iv (own_pick pf pl pn pm), rv b11, iv 0, iv 0, .unset, .unset] [(.int (own_pick pf pl pn pm))])) (fun t k => XS.iload X16.here hx rfl (hb hby at_47) rfl  k) ?_
      refine Go.pull (V := T16.setTop (mkF m 50 #[iv pf, iv pl, iv pn, iv pm, iv (own_pick pf pl pn pm), rv b11, iv 0, iv 0, .unset, .unset] [(.int pl), (.int (own_pick pf pl pn pm))])) (fun t k => XS.iloadN X16.here hx rfl (hb hby at_49) rfl  k) ?_
      obtain ⟨_, _, ⟨T17, L17, k17, n17⟩, -, X17, ⟨Lc17, hQ17, l17, y17, z17⟩, st17⟩ := Jvm.LawKit.callS X16 hx (y := (⟨"java/lang/Math", "min", "(II)I"⟩ : MethodName)) hown (mvT hZ (hw _ (List.mem_of_getElem? (i := 31) rfl))) (mvT hZ (hw _ (List.mem_of_getElem? (i := 32) rfl))) (mvT hZ (hw _ (List.mem_of_getElem? (i := 29) rfl))) (mvT hZ (hw _ (List.mem_of_getElem? (i := 33) rfl))) (by decide) (backOf (W := 0) (rmY l Z a0 hw [] (own_pick pf pl pn pm) pl T14.heap n0 ) hZ (hw _ (List.mem_of_getElem? (i := 33) rfl)) (hw _ (List.mem_of_getElem? (i := 29) rfl)) (by decide) (by decide)) (g := (mkF m 50 #[iv pf, iv pl, iv pn, iv pm, iv (own_pick pf pl pn pm), rv b11, iv 0, iv 0, .unset, .unset] [(.int pl), (.int (own_pick pf pl pn pm))])) rfl (by rw [hml]; rfl) (argsL := [(.int (own_pick pf pl pn pm)), (.int pl)]) (rest := []) (lenOf pd_4 rfl) rfl (by show 2 * 0 + _ ≤ _; exact Nat.le_of_eq rfl) (hb hby at_50) (fun _ _ => ⟨rfl, e16, (by decide : 1 + 0 ≤ _), (by decide : 2 + 0 ≤ _)⟩)
      dsimp only [Pt.U, Pt.locs, Pt.cells, Pt.slots] at X17 l17 y17 z17 st17 hQ17
      subst l17 y17 z17
      obtain ⟨rfl, N17q, e17⟩ := hQ17
      have N17 := Fr.app N16 N17q
      refine Go.pull (V := T17.setTop (mkF m 53 #[iv pf, iv pl, iv pn, iv pm, iv (own_pick pf pl pn pm), rv b11, iv 0, iv 0, .unset, .unset] [(.int (own_min (own_pick pf pl pn pm) pl))])) st17 ?_
      refine Go.pull (V := T17.setTop (mkF m 55 #[iv pf, iv pl, iv pn, iv pm, iv (own_pick pf pl pn pm), rv b11, iv 0, iv 0, .unset, .unset] [(.int (own_pick pf pl pn pm)), (.int (own_min (own_pick pf pl pn pm) pl))])) (fun t k => XS.iload X17.here hx rfl (hb hby at_53) rfl  k) ?_
      refine Go.pull (V := T17.setTop (mkF m 58 #[iv pf, iv pl, iv pn, iv pm, iv (own_pick pf pl pn pm), rv b11, iv 0, iv 0, .unset, .unset] [])) (fun t k => XS.icmpNo X17.here hx rfl (hb hby at_55) rfl (XT.ii_ne_f (own_min_y hp3)) k) ?_
      refine Go.pull (V := T17.setTop (mkF m 59 #[iv pf, iv pl, iv pn, iv pm, iv (own_pick pf pl pn pm), rv b11, iv 0, iv 0, .unset, .unset] [(.int 1)])) (fun t k => XS.iconst X17.here hx rfl (hb hby at_58) k) ?_
      refine Go.pull (V := T17.setTop (mkF m 63 #[iv pf, iv pl, iv pn, iv pm, iv (own_pick pf pl pn pm), rv b11, iv 0, iv 0, .unset, .unset] [(.int 1)])) (fun t k => XS.goto X17.here hx rfl (pc0 := 59) (pc' := 63) rfl (hb hby at_59) (by decide) (by decide) k) ?_
      refine Go.pull (V := T17.setTop (mkF m 65 #[iv pf, iv pl, iv pn, iv pm, iv (own_pick pf pl pn pm), rv b11, iv 0, iv 0, iv 1, .unset] [])) (fun t k => XS.istore X17.here hx rfl (hb hby at_63) rfl (l' := #[iv pf, iv pl, iv pn, iv pm, iv (own_pick pf pl pn pm), rv b11, iv 0, iv 0, iv 1, .unset]) rfl k) ?_
      refine Go.pull (V := T17.setTop (mkF m 67 #[iv pf, iv pl, iv pn, iv pm, iv (own_pick pf pl pn pm), rv b11, iv 0, iv 0, iv 1, .unset] [(.int 0)])) (fun t k => XS.iload X17.here hx rfl (hb hby at_65) rfl  k) ?_
      refine Go.pull (V := T17.setTop (mkF m 79 #[iv pf, iv pl, iv pn, iv pm, iv (own_pick pf pl pn pm), rv b11, iv 0, iv 0, iv 1, .unset] [])) (fun t k => XS.ifYes X17.here hx rfl (pc0 := 67) (pc' := 79) rfl (hb hby at_67) rfl (XT.i0_eq_t (by decide)) (by decide) (by decide) k) ?_
      refine Go.pull (V := T17.setTop (mkF m 80 #[iv pf, iv pl, iv pn, iv pm, iv (own_pick pf pl pn pm), rv b11, iv 0, iv 0, iv 1, .unset] [(.int 0)])) (fun t k => XS.iconst X17.here hx rfl (hb hby at_79) k) ?_
      refine Go.pull (V := T17.setTop (mkF m 82 #[iv pf, iv pl, iv pn, iv pm, iv (own_pick pf pl pn pm), rv b11, iv 0, iv 0, iv 1, iv 0] [])) (fun t k => XS.istore X17.here hx rfl (hb hby at_80) rfl (l' := #[iv pf, iv pl, iv pn, iv pm, iv (own_pick pf pl pn pm), rv b11, iv 0, iv 0, iv 1, iv 0]) rfl k) ?_
      refine Go.pull (V := T17.setTop (mkF m 84 #[iv pf, iv pl, iv pn, iv pm, iv (own_pick pf pl pn pm), rv b11, iv 0, iv 0, iv 1, iv 0] [(.int 0)])) (fun t k => XS.iload X17.here hx rfl (hb hby at_82) rfl  k) ?_
      refine Go.pull (V := T17.setTop (mkF m 86 #[iv pf, iv pl, iv pn, iv pm, iv (own_pick pf pl pn pm), rv b11, iv 0, iv 0, iv 1, iv 0] [(.int 0), (.int 0)])) (fun t k => XS.iload X17.here hx rfl (hb hby at_84) rfl  k) ?_
      refine Go.pull (V := T17.setTop (mkF m 89 #[iv pf, iv pl, iv pn, iv pm, iv (own_pick pf pl pn pm), rv b11, iv 0, iv 0, iv 1, iv 0] [])) (fun t k => XS.icmpNo X17.here hx rfl (hb hby at_86) rfl (XT.ii_ne_f (by decide)) k) ?_
      refine Go.pull (V := T17.setTop (mkF m 90 #[iv pf, iv pl, iv pn, iv pm, iv (own_pick pf pl pn pm), rv b11, iv 0, iv 0, iv 1, iv 0] [(.int 1)])) (fun t k => XS.iconst X17.here hx rfl (hb hby at_89) k) ?_
      refine Go.pull (V := T17.setTop (mkF m 94 #[iv pf, iv pl, iv pn, iv pm, iv (own_pick pf pl pn pm), rv b11, iv 0, iv 0, iv 1, iv 0] [(.int 1)])) (fun t k => XS.goto X17.here hx rfl (pc0 := 90) (pc' := 94) rfl (hb hby at_90) (by decide) (by decide) k) ?_
      exact Go.retN X17 hx Bd.notSynchronized (t := .boolean) Bd.returns (by simp) (hb hby at_94) ⟨rfl, N17⟩ (by decide) (by decide)
  · skip
    by_cases hp18 : pl < (own_pick pf pl pn pm)
    · skip
      obtain ⟨T19, h19, X19, e19, E19, A19, D19, -, st19⟩ := newO X1 hx hZ hown (hw _ (List.mem_of_getElem? (i := 4) rfl)) (hw _ (List.mem_of_getElem? (i := 5) rfl)) (hw _ (List.mem_of_getElem? (i := 6) rfl)) e1 (g := (mkF m 9 #[iv pf, iv pl, iv pn, iv pm, iv (own_pick pf pl pn pm), .unset, .unset, .unset, .unset, .unset] [])) rfl (hb hby at_9) (by decide) (by decide)
      obtain ⟨b19, g19⟩ : ∃ z, z = h0.size := ⟨_, rfl⟩
      rw [← g19] at A19 D19 st19
      have sz_b19 : h0.size ≤ b19 := Nat.le_trans ((Keep.refl h0 [])).1 (Nat.le_of_eq g19.symm)
      have g_b19 : n0 ≤ b19 := Nat.le_trans Z0 sz_b19
      have K19 : Keep h0 h19 [] := (Keep.refl h0 []).ext E19
      have F20 : Fld Z h19 b19 "com/example/tagwire/tagwire/NumberRange" "first" "I" (.int 0) := D19 (Or.inr (hw _ (List.mem_of_getElem? (i := 19) rfl))) (ty := .int) (by decide)
      have F21 : Fld Z h19 b19 "com/example/tagwire/tagwire/NumberRange" "last" "I" (.int 0) := D19 (Or.inr (hw _ (List.mem_of_getElem? (i := 21) rfl))) (ty := .int) (by decide)
      refine Go.pull (V := T19.setTop (mkF m 12 #[iv pf, iv pl, iv pn, iv pm, iv (own_pick pf pl pn pm), .unset, .unset, .unset, .unset, .unset] [(.ref b19)])) st19 ?_
      refine Go.pull (V := T19.setTop (mkF m 13 #[iv pf, iv pl, iv pn, iv pm, iv (own_pick pf pl pn pm), .unset, .unset, .unset, .unset, .unset] [(.ref b19), (.ref b19)])) (fun t k => XS.dup X19.here hx rfl (hb hby at_12) rfl rfl k) ?_
      refine Go.pull (V := T19.setTop (mkF m 14 #[iv pf, iv pl, iv pn, iv pm, iv (own_pick pf pl pn pm), .unset, .unset, .unset, .unset, .unset] [(.int pf), (.ref b19), (.ref b19)])) (fun t k => XS.iloadN X19.here hx rfl (hb hby at_13) rfl  k) ?_
      refine Go.pull (V := T19.setTop (mkF m 15 #[iv pf, iv pl, iv pn, iv pm, iv (own_pick pf pl pn pm), .unset, .unset, .unset, .unset, .unset] [(.int pl), (.int pf), (.ref b19), (.ref b19)])) (fun t k => XS.iloadN X19.here hx rfl (hb hby at_14) rfl  k) ?_
      obtain ⟨_, _, ⟨T22, L22, k22, n22⟩, -, X22, ⟨Lc22, hQ22, l22, y22, z22⟩, st22⟩ := X19.specialBack hx (y := (⟨"com/example/tagwire/tagwire/NumberRange", "<init>", "(II)V"⟩ : MethodName)) rfl hown (mvT hZ (hw _ (List.mem_of_getElem? (i := 7) rfl))) (mvT hZ (hw _ (List.mem_of_getElem? (i := 8) rfl))) (mvT hZ (hw _ (List.mem_of_getElem? (i := 9) rfl))) (by decide) (backOf (W := 1) (rmI l Z a0 hw [] b19 pf pl (.int 0) (.int 0) h19 n0 (g_b19) A19 F20 F21) hZ (hw _ (List.mem_of_getElem? (i := 9) rfl)) (hw _ (List.mem_of_getElem? (i := 6) rfl)) (by decide) (by decide)) (g := (mkF m 15 #[iv pf, iv pl, iv pn, iv pm, iv (own_pick pf pl pn pm), .unset, .unset, .unset, .unset, .unset] [(.int pl), (.int pf), (.ref b19), (.ref b19)])) rfl (by rw [hml]; rfl) (Steps.refl _) (a := b19) (argsL := [(.int pf), (.int pl)]) (rest := [(.ref b19)]) (lenOf pd_2 rfl) rfl (by show 2 * 0 + _ ≤ _; exact Nat.le_of_eq rfl) (hb hby at_15) (fun _ _ => ⟨rfl, e19, (by decide : 1 + 0 ≤ _), (by decide : 2 + 0 ≤ _)⟩)
      dsimp only [Pt.U, Pt.locs, Pt.cells, Pt.slots] at X22 l22 y22 z22 st22 hQ22
      subst l22 y22 z22
      obtain ⟨rfl, N22q, Kc22, Fc22_0, Fc22_1⟩ := hQ22
      have K22 : Keep h0 T22.heap [] := K19.trans Kc22 ((allS (Or.inr sz_b19) all0))
      have N22 := Fr.app N1 N22q
      refine Go.pull (V := T22.setTop (mkF m 18 #[iv pf, iv pl, iv pn, iv pm, iv (own_pick pf pl pn pm), .unset, .unset, .unset, .unset, .unset] [(.ref b19)])) (fun _ k => st22.trans k) ?_
      refine Go.pull (V := T22.setTop (mkF m 20 #[iv pf, iv pl, iv pn, iv pm, iv (own_pick pf pl pn pm), rv b19, .unset, .unset, .unset, .unset] [])) (fun t k => XS.astore X22.here hx rfl (hb hby at_18) rfl rfl (l' := #[iv pf, iv pl, iv pn, iv pm, iv (own_pick pf pl pn pm), rv b19, .unset, .unset, .unset, .unset]) rfl k) ?_
      refine Go.pull (V := T22.setTop (mkF m 22 #[iv pf, iv pl, iv pn, iv pm, iv (own_pick pf pl pn pm), rv b19, .unset, .unset, .unset, .unset] [(.ref b19)])) (fun t k => XS.aload X22.here hx rfl (hb hby at_20) rfl rfl k) ?_
      refine Go.pull (V := T22.setTop (mkF m 24 #[iv pf, iv pl, iv pn, iv pm, iv (own_pick pf pl pn pm), rv b19, .unset, .unset, .unset, .unset] [(.int (own_pick pf pl pn pm)), (.ref b19)])) (fun t k => XS.iload X22.here hx rfl (hb hby at_22) rfl  k) ?_
      obtain ⟨cq23, kq23, q23a, q23b, q23c⟩ := isOf hZ rfl (A19.keep Kc22)
      obtain ⟨_, _, ⟨T23, L23, k23, n23⟩, -, X23, ⟨Lc23, hQ23, l23, y23, z23⟩, st23⟩ := X22.virtualBack hx (y := (⟨"com/example/tagwire/tagwire/NumberRange", "contains", "(I)Z"⟩ : MethodName)) (z := (⟨"com/example/tagwire/tagwire/NumberRange", "contains", "(I)Z"⟩ : MethodName)) hown (mvT hZ (hw _ (List.mem_of_getElem? (i := 22) rfl))) (mvT hZ (hw _ (List.mem_of_getElem? (i := 23) rfl))) (notFace_of_selects (args := #[]) (mvT hZ (hw _ (List.mem_of_getElem? (i := 25) rfl)))) (mvT hZ (hw _ (List.mem_of_getElem? (i := 25) rfl))) (mvT hZ (hw _ (List.mem_of_getElem? (i := 24) rfl))) (by decide) (backOf (W := 0) (rmA l Z a0 hw [] b19 (own_pick pf pl pn pm) pf pl T22.heap n0 Fc22_0 Fc22_1) hZ (hw _ (List.mem_of_getElem? (i := 26) rfl)) (hw _ (List.mem_of_getElem? (i := 6) rfl)) (by decide) (by decide)) q23a q23c (g := (mkF m 24 #[iv pf, iv pl, iv pn, iv pm, iv (own_pick pf pl pn pm), rv b19, .unset, .unset, .unset, .unset] [(.int (own_pick pf pl pn pm)), (.ref b19)])) rfl (by rw [hml]; rfl) (Steps.refl _) (argsL := [(.int (own_pick pf pl pn pm))]) (rest := []) (lenOf pd_3 rfl) rfl (by show 2 * 0 + _ ≤ _; exact Nat.le_of_eq rfl) (hb hby at_24) (fun _ _ => ⟨rfl, rfl, (by decide : 1 + 0 ≤ _), (by decide : 2 + 0 ≤ _)⟩)
      dsimp only [Pt.U, Pt.locs, Pt.cells, Pt.slots] at X23 l23 y23 z23 st23 hQ23
      subst l23 y23 z23
      obtain ⟨hv23, N23q, e23⟩ := hQ23
      rw [(show (own_in pf pl (own_pick pf pl pn pm)) = (0 : Int32) from by rw [own_in, if_neg hp2, if_pos hp18])] at hv23; subst hv23
      have N23 := Fr.app N22 N23q
      refine Go.pull (V := T23.setTop (mkF m 27 #[iv pf, iv pl, iv pn, iv pm, iv (own_pick pf pl pn pm), rv b19, .unset, .unset, .unset, .unset] [(.int 0)])) (fun _ k => st23.trans k) ?_
      refine Go.pull (V := T23.setTop (mkF m 29 #[iv pf, iv pl, iv pn, iv pm, iv (own_pick pf pl pn pm), rv b19, iv 0, .unset, .unset, .unset] [])) (fun t k => XS.istore X23.here hx rfl (hb hby at_27) rfl (l' := #[iv pf, iv pl, iv pn, iv pm, iv (own_pick pf pl pn pm), rv b19, iv 0, .unset, .unset, .unset]) rfl k) ?_
      refine Go.pull (V := T23.setTop (mkF m 30 #[iv pf, iv pl, iv pn, iv pm, iv (own_pick pf pl pn pm), rv b19, iv 0, .unset, .unset, .unset] [(.int pf)])) (fun t k => XS.iloadN X23.here hx rfl (hb hby at_29) rfl  k) ?_
      refine Go.pull (V := T23.setTop (mkF m 32 #[iv pf, iv pl, iv pn, iv pm, iv (own_pick pf pl pn pm), rv b19, iv 0, .unset, .unset, .unset] [(.int (own_pick pf pl pn pm)), (.int pf)])) (fun t k => XS.iload X23.here hx rfl (hb hby at_30) rfl  k) ?_
      obtain ⟨_, _, ⟨T24, L24, k24, n24⟩, -, X24, ⟨Lc24, hQ24, l24, y24, z24⟩, st24⟩ := Jvm.LawKit.callS X23 hx (y := (⟨"java/lang/Math", "max", "(II)I"⟩ : MethodName)) hown (mvT hZ (hw _ (List.mem_of_getElem? (i := 27) rfl))) (mvT hZ (hw _ (List.mem_of_getElem? (i := 28) rfl))) (mvT hZ (hw _ (List.mem_of_getElem? (i := 29) rfl))) (mvT hZ (hw _ (List.mem_of_getElem? (i := 30) rfl))) (by decide) (backOf (W := 0) (rmX l Z a0 hw [] pf (own_pick pf pl pn pm) T22.heap n0 ) hZ (hw _ (List.mem_of_getElem? (i := 30) rfl)) (hw _ (List.mem_of_getElem? (i := 29) rfl)) (by decide) (by decide)) (g := (mkF m 32 #[iv pf, iv pl, iv pn, iv pm, iv (own_pick pf pl pn pm), rv b19, iv 0, .unset, .unset, .unset] [(.int (own_pick pf pl pn pm)), (.int pf)])) rfl (by rw [hml]; rfl) (argsL := [(.int pf), (.int (own_pick pf pl pn pm))]) (rest := []) (lenOf pd_4 rfl) rfl (by show 2 * 0 + _ ≤ _; exact Nat.le_of_eq rfl) (hb hby at_32) (fun _ _ => ⟨rfl, e23, (by decide : 1 + 0 ≤ _), (by decide : 2 + 0 ≤ _)⟩)
      dsimp only [Pt.U, Pt.locs, Pt.cells, Pt.slots] at X24 l24 y24 z24 st24 hQ24
      subst l24 y24 z24
      obtain ⟨rfl, N24q, e24⟩ := hQ24
      have N24 := Fr.app N23 N24q
      refine Go.pull (V := T24.setTop (mkF m 35 #[iv pf, iv pl, iv pn, iv pm, iv (own_pick pf pl pn pm), rv b19, iv 0, .unset, .unset, .unset] [(.int (own_max pf (own_pick pf pl pn pm)))])) st24 ?_
      refine Go.pull (V := T24.setTop (mkF m 37 #[iv pf, iv pl, iv pn, iv pm, iv (own_pick pf pl pn pm), rv b19, iv 0, .unset, .unset, .unset] [(.int (own_pick pf pl pn pm)), (.int (own_max pf (own_pick pf pl pn pm)))])) (fun t k => XS.iload X24.here hx rfl (hb hby at_35) rfl  k) ?_
      refine Go.pull (V := T24.setTop (mkF m 40 #[iv pf, iv pl, iv pn, iv pm, iv (own_pick pf pl pn pm), rv b19, iv 0, .unset, .unset, .unset] [])) (fun t k => XS.icmpNo X24.here hx rfl (hb hby at_37) rfl (XT.ii_ne_f (own_max_y hp2)) k) ?_
      refine Go.pull (V := T24.setTop (mkF m 41 #[iv pf, iv pl, iv pn, iv pm, iv (own_pick pf pl pn pm), rv b19, iv 0, .unset, .unset, .unset] [(.int 1)])) (fun t k => XS.iconst X24.here hx rfl (hb hby at_40) k) ?_
      refine Go.pull (V := T24.setTop (mkF m 45 #[iv pf, iv pl, iv pn, iv pm, iv (own_pick pf pl pn pm), rv b19, iv 0, .unset, .unset, .unset] [(.int 1)])) (fun t k => XS.goto X24.here hx rfl (pc0 := 41) (pc' := 45) rfl (hb hby at_41) (by decide) (by decide) k) ?_
      refine Go.pull (V := T24.setTop (mkF m 47 #[iv pf, iv pl, iv pn, iv pm, iv (own_pick pf pl pn pm), rv b19, iv 0, iv 1, .unset, .unset] [])) (fun t k => XS.istore X24.here hx rfl (hb hby at_45) rfl (l' := #[iv pf, iv pl, iv pn, iv pm, iv (own_pick pf pl pn pm), rv b19, iv 0, iv 1, .unset, .unset]) rfl k) ?_
      refine Go.pull (V := T24.setTop (mkF m 49 #[iv pf, iv pl, iv pn, iv pm, iv (own_pick pf pl pn pm), rv b19, iv 0, iv 1, .unset, .unset] [(.int (own_pick pf pl pn pm))])) (fun t k => XS.iload X24.here hx rfl (hb hby at_47) rfl  k) ?_
      refine Go.pull (V := T24.setTop (mkF m 50 #[iv pf, iv pl, iv pn, iv pm, iv (own_pick pf pl pn pm), rv b19, iv 0, iv 1, .unset, .unset] [(.int pl), (.int (own_pick pf pl pn pm))])) (fun t k => XS.iloadN X24.here hx rfl (hb hby at_49) rfl  k) ?_
      obtain ⟨_, _, ⟨T25, L25, k25, n25⟩, -, X25, ⟨Lc25, hQ25, l25, y25, z25⟩, st25⟩ := Jvm.LawKit.callS X24 hx (y := (⟨"java/lang/Math", "min", "(II)I"⟩ : MethodName)) hown (mvT hZ (hw _ (List.mem_of_getElem? (i := 31) rfl))) (mvT hZ (hw _ (List.mem_of_getElem? (i := 32) rfl))) (mvT hZ (hw _ (List.mem_of_getElem? (i := 29) rfl))) (mvT hZ (hw _ (List.mem_of_getElem? (i := 33) rfl))) (by decide) (backOf (W := 0) (rmY l Z a0 hw [] (own_pick pf pl pn pm) pl T22.heap n0 ) hZ (hw _ (List.mem_of_getElem? (i := 33) rfl)) (hw _ (List.mem_of_getElem? (i := 29) rfl)) (by decide) (by decide)) (g := (mkF m 50 #[iv pf, iv pl, iv pn, iv pm, iv (own_pick pf pl pn pm), rv b19, iv 0, iv 1, .unset, .unset] [(.int pl), (.int (own_pick pf pl pn pm))])) rfl (by rw [hml]; rfl) (argsL := [(.int (own_pick pf pl pn pm)), (.int pl)]) (rest := []) (lenOf pd_4 rfl) rfl (by show 2 * 0 + _ ≤ _; exact Nat.le_of_eq rfl) (hb hby at_50) (fun _ _ => ⟨rfl, e24, (by decide : 1 + 0 ≤ _), (by decide : 2 + 0 ≤ _)⟩)
      dsimp only [Pt.U, Pt.locs, Pt.cells, Pt.slots] at X25 l25 y25 z25 st25 hQ25
      subst l25 y25 z25
      obtain ⟨rfl, N25q, e25⟩ := hQ25
      have N25 := Fr.app N24 N25q
      refine Go.pull (V := T25.setTop (mkF m 53 #[iv pf, iv pl, iv pn, iv pm, iv (own_pick pf pl pn pm), rv b19, iv 0, iv 1, .unset, .unset] [(.int (own_min (own_pick pf pl pn pm) pl))])) st25 ?_
      refine Go.pull (V := T25.setTop (mkF m 55 #[iv pf, iv pl, iv pn, iv pm, iv (own_pick pf pl pn pm), rv b19, iv 0, iv 1, .unset, .unset] [(.int (own_pick pf pl pn pm)), (.int (own_min (own_pick pf pl pn pm) pl))])) (fun t k => XS.iload X25.here hx rfl (hb hby at_53) rfl  k) ?_
      refine Go.pull (V := T25.setTop (mkF m 62 #[iv pf, iv pl, iv pn, iv pm, iv (own_pick pf pl pn pm), rv b19, iv 0, iv 1, .unset, .unset] [])) (fun t k => XS.icmpYes X25.here hx rfl (pc0 := 55) (pc' := 62) rfl (hb hby at_55) rfl (XT.ii_ne_t (own_min_n hp18)) (by decide) (by decide) k) ?_
      refine Go.pull (V := T25.setTop (mkF m 63 #[iv pf, iv pl, iv pn, iv pm, iv (own_pick pf pl pn pm), rv b19, iv 0, iv 1, .unset, .unset] [(.int 0)])) (fun t k => XS.iconst X25.here hx rfl (hb hby at_62) k) ?_
      refine Go.pull (V := T25.setTop (mkF m 65 #[iv pf, iv pl, iv pn, iv pm, iv (own_pick pf pl pn pm), rv b19, iv 0, iv 1, iv 0, .unset] [])) (fun t k => XS.istore X25.here hx rfl (hb hby at_63) rfl (l' := #[iv pf, iv pl, iv pn, iv pm, iv (own_pick pf pl pn pm), rv b19, iv 0, iv 1, iv 0, .unset]) rfl k) ?_
      refine Go.pull (V := T25.setTop (mkF m 67 #[iv pf, iv pl, iv pn, iv pm, iv (own_pick pf pl pn pm), rv b19, iv 0, iv 1, iv 0, .unset] [(.int 1)])) (fun t k => XS.iload X25.here hx rfl (hb hby at_65) rfl  k) ?_
      refine Go.pull (V := T25.setTop (mkF m 70 #[iv pf, iv pl, iv pn, iv pm, iv (own_pick pf pl pn pm), rv b19, iv 0, iv 1, iv 0, .unset] [])) (fun t k => XS.ifNo X25.here hx rfl (hb hby at_67) rfl (XT.i0_eq_f (by decide)) k) ?_
      refine Go.pull (V := T25.setTop (mkF m 72 #[iv pf, iv pl, iv pn, iv pm, iv (own_pick pf pl pn pm), rv b19, iv 0, iv 1, iv 0, .unset] [(.int 0)])) (fun t k => XS.iload X25.here hx rfl (hb hby at_70) rfl  k) ?_
      refine Go.pull (V := T25.setTop (mkF m 79 #[iv pf, iv pl, iv pn, iv pm, iv (own_pick pf pl pn pm), rv b19, iv 0, iv 1, iv 0, .unset] [])) (fun t k => XS.ifYes X25.here hx rfl (pc0 := 72) (pc' := 79) rfl (hb hby at_72) rfl (XT.i0_eq_t (by decide)) (by decide) (by decide) k) ?_
      refine Go.pull (V := T25.setTop (mkF m 80 #[iv pf, iv pl, iv pn, iv pm, iv (own_pick pf pl pn pm), rv b19, iv 0, iv 1, iv 0, .unset] [(.int 0)])) (fun t k => XS.iconst X25.here hx rfl (hb hby at_79) k) ?_
      refine Go.pull (V := T25.setTop (mkF m 82 #[iv pf, iv pl, iv pn, iv pm, iv (own_pick pf pl pn pm), rv b19, iv 0, iv 1, iv 0, iv 0] [])) (fun t k => XS.istore X25.here hx rfl (hb hby at_80) rfl (l' := #[iv pf, iv pl, iv pn, iv pm, iv (own_pick pf pl pn pm), rv b19, iv 0, iv 1, iv 0, iv 0]) rfl k) ?_
      refine Go.pull (V := T25.setTop (mkF m 84 #[iv pf, iv pl, iv pn, iv pm, iv (own_pick pf pl pn pm), rv b19, iv 0, iv 1, iv 0, iv 0] [(.int 0)])) (fun t k => XS.iload X25.here hx rfl (hb hby at_82) rfl  k) ?_
      refine Go.pull (V := T25.setTop (mkF m 86 #[iv pf, iv pl, iv pn, iv pm, iv (own_pick pf pl pn pm), rv b19, iv 0, iv 1, iv 0, iv 0] [(.int 0), (.int 0)])) (fun t k => XS.iload X25.here hx rfl (hb hby at_84) rfl  k) ?_
      refine Go.pull (V := T25.setTop (mkF m 89 #[iv pf, iv pl, iv pn, iv pm, iv (own_pick pf pl pn pm), rv b19, iv 0, iv 1, iv 0, iv 0] [])) (fun t k => XS.icmpNo X25.here hx rfl (hb hby at_86) rfl (XT.ii_ne_f (by decide)) k) ?_
      refine Go.pull (V := T25.setTop (mkF m 90 #[iv pf, iv pl, iv pn, iv pm, iv (own_pick pf pl pn pm), rv b19, iv 0, iv 1, iv 0, iv 0] [(.int 1)])) (fun t k => XS.iconst X25.here hx rfl (hb hby at_89) k) ?_
      refine Go.pull (V := T25.setTop (mkF m 94 #[iv pf, iv pl, iv pn, iv pm, iv (own_pick pf pl pn pm), rv b19, iv 0, iv 1, iv 0, iv 0] [(.int 1)])) (fun t k => XS.goto X25.here hx rfl (pc0 := 90) (pc' := 94) rfl (hb hby at_90) (by decide) (by decide) k) ?_
      exact Go.retN X25 hx Bd.notSynchronized (t := .boolean) Bd.returns (by simp) (hb hby at_94) ⟨rfl, N25⟩ (by decide) (by decide)
    · skip
      obtain ⟨T26, h26, X26, e26, E26, A26, D26, -, st26⟩ := newO X1 hx hZ hown (hw _ (List.mem_of_getElem? (i := 4) rfl)) (hw _ (List.mem_of_getElem? (i := 5) rfl)) (hw _ (List.mem_of_getElem? (i := 6) rfl)) e1 (g := (mkF m 9 #[iv pf, iv pl, iv pn, iv pm, iv (own_pick pf pl pn pm), .unset, .unset, .unset, .unset, .unset] [])) rfl (hb hby at_9) (by decide) (by decide)
      obtain ⟨b26, g26⟩ : ∃ z, z = h0.size := ⟨_, rfl⟩
      rw [← g26] at A26 D26 st26
      have sz_b26 : h0.size ≤ b26 := Nat.le_trans ((Keep.refl h0 [])).1 (Nat.le_of_eq g26.symm)
      have g_b26 : n0 ≤ b26 := Nat.le_trans Z0 sz_b26
      have K26 : Keep h0 h26 [] := (Keep.refl h0 []).ext E26
      have F27 : Fld Z h26 b26 "com/example/tagwire/tagwire/NumberRange" "first" "I" (.int 0) := D26 (Or.inr (hw _ (List.mem_of_getElem? (i := 19) rfl))) (ty := .int) (by decide)
      have F28 : Fld Z h26 b26 "com/example/tagwire/tagwire/NumberRange" "last" "I" (.int 0) := D26 (Or.inr (hw _ (List.mem_of_getElem? (i := 21) rfl))) (ty := .int) (by decide)
      refine Go.pull (V := T26.setTop (mkF m 12 #[iv pf, iv pl, iv pn, iv pm, iv (own_pick pf pl pn pm), .unset, .unset, .unset, .unset, .unset] [(.ref b26)])) st26 ?_
      refine Go.pull (V := T26.setTop (mkF m 13 #[iv pf, iv pl, iv pn, iv pm, iv (own_pick pf pl pn pm), .unset, .unset, .unset, .unset, .unset] [(.ref b26), (.ref b26)])) (fun t k => XS.dup X26.here hx rfl (hb hby at_12) rfl rfl k) ?_
      refine Go.pull (V := T26.setTop (mkF m 14 #[iv pf, iv pl, iv pn, iv pm, iv (own_pick pf pl pn pm), .unset, .unset, .unset, .unset, .unset] [(.int pf), (.ref b26), (.ref b26)])) (fun t k => XS.iloadN X26.here hx rfl (hb hby at_13) rfl  k) ?_
      refine Go.pull (V := T26.setTop (mkF m 15 #[iv pf, iv pl, iv pn, iv pm, iv (own_pick pf pl pn pm), .unset, .unset, .unset, .unset, .unset] [(.int pl), (.int pf), (.ref b26), (.ref b26)])) (fun t k => XS.iloadN X26.here hx rfl (hb hby at_14) rfl  k) ?_
      obtain ⟨_, _, ⟨T29, L29, k29, n29⟩, -, X29, ⟨Lc29, hQ29, l29, y29, z29⟩, st29⟩ := X26.specialBack hx (y := (⟨"com/example/tagwire/tagwire/NumberRange", "<init>", "(II)V"⟩ : MethodName)) rfl hown (mvT hZ (hw _ (List.mem_of_getElem? (i := 7) rfl))) (mvT hZ (hw _ (List.mem_of_getElem? (i := 8) rfl))) (mvT hZ (hw _ (List.mem_of_getElem? (i := 9) rfl))) (by decide) (backOf (W := 1) (rmI l Z a0 hw [] b26 pf pl (.int 0) (.int 0) h26 n0 (g_b26) A26 F27 F28) hZ (hw _ (List.mem_of_getElem? (i := 9) rfl)) (hw _ (List.mem_of_getElem? (i := 6) rfl)) (by decide) (by decide)) (g := (mkF m 15 #[iv pf, iv pl, iv pn, iv pm, iv (own_pick pf pl pn pm), .unset, .unset, .unset, .unset, .unset] [(.int pl), (.int pf), (.ref b26), (.ref b26)])) rfl (by rw [hml]; rfl) (Steps.refl _) (a := b26) (argsL := [(.int pf), (.int pl)]) (rest := [(.ref b26)]) (lenOf pd_2 rfl) rfl (by show 2 * 0 + _ ≤ _; exact Nat.le_of_eq rfl) (hb hby at_15) (fun _ _ => ⟨rfl, e26, (by decide : 1 + 0 ≤ _), (by decide : 2 + 0 ≤ _)⟩)
      dsimp only [Pt.U, Pt.locs, Pt.cells, Pt.slots] at X29 l29 y29 z29 st29 hQ29
      subst l29 y29 z29
      obtain ⟨rfl, N29q, Kc29, Fc29_0, Fc29_1⟩ := hQ29
      have K29 : Keep h0 T29.heap [] := K26.trans Kc29 ((allS (Or.inr sz_b26) all0))
      have N29 := Fr.app N1 N29q
      refine Go.pull (V := T29.setTop (mkF m 18 #[iv pf, iv pl, iv pn, iv pm, iv (own_pick pf pl pn pm), .unset, .unset, .unset, .unset, .unset] [(.ref b26)])) (fun _ k => st29.trans k) ?_
      refine Go.pull (V := T29.setTop (mkF m 20 #[iv pf, iv pl, iv pn, iv pm, iv (own_pick pf pl pn pm), rv b26, .unset, .unset, .unset, .unset] [])) (fun t k => XS.astore X29.here hx rfl (hb hby at_18) rfl rfl (l' := #[iv pf, iv pl, iv pn, iv pm, iv (own_pick pf pl pn pm), rv b26, .unset, .unset, .unset, .unset]) rfl k) ?_
      refine Go.pull (V := T29.setTop (mkF m 22 #[iv pf, iv pl, iv pn, iv pm, iv (own_pick pf pl pn pm), rv b26, .unset, .unset, .unset, .unset] [(.ref b26)])) (fun t k => XS.aload X29.here hx rfl (hb hby at_20) rfl rfl k) ?_
      refine Go.pull (V := T29.setTop (mkF m 24 #[iv pf, iv pl, iv pn, iv pm, iv (own_pick pf pl pn pm), rv b26, .unset, .unset, .unset, .unset] [(.int (own_pick pf pl pn pm)), (.ref b26)])) (fun t k => XS.iload X29.here hx rfl (hb hby at_22) rfl  k) ?_
      obtain ⟨cq30, kq30, q30a, q30b, q30c⟩ := isOf hZ rfl (A26.keep Kc29)
      obtain ⟨_, _, ⟨T30, L30, k30, n30⟩, -, X30, ⟨Lc30, hQ30, l30, y30, z30⟩, st30⟩ := X29.virtualBack hx (y := (⟨"com/example/tagwire/tagwire/NumberRange", "contains", "(I)Z"⟩ : MethodName)) (z := (⟨"com/example/tagwire/tagwire/NumberRange", "contains", "(I)Z"⟩ : MethodName)) hown (mvT hZ (hw _ (List.mem_of_getElem? (i := 22) rfl))) (mvT hZ (hw _ (List.mem_of_getElem? (i := 23) rfl))) (notFace_of_selects (args := #[]) (mvT hZ (hw _ (List.mem_of_getElem? (i := 25) rfl)))) (mvT hZ (hw _ (List.mem_of_getElem? (i := 25) rfl))) (mvT hZ (hw _ (List.mem_of_getElem? (i := 24) rfl))) (by decide) (backOf (W := 0) (rmA l Z a0 hw [] b26 (own_pick pf pl pn pm) pf pl T29.heap n0 Fc29_0 Fc29_1) hZ (hw _ (List.mem_of_getElem? (i := 26) rfl)) (hw _ (List.mem_of_getElem? (i := 6) rfl)) (by decide) (by decide)) q30a q30c (g := (mkF m 24 #[iv pf, iv pl, iv pn, iv pm, iv (own_pick pf pl pn pm), rv b26, .unset, .unset, .unset, .unset] [(.int (own_pick pf pl pn pm)), (.ref b26)])) rfl (by rw [hml]; rfl) (Steps.refl _) (argsL := [(.int (own_pick pf pl pn pm))]) (rest := []) (lenOf pd_3 rfl) rfl (by show 2 * 0 + _ ≤ _; exact Nat.le_of_eq rfl) (hb hby at_24) (fun _ _ => ⟨rfl, rfl, (by decide : 1 + 0 ≤ _), (by decide : 2 + 0 ≤ _)⟩)
      dsimp only [Pt.U, Pt.locs, Pt.cells, Pt.slots] at X30 l30 y30 z30 st30 hQ30
      subst l30 y30 z30
      obtain ⟨hv30, N30q, e30⟩ := hQ30
      rw [(show (own_in pf pl (own_pick pf pl pn pm)) = (1 : Int32) from by rw [own_in, if_neg hp2, if_neg hp18])] at hv30; subst hv30
      have N30 := Fr.app N29 N30q
      refine Go.pull (V := T30.setTop (mkF m 27 #[iv pf, iv pl, iv pn, iv pm, iv (own_pick pf pl pn pm), rv b26, .unset, .unset, .unset, .unset] [(.int 1)])) (fun _ k => st30.trans k) ?_
      refine Go.pull (V := T30.setTop (mkF m 29 #[iv pf, iv pl, iv pn, iv pm, iv (own_pick pf pl pn pm), rv b26, iv 1, .unset, .unset, .unset] [])) (fun t k => XS.istore X30.here hx rfl (hb hby at_27) rfl (l' := #[iv pf, iv pl, iv pn, iv pm, iv (own_pick pf pl pn pm), rv b26, iv 1, .unset, .unset, .unset]) rfl k) ?_
      refine Go.pull (V := T30.setTop (mkF m 30 #[iv pf, iv pl, iv pn, iv pm, iv (own_pick pf pl pn pm), rv b26, iv 1, .unset, .unset, .unset] [(.int pf)])) (fun t k => XS.iloadN X30.here hx rfl (hb hby at_29) rfl  k) ?_
      refine Go.pull (V := T30.setTop (mkF m 32 #[iv pf, iv pl, iv pn, iv pm, iv (own_pick pf pl pn pm), rv b26, iv 1, .unset, .unset, .unset] [(.int (own_pick pf pl pn pm)), (.int pf)])) (fun t k => XS.iload X30.here hx rfl (hb hby at_30) rfl  k) ?_
      obtain ⟨_, _, ⟨T31, L31, k31, n31⟩, -, X31, ⟨Lc31, hQ31, l31, y31, z31⟩, st31⟩ := Jvm.LawKit.callS X30 hx (y := (⟨"java/lang/Math", "max", "(II)I"⟩ : MethodName)) hown (mvT hZ (hw _ (List.mem_of_getElem? (i := 27) rfl))) (mvT hZ (hw _ (List.mem_of_getElem? (i := 28) rfl))) (mvT hZ (hw _ (List.mem_of_getElem? (i := 29) rfl))) (mvT hZ (hw _ (List.mem_of_getElem? (i := 30) rfl))) (by decide) (backOf (W := 0) (rmX l Z a0 hw [] pf (own_pick pf pl pn pm) T29.heap n0 ) hZ (hw _ (List.mem_of_getElem? (i := 30) rfl)) (hw _ (List.mem_of_getElem? (i := 29) rfl)) (by decide) (by decide)) (g := (mkF m 32 #[iv pf, iv pl, iv pn, iv pm, iv (own_pick pf pl pn pm), rv b26, iv 1, .unset, .unset, .unset] [(.int (own_pick pf pl pn pm)), (.int pf)])) rfl (by rw [hml]; rfl) (argsL := [(.int pf), (.int (own_pick pf pl pn pm))]) (rest := []) (lenOf pd_4 rfl) rfl (by show 2 * 0 + _ ≤ _; exact Nat.le_of_eq rfl) (hb hby at_32) (fun _ _ => ⟨rfl, e30, (by decide : 1 + 0 ≤ _), (by decide : 2 + 0 ≤ _)⟩)
      dsimp only [Pt.U, Pt.locs, Pt.cells, Pt.slots] at X31 l31 y31 z31 st31 hQ31
      subst l31 y31 z31
      obtain ⟨rfl, N31q, e31⟩ := hQ31
      have N31 := Fr.app N30 N31q
      refine Go.pull (V := T31.setTop (mkF m 35 #[iv pf, iv pl, iv pn, iv pm, iv (own_pick pf pl pn pm), rv b26, iv 1, .unset, .unset, .unset] [(.int (own_max pf (own_pick pf pl pn pm)))])) st31 ?_
      refine Go.pull (V := T31.setTop (mkF m 37 #[iv pf, iv pl, iv pn, iv pm, iv (own_pick pf pl pn pm), rv b26, iv 1, .unset, .unset, .unset] [(.int (own_pick pf pl pn pm)), (.int (own_max pf (own_pick pf pl pn pm)))])) (fun t k => XS.iload X31.here hx rfl (hb hby at_35) rfl  k) ?_
      refine Go.pull (V := T31.setTop (mkF m 40 #[iv pf, iv pl, iv pn, iv pm, iv (own_pick pf pl pn pm), rv b26, iv 1, .unset, .unset, .unset] [])) (fun t k => XS.icmpNo X31.here hx rfl (hb hby at_37) rfl (XT.ii_ne_f (own_max_y hp2)) k) ?_
      refine Go.pull (V := T31.setTop (mkF m 41 #[iv pf, iv pl, iv pn, iv pm, iv (own_pick pf pl pn pm), rv b26, iv 1, .unset, .unset, .unset] [(.int 1)])) (fun t k => XS.iconst X31.here hx rfl (hb hby at_40) k) ?_
      refine Go.pull (V := T31.setTop (mkF m 45 #[iv pf, iv pl, iv pn, iv pm, iv (own_pick pf pl pn pm), rv b26, iv 1, .unset, .unset, .unset] [(.int 1)])) (fun t k => XS.goto X31.here hx rfl (pc0 := 41) (pc' := 45) rfl (hb hby at_41) (by decide) (by decide) k) ?_
      refine Go.pull (V := T31.setTop (mkF m 47 #[iv pf, iv pl, iv pn, iv pm, iv (own_pick pf pl pn pm), rv b26, iv 1, iv 1, .unset, .unset] [])) (fun t k => XS.istore X31.here hx rfl (hb hby at_45) rfl (l' := #[iv pf, iv pl, iv pn, iv pm, iv (own_pick pf pl pn pm), rv b26, iv 1, iv 1, .unset, .unset]) rfl k) ?_
      refine Go.pull (V := T31.setTop (mkF m 49 #[iv pf, iv pl, iv pn, iv pm, iv (own_pick pf pl pn pm), rv b26, iv 1, iv 1, .unset, .unset] [(.int (own_pick pf pl pn pm))])) (fun t k => XS.iload X31.here hx rfl (hb hby at_47) rfl  k) ?_
      refine Go.pull (V := T31.setTop (mkF m 50 #[iv pf, iv pl, iv pn, iv pm, iv (own_pick pf pl pn pm), rv b26, iv 1, iv 1, .unset, .unset] [(.int pl), (.int (own_pick pf pl pn pm))])) (fun t k => XS.iloadN X31.here hx rfl (hb hby at_49) rfl  k) ?_
      obtain ⟨_, _, ⟨T32, L32, k32, n32⟩, -, X32, ⟨Lc32, hQ32, l32, y32, z32⟩, st32⟩ := Jvm.LawKit.callS X31 hx (y := (⟨"java/lang/Math", "min", "(II)I"⟩ : MethodName)) hown (mvT hZ (hw _ (List.mem_of_getElem? (i := 31) rfl))) (mvT hZ (hw _ (List.mem_of_getElem? (i := 32) rfl))) (mvT hZ (hw _ (List.mem_of_getElem? (i := 29) rfl))) (mvT hZ (hw _ (List.mem_of_getElem? (i := 33) rfl))) (by decide) (backOf (W := 0) (rmY l Z a0 hw [] (own_pick pf pl pn pm) pl T29.heap n0 ) hZ (hw _ (List.mem_of_getElem? (i := 33) rfl)) (hw _ (List.mem_of_getElem? (i := 29) rfl)) (by decide) (by decide)) (g := (mkF m 50 #[iv pf, iv pl, iv pn, iv pm, iv (own_pick pf pl pn pm), rv b26, iv 1, iv 1, .unset, .unset] [(.int pl), (.int (own_pick pf pl pn pm))])) rfl (by rw [hml]; rfl) (argsL := [(.int (own_pick pf pl pn pm)), (.int pl)]) (rest := []) (lenOf pd_4 rfl) rfl (by show 2 * 0 + _ ≤ _; exact Nat.le_of_eq rfl) (hb hby at_50) (fun _ _ => ⟨rfl, e31, (by decide : 1 + 0 ≤ _), (by decide : 2 + 0 ≤ _)⟩)
      dsimp only [Pt.U, Pt.locs, Pt.cells, Pt.slots] at X32 l32 y32 z32 st32 hQ32
      subst l32 y32 z32
      obtain ⟨rfl, N32q, e32⟩ := hQ32
      have N32 := Fr.app N31 N32q
      refine Go.pull (V := T32.setTop (mkF m 53 #[iv pf, iv pl, iv pn, iv pm, iv (own_pick pf pl pn pm), rv b26, iv 1, iv 1, .unset, .unset] [(.int (own_min (own_pick pf pl pn pm) pl))])) st32 ?_
      refine Go.pull (V := T32.setTop (mkF m 55 #[iv pf, iv pl, iv pn, iv pm, iv (own_pick pf pl pn pm), rv b26, iv 1, iv 1, .unset, .unset] [(.int (own_pick pf pl pn pm)), (.int (own_min (own_pick pf pl pn pm) pl))])) (fun t k => XS.iload X32.here hx rfl (hb hby at_53) rfl  k) ?_
      refine Go.pull (V := T32.setTop (mkF m 58 #[iv pf, iv pl, iv pn, iv pm, iv (own_pick pf pl pn pm), rv b26, iv 1, iv 1, .unset, .unset] [])) (fun t k => XS.icmpNo X32.here hx rfl (hb hby at_55) rfl (XT.ii_ne_f (own_min_y hp18)) k) ?_
      refine Go.pull (V := T32.setTop (mkF m 59 #[iv pf, iv pl, iv pn, iv pm, iv (own_pick pf pl pn pm), rv b26, iv 1, iv 1, .unset, .unset] [(.int 1)])) (fun t k => XS.iconst X32.here hx rfl (hb hby at_58) k) ?_
      refine Go.pull (V := T32.setTop (mkF m 63 #[iv pf, iv pl, iv pn, iv pm, iv (own_pick pf pl pn pm), rv b26, iv 1, iv 1, .unset, .unset] [(.int 1)])) (fun t k => XS.goto X32.here hx rfl (pc0 := 59) (pc' := 63) rfl (hb hby at_59) (by decide) (by decide) k) ?_
      refine Go.pull (V := T32.setTop (mkF m 65 #[iv pf, iv pl, iv pn, iv pm, iv (own_pick pf pl pn pm), rv b26, iv 1, iv 1, iv 1, .unset] [])) (fun t k => XS.istore X32.here hx rfl (hb hby at_63) rfl (l' := #[iv pf, iv pl, iv pn, iv pm, iv (own_pick pf pl pn pm), rv b26, iv 1, iv 1, iv 1, .unset]) rfl k) ?_
      refine Go.pull (V := T32.setTop (mkF m 67 #[iv pf, iv pl, iv pn, iv pm, iv (own_pick pf pl pn pm), rv b26, iv 1, iv 1, iv 1, .unset] [(.int 1)])) (fun t k => XS.iload X32.here hx rfl (hb hby at_65) rfl  k) ?_
      refine Go.pull (V := T32.setTop (mkF m 70 #[iv pf, iv pl, iv pn, iv pm, iv (own_pick pf pl pn pm), rv b26, iv 1, iv 1, iv 1, .unset] [])) (fun t k => XS.ifNo X32.here hx rfl (hb hby at_67) rfl (XT.i0_eq_f (by decide)) k) ?_
      refine Go.pull (V := T32.setTop (mkF m 72 #[iv pf, iv pl, iv pn, iv pm, iv (own_pick pf pl pn pm), rv b26, iv 1, iv 1, iv 1, .unset] [(.int 1)])) (fun t k => XS.iload X32.here hx rfl (hb hby at_70) rfl  k) ?_
      refine Go.pull (V := T32.setTop (mkF m 75 #[iv pf, iv pl, iv pn, iv pm, iv (own_pick pf pl pn pm), rv b26, iv 1, iv 1, iv 1, .unset] [])) (fun t k => XS.ifNo X32.here hx rfl (hb hby at_72) rfl (XT.i0_eq_f (by decide)) k) ?_
      refine Go.pull (V := T32.setTop (mkF m 76 #[iv pf, iv pl, iv pn, iv pm, iv (own_pick pf pl pn pm), rv b26, iv 1, iv 1, iv 1, .unset] [(.int 1)])) (fun t k => XS.iconst X32.here hx rfl (hb hby at_75) k) ?_
      refine Go.pull (V := T32.setTop (mkF m 80 #[iv pf, iv pl, iv pn, iv pm, iv (own_pick pf pl pn pm), rv b26, iv 1, iv 1, iv 1, .unset] [(.int 1)])) (fun t k => XS.goto X32.here hx rfl (pc0 := 76) (pc' := 80) rfl (hb hby at_76) (by decide) (by decide) k) ?_
      refine Go.pull (V := T32.setTop (mkF m 82 #[iv pf, iv pl, iv pn, iv pm, iv (own_pick pf pl pn pm), rv b26, iv 1, iv 1, iv 1, iv 1] [])) (fun t k => XS.istore X32.here hx rfl (hb hby at_80) rfl (l' := #[iv pf, iv pl, iv pn, iv pm, iv (own_pick pf pl pn pm), rv b26, iv 1, iv 1, iv 1, iv 1]) rfl k) ?_
      refine Go.pull (V := T32.setTop (mkF m 84 #[iv pf, iv pl, iv pn, iv pm, iv (own_pick pf pl pn pm), rv b26, iv 1, iv 1, iv 1, iv 1] [(.int 1)])) (fun t k => XS.iload X32.here hx rfl (hb hby at_82) rfl  k) ?_
      refine Go.pull (V := T32.setTop (mkF m 86 #[iv pf, iv pl, iv pn, iv pm, iv (own_pick pf pl pn pm), rv b26, iv 1, iv 1, iv 1, iv 1] [(.int 1), (.int 1)])) (fun t k => XS.iload X32.here hx rfl (hb hby at_84) rfl  k) ?_
      refine Go.pull (V := T32.setTop (mkF m 89 #[iv pf, iv pl, iv pn, iv pm, iv (own_pick pf pl pn pm), rv b26, iv 1, iv 1, iv 1, iv 1] [])) (fun t k => XS.icmpNo X32.here hx rfl (hb hby at_86) rfl (XT.ii_ne_f (by decide)) k) ?_
      refine Go.pull (V := T32.setTop (mkF m 90 #[iv pf, iv pl, iv pn, iv pm, iv (own_pick pf pl pn pm), rv b26, iv 1, iv 1, iv 1, iv 1] [(.int 1)])) (fun t k => XS.iconst X32.here hx rfl (hb hby at_89) k) ?_
      refine Go.pull (V := T32.setTop (mkF m 94 #[iv pf, iv pl, iv pn, iv pm, iv (own_pick pf pl pn pm), rv b26, iv 1, iv 1, iv 1, iv 1] [(.int 1)])) (fun t k => XS.goto X32.here hx rfl (pc0 := 90) (pc' := 94) rfl (hb hby at_90) (by decide) (by decide) k) ?_
      exact Go.retN X32 hx Bd.notSynchronized (t := .boolean) Bd.returns (by simp) (hb hby at_94) ⟨rfl, N32⟩ (by decide) (by decide)
set_option maxRecDepth 65536 in
set_option maxHeartbeats 40000000 in
theorem comes_1 {Post : Tables → Env → Array Value → State → Outcome → State → Prop} (hpost : ∀ tb e args s v u, (limb_1_1.after args s (.returned v) u = true ∧ limb_1_2.after args s (.returned v) u = true ∧ True) → FrameEnd s (.returned v) u (Jvm.fieldLocs frame_1_writes args s ++ Jvm.arrayLocs frame_1_arrays args s ++ Jvm.staticLocs frame_1_statics s) 16 128 → Post tb e args s (.returned v) u) :
    ArmFor flags0 classFile x code maxLocals ret World_1 tables_1 room_1 Calls_1 rest_1 Pre_1 Post := by
  intro l hfl _ _ p e ha hc hk s m args below hf hA hF happ hP
  obtain ⟨hcalls, hrest, hpre⟩ := hP
  obtain ⟨-, -, -, hnamed, -, -, -, hat⟩ := (Spec.applies_iff hf).mp happ
  obtain ⟨hg, hn⟩ := and_e (Cond.before_iff.mp (show (Jvm.Cond.and given_1 narrow_1).before args s = true from hpre))
  obtain ⟨y1, y2⟩ := and_e hg
  obtain ⟨y3, y4⟩ := and_e y2
  obtain ⟨y5, y6⟩ := and_e y4
  obtain ⟨y7, y8⟩ := and_e y6
  obtain ⟨w0, w1, w2, w3, rfl⟩ : ∃ w0 w1 w2 w3 : Value, args = #[w0, w1, w2, w3] := by
    have hs : args.size = 4 := by simpa [Cond.value, given_1] using y1
    obtain ⟨L⟩ := args
    match L, hs with
    | [w0, w1, w2, w3], _ => exact ⟨w0, w1, w2, w3, rfl⟩
  have hw := fun d (hd : d ∈ tables_1) => atoms_spec (ws := Jvm.Cond.code x code maxLocals ret :: tables_1) hat d (List.mem_cons_of_mem _ hd)
  have hfit : Fit s := fun {y c} hc i hi => by
    obtain ⟨ha, rfl⟩ := Array.getElem?_eq_some_iff.mp hc
    have q := List.all_eq_true.mp ((Array.all_eq_true_iff_forall_mem.mp hF) _ (Array.getElem_mem ha)) i (List.mem_range.mpr hi)
    simpa [Array.getElem?_eq_getElem hi] using q
  obtain ⟨i0, ei0⟩ := is_v y3
  obtain rfl : w0 = (.int i0) := Option.some.inj ei0
  obtain ⟨i1, ei1⟩ := is_v y5
  obtain rfl : w1 = (.int i1) := Option.some.inj ei1
  obtain ⟨i2, ei2⟩ := is_v y7
  obtain rfl : w2 = (.int i2) := Option.some.inj ei2
  obtain ⟨i3, ei3⟩ := is_v y8
  obtain rfl : w3 = (.int i3) := Option.some.inj ei3
  obtain ⟨n, o, h1, h2, h3, _, L, rfl, ⟨rfl, N⟩, hq⟩ := rm0 l s _ hw tables_1 i0 i1 i2 i3 s.heap s.heap.size (Nat.le_refl _)  p e ha hc hk s m _ below hf ((Spec.applies_iff_loose hf).mp happ).1 ⟨rfl, State.Warmed39.refl s, rfl⟩ trivial
  refine ⟨n, _, h1, h2, h3, hpost _ _ _ _ _ _ ⟨Cond.after_iff.mpr rfl, Cond.after_iff.mpr (eq_i res_at (Term.int_eval (1)) rfl), trivial⟩ ⟨hq.1, hq.2.1, (hq.2.2.sift fun y hy => Or.inr (N y hy)).mono (by decide) (by decide)⟩⟩
theorem main_1_1 : Claimed_1_1 := comes_1 fun _ _ _ _ _ _ h hF => ⟨h.1, hF⟩
theorem main_1_2 : Claimed_1_2 := comes_1 fun _ _ _ _ _ _ h hF => ⟨h.2.1, hF⟩
end Jvm.Pilot.@@N@@
namespace Jvm.Pilot.@@N@@
open Jvm Jvm.ClassFile Sem Op Lib Jvm.Free Jvm.Stand Jvm.Pilot.@@N@@.Jvm.D
/-! MADE BY PROGRAM (witnessworld.py) out of the Statement's table words and the real class files: 11 classes; the members and pool entries that the words name. The judged class is class 1, her method 2. -/
namespace start1
open Jvm.ClassFile
def u (s : String) : CpInfo := .utf8 (stringToUtf16 s)
/-- a pool by its gaps: so many unusable entries, then the entry; so many at the end -/
def gap : Nat → List CpInfo → List CpInfo
  | 0, r => r
  | n + 1, r => .unusable :: gap n r
def poolList (es : List (Nat × CpInfo)) (last : Nat) : List CpInfo := es.foldr (fun e r => gap e.1 (e.2 :: r)) (gap last [])
def pool (es : List (Nat × CpInfo)) (last : Nat) : Array CpInfo := ⟨poolList es last⟩
def fileOf (pool : Array CpInfo) (this : Nat) (attrs : Array Attribute := #[]) (ms : Array MethodInfo := #[]) (fl : Nat := 33) (sup : Nat := 0) (ifs : Array Nat := #[]) (fds : Array FieldInfo := #[]) : ClassFile where
  minorVersion := 0
  majorVersion := 65
  constantPool := pool
  accessFlags := fl
  thisClass := this
  superClass := sup
  interfaces := ifs
  fields := fds
  methods := ms
  attributes := attrs
def plain (name : String) (sup : Option ClassId) : Class where
  name := name
  kind := .ordinary
  loader := none
  accessFlags := 33
  super := sup
  interfaces := #[]
  cf := none
  fields := #[]
  methods := #[]
  instanceTypes := #[]
  staticTypes := #[]
  resolved := #[]
  callSites := []
  init := .initialized
  statics := none
  mirror := none

def pool0 : Array CpInfo := pool [(5, u "<init>"), (0, u "()V"), (1, .class_ 10), (1, u "java/lang/Object")] 113

def k0c0 : Code := { maxStack := 0, maxLocals := 1, code := object_method_1_code, exceptionTable := #[], attributes := #[] }
def k0m0 : Method := { name := "<init>", desc := "()V", sig := { parameters := [], returnType := none }, accessFlags := 1, code := some k0c0 }
/-- java/lang/Object -/
def k0 : Class := { plain "java/lang/Object" none with
  accessFlags := 33
  interfaces := #[]
  cf := some (fileOf pool0 8 #[] #[{ accessFlags := 1, nameIndex := 5, descriptorIndex := 6, attributes := #[] }] 33 0 #[] #[])
  fields := #[]
  methods := #[k0m0]
  instanceTypes := #[]
  staticTypes := #[]
  resolved := Array.replicate 124 none
  statics := none }

def pool1 : Array CpInfo := pool [(2, .class_ 4), (1, u "java/lang/Object"), (0, u "<init>"), (0, u "()V"), (0, .methodref 8 9), (0, .class_ 10), (0, .nameAndType 11 12), (0, u "com/example/tagwire/tagwire/NumberRangeContainsPinLaw"), (0, u "pick"), (0, u "(IIII)I"), (0, .class_ 14), (0, u "com/example/tagwire/tagwire/NumberRange"), (0, .methodref 13 16), (0, .nameAndType 5 17), (0, u "(II)V"), (0, .methodref 13 19), (0, .nameAndType 20 21), (0, u "contains"), (0, u "(I)Z"), (0, .methodref 23 24), (0, .class_ 25), (0, .nameAndType 26 27), (0, u "java/lang/Math"), (0, u "max"), (0, u "(II)I"), (0, .methodref 23 29), (0, .nameAndType 30 27), (0, u "min"), (3, u "law"), (0, u "(IIII)Z")] 2

def k1m0 : Method := { name := "<init>", desc := "()V", sig := { parameters := [], returnType := none }, accessFlags := 1, code := none }
def k1c1 : Code := { maxStack := 2, maxLocals := 5, code := method_2_code, exceptionTable := #[], attributes := #[] }
def k1m1 : Method := { name := "pick", desc := "(IIII)I", sig := { parameters := [.int, .int, .int, .int], returnType := some .int }, accessFlags := 10, code := some k1c1 }
def k1c2 : Code := { maxStack := 4, maxLocals := 10, code := code, exceptionTable := #[], attributes := #[] }
def k1m2 : Method := { name := "law", desc := "(IIII)Z", sig := { parameters := [.int, .int, .int, .int], returnType := some .boolean }, accessFlags := 9, code := some k1c2 }
/-- com/example/tagwire/tagwire/NumberRangeContainsPinLaw -/
def k1 : Class := { plain "com/example/tagwire/tagwire/NumberRangeContainsPinLaw" (some 0) with
  accessFlags := 49
  interfaces := #[]
  cf := some (fileOf pool1 8 #[] #[{ accessFlags := 1, nameIndex := 5, descriptorIndex := 6, attributes := #[] }, { accessFlags := 10, nameIndex := 11, descriptorIndex := 12, attributes := #[] }, { accessFlags := 9, nameIndex := 34, descriptorIndex := 35, attributes := #[] }] 49 2 #[] #[])
  fields := #[]
  methods := #[k1m0, k1m1, k1m2]
  instanceTypes := #[]
  staticTypes := #[]
  resolved := Array.replicate 38 none
  statics := none }

def pool2 : Array CpInfo := pool [(1, .methodref 2 3), (0, .class_ 4), (0, .nameAndType 5 6), (0, u "java/lang/Object"), (0, u "<init>"), (0, u "()V"), (0, .class_ 8), (0, u "java/lang/Record")] 13

def k2c0 : Code := { maxStack := 1, maxLocals := 1, code := jdk_30_method_1_code, exceptionTable := #[], attributes := #[] }
def k2m0 : Method := { name := "<init>", desc := "()V", sig := { parameters := [], returnType := none }, accessFlags := 4, code := some k2c0 }
/-- java/lang/Record -/
def k2 : Class := { plain "java/lang/Record" (some 0) with
  accessFlags := 1057
  interfaces := #[]
  cf := some (fileOf pool2 7 #[] #[{ accessFlags := 4, nameIndex := 5, descriptorIndex := 6, attributes := #[] }] 1057 2 #[] #[])
  fields := #[]
  methods := #[k2m0]
  instanceTypes := #[]
  staticTypes := #[]
  resolved := Array.replicate 22 none
  statics := none }

def pool3 : Array CpInfo := pool [(1, .methodref 2 3), (0, .class_ 4), (0, .nameAndType 5 6), (0, u "java/lang/Record"), (0, u "<init>"), (0, u "()V"), (0, .fieldref 8 9), (0, .class_ 10), (0, .nameAndType 11 12), (0, u "com/example/tagwire/tagwire/NumberRange"), (0, u "first"), (0, u "I"), (0, .fieldref 8 14), (0, .nameAndType 15 12), (0, u "last"), (12, u "(II)V"), (3, u "contains"), (0, u "(I)Z")] 34

def k3c0 : Code := { maxStack := 2, maxLocals := 3, code := prog_22_method_1_code, exceptionTable := #[], attributes := #[] }
def k3m0 : Method := { name := "<init>", desc := "(II)V", sig := { parameters := [.int, .int], returnType := none }, accessFlags := 1, code := some k3c0 }
def k3c1 : Code := { maxStack := 2, maxLocals := 2, code := prog_22_method_2_code, exceptionTable := #[], attributes := #[] }
def k3m1 : Method := { name := "contains", desc := "(I)Z", sig := { parameters := [.int], returnType := some .boolean }, accessFlags := 1, code := some k3c1 }
/-- com/example/tagwire/tagwire/NumberRange -/
def k3 : Class := { plain "com/example/tagwire/tagwire/NumberRange" (some 2) with
  accessFlags := 49
  interfaces := #[]
  cf := some (fileOf pool3 8 #[] #[{ accessFlags := 1, nameIndex := 5, descriptorIndex := 28, attributes := #[] }, { accessFlags := 1, nameIndex := 32, descriptorIndex := 33, attributes := #[] }] 49 2 #[] #[{ accessFlags := 18, nameIndex := 11, descriptorIndex := 12, attributes := #[] }, { accessFlags := 18, nameIndex := 15, descriptorIndex := 12, attributes := #[] }])
  fields := #[{ name := "first", type := .int, accessFlags := 18, slot := 0, constantValue := 0 }, { name := "last", type := .int, accessFlags := 18, slot := 1, constantValue := 0 }]
  methods := #[k3m0, k3m1]
  instanceTypes := #[.int, .int]
  staticTypes := #[]
  resolved := Array.replicate 68 none
  statics := none }

def pool4 : Array CpInfo := pool [(1, .class_ 2), (0, u "java/lang/Math"), (1, .class_ 6), (1, u "java/lang/Object"), (0, u "<init>"), (0, u "()V"), (89, .class_ 100), (1, u "java/lang/Math$RandomNumberGeneratorHolder"), (71, u "negativeZeroFloatBits"), (0, u "J"), (2, u "negativeZeroDoubleBits"), (21, u "max"), (2, u "min"), (43, u "$assertionsDisabled"), (0, u "Z"), (88, u "(II)I"), (2, u "twoToTheDoubleScaleDown"), (0, u "D"), (4, u "twoToTheDoubleScaleUp"), (9, u "E"), (3, u "PI"), (2, u "TAU"), (2, u "DEGREES_TO_RADIANS"), (0, u "RADIANS_TO_DEGREES")] 94

def k4m0 : Method := { name := "<init>", desc := "()V", sig := { parameters := [], returnType := none }, accessFlags := 2, code := none }
def k4c1 : Code := { maxStack := 2, maxLocals := 2, code := jdk_29_method_65_code, exceptionTable := #[], attributes := #[] }
def k4m1 : Method := { name := "max", desc := "(II)I", sig := { parameters := [.int, .int], returnType := some .int }, accessFlags := 9, code := some k4c1 }
def k4c2 : Code := { maxStack := 2, maxLocals := 2, code := jdk_29_method_69_code, exceptionTable := #[], attributes := #[] }
def k4m2 : Method := { name := "min", desc := "(II)I", sig := { parameters := [.int, .int], returnType := some .int }, accessFlags := 9, code := some k4c2 }
/-- java/lang/Math -/
def k4 : Class := { plain "java/lang/Math" (some 0) with
  accessFlags := 49
  interfaces := #[]
  cf := some (fileOf pool4 1 #[.nestMembers #[98]] #[{ accessFlags := 2, nameIndex := 7, descriptorIndex := 8, attributes := #[] }, { accessFlags := 9, nameIndex := 198, descriptorIndex := 335, attributes := #[] }, { accessFlags := 9, nameIndex := 201, descriptorIndex := 335, attributes := #[] }] 49 4 #[] #[{ accessFlags := 25, nameIndex := 354, descriptorIndex := 339, attributes := #[] }, { accessFlags := 25, nameIndex := 358, descriptorIndex := 339, attributes := #[] }, { accessFlags := 25, nameIndex := 361, descriptorIndex := 339, attributes := #[] }, { accessFlags := 26, nameIndex := 364, descriptorIndex := 339, attributes := #[] }, { accessFlags := 26, nameIndex := 365, descriptorIndex := 339, attributes := #[] }, { accessFlags := 26, nameIndex := 172, descriptorIndex := 173, attributes := #[] }, { accessFlags := 26, nameIndex := 176, descriptorIndex := 173, attributes := #[] }, { accessFlags := 8, nameIndex := 344, descriptorIndex := 339, attributes := #[] }, { accessFlags := 8, nameIndex := 338, descriptorIndex := 339, attributes := #[] }, { accessFlags := 4120, nameIndex := 245, descriptorIndex := 246, attributes := #[] }])
  fields := #[{ name := "E", type := .double, accessFlags := 25, slot := 0, constantValue := 0 }, { name := "PI", type := .double, accessFlags := 25, slot := 1, constantValue := 0 }, { name := "TAU", type := .double, accessFlags := 25, slot := 2, constantValue := 0 }, { name := "DEGREES_TO_RADIANS", type := .double, accessFlags := 26, slot := 3, constantValue := 0 }, { name := "RADIANS_TO_DEGREES", type := .double, accessFlags := 26, slot := 4, constantValue := 0 }, { name := "negativeZeroFloatBits", type := .long, accessFlags := 26, slot := 5, constantValue := 0 }, { name := "negativeZeroDoubleBits", type := .long, accessFlags := 26, slot := 6, constantValue := 0 }, { name := "twoToTheDoubleScaleUp", type := .double, accessFlags := 8, slot := 7, constantValue := 0 }, { name := "twoToTheDoubleScaleDown", type := .double, accessFlags := 8, slot := 8, constantValue := 0 }, { name := "$assertionsDisabled", type := .boolean, accessFlags := 4120, slot := 9, constantValue := 0 }]
  methods := #[k4m0, k4m1, k4m2]
  instanceTypes := #[]
  staticTypes := #[.double, .double, .double, .double, .double, .long, .long, .double, .double, .boolean]
  resolved := Array.replicate 460 none
  statics := none }

def pool5 : Array CpInfo := pool [(1, u "java/lang/Cloneable"), (0, .class_ 1), (0, u "java/lang/Object"), (0, .class_ 3)] 3

/-- java/lang/Cloneable -/
def k5 : Class := { plain "java/lang/Cloneable" (some 0) with
  accessFlags := 1537
  interfaces := #[]
  cf := some (fileOf pool5 2 #[] #[] 1537 4 #[] #[])
  fields := #[]
  methods := #[]
  instanceTypes := #[]
  staticTypes := #[]
  resolved := Array.replicate 8 none
  statics := none }

def pool6 : Array CpInfo := pool [(1, u "java/io/Serializable"), (0, .class_ 1), (0, u "java/lang/Object"), (0, .class_ 3)] 3

/-- java/io/Serializable -/
def k6 : Class := { plain "java/io/Serializable" (some 0) with
  accessFlags := 1537
  interfaces := #[]
  cf := some (fileOf pool6 2 #[] #[] 1537 4 #[] #[])
  fields := #[]
  methods := #[]
  instanceTypes := #[]
  staticTypes := #[]
  resolved := Array.replicate 8 none
  statics := none }

/-- the primitive byte -/
def k7 : Class := { plain "byte" none with kind := .primitive 'B', accessFlags := 0x411 }
/-- [B -/
def k8 : Class := { plain "[B" (some 0) with kind := .array 7 .byte, interfaces := #[5, 6], accessFlags := 1041 }

/-- the primitive int -/
def k9 : Class := { plain "int" none with kind := .primitive 'I', accessFlags := 0x411 }
/-- [I -/
def k10 : Class := { plain "[I" (some 0) with kind := .array 9 .int, interfaces := #[5, 6], accessFlags := 1041 }

def heap : Heap := #[]
def classes : Array Class := #[k0, k1, k2, k3, k4, k5, k6, k7, k8, k9, k10]
def interned : List (Array UInt16 × Addr) := []
def slotsUsed : Nat := 0
def theMethod : MethodId := ⟨1, 2⟩
def args0 : Array Value := #[.int 1, .int 5, .int 3, .int 0]
def aboutOver (below : List Frame) : State where
  vm := { classes := classes, interned := interned.toArray }
  heap := heap
  slotsUsed := slotsUsed
  threads := #[{ frames := .invoking theMethod args0 :: below }]
def below0 : List Frame := [.native { method := ⟨0, 0⟩, args := #[] }]
def about1 : State := aboutOver below0
def p0 : Program := .bare "" "" ""
def e0 : Env := launch0.env 0 0 0
theorem w_frames : about1.frames = Frame.invoking theMethod args0 :: below0 := rfl
set_option maxRecDepth 65536 in
theorem w_args : argsFit about1.vm theMethod args0 = true := by decide +kernel
set_option maxRecDepth 65536 in
theorem w_heap : heapFits about1 = true := by decide +kernel
set_option maxRecDepth 65536 in
theorem w_runnable : about1.curStatus? = some .runnable := by decide +kernel
set_option maxRecDepth 65536 in
theorem w_alone : about1.alone = true := by decide +kernel
set_option maxRecDepth 65536 in
theorem w_named : about1.methodNamed? x = some theMethod := by decide +kernel
set_option maxRecDepth 65536 in
theorem w_hears : about1.hears theMethod below0 = true := by decide +kernel
set_option maxRecDepth 65536 in
theorem w_ripe : about1.ripe theMethod args0 below0 = true := by decide +kernel
theorem w_running : about1.status = .running := rfl
set_option maxRecDepth 65536 in
theorem w_room : about1.hasRoom e0.platform room_1 = true :=
  launch0.hasRoom_least _ room_1 (by decide +kernel) (by decide +kernel) (by decide +kernel) (by decide +kernel) (by decide +kernel) (by decide +kernel)
theorem allAtoms_all (ts : List Jvm.Cond) (a : Array Jvm.Value) (st : Jvm.State) : (allAtoms ts).before a st = ts.all (fun c => c.before a st) := by
  induction ts with
  | nil => rfl
  | cons c t ih =>
    show (Jvm.Cond.and c (allAtoms t)).before a st = _
    rw [Jvm.Cond.before_and, ih, List.all_cons]
def words1 : List Jvm.Cond := Jvm.Cond.code x code maxLocals ret :: tables_1
/-- a 'code' word, met by the world's own term for the bytes: nothing is compared byte by byte -/
theorem code_word {y : MethodName} {bytes : ByteArray} {mx : Nat} {rt : Option FieldType} {a : Array Value} {s : State} {m : MethodId} {meth : Method} {c : Code} (h1 : s.methodNamed? y = some m) (h2 : s.vm.method? m = some meth) (h3 : meth.code = some c) (h4 : c.code = bytes)
    (h5 : (c.maxLocals == mx && c.exceptionTable.isEmpty && decide (c.maxStack ≤ mostOperands) && decide (meth.sig.returnType = rt) && !meth.locks && decide (parseMethodDescriptor y.desc = some meth.sig)) = true) : (Jvm.Cond.code y bytes mx rt).before a s = true := by
  simp only [Bool.and_eq_true, beq_iff_eq, Bool.not_eq_true', decide_eq_true_eq] at h5
  obtain ⟨⟨⟨⟨⟨g1, g2⟩, g3⟩, g4⟩, g5⟩, g6⟩ := h5
  simp [Cond.before, Cond.holds, Cond.value, h1, h2, h3, h4, g1, g2, g3, g4, g5, g6]
def isCode : Jvm.Cond → Bool
  | .code _ _ _ _ => true
  | _ => false
theorem all_split {L : List Jvm.Cond} {P : Jvm.Cond → Bool} (h1 : L.all (fun c => isCode c || P c) = true) (h2 : ∀ c ∈ L.filter isCode, P c = true) : L.all P = true := by
  refine List.all_eq_true.mpr fun c hc => ?_
  have h := List.all_eq_true.mp h1 c hc
  rcases Bool.eq_false_or_eq_true (isCode c) with hi | hi
  · exact h2 c (List.mem_filter.mpr ⟨hc, hi⟩)
  · simpa [hi] using h
set_option maxRecDepth 65536 in
theorem w_c0 : (Jvm.Cond.code x code maxLocals ret).before args0 about1 = true := code_word (m := ⟨1, 2⟩) (meth := k1m2) (c := k1c2) (by decide +kernel) rfl rfl rfl (by decide +kernel)
set_option maxRecDepth 65536 in
theorem w_c1 : (Jvm.Cond.code ({ cls := "com/example/tagwire/tagwire/NumberRangeContainsPinLaw", name := "pick", desc := "(IIII)I" } : Jvm.MethodName) method_2_code (5 : Nat) (Option.some Jvm.ClassFile.FieldType.int)).before args0 about1 = true := code_word (m := ⟨1, 1⟩) (meth := k1m1) (c := k1c1) (by decide +kernel) rfl rfl rfl (by decide +kernel)
set_option maxRecDepth 65536 in
theorem w_c2 : (Jvm.Cond.code ({ cls := "com/example/tagwire/tagwire/NumberRange", name := "<init>", desc := "(II)V" } : Jvm.MethodName) prog_22_method_1_code (3 : Nat) (Option.none : Option Jvm.ClassFile.FieldType)).before args0 about1 = true := code_word (m := ⟨3, 0⟩) (meth := k3m0) (c := k3c0) (by decide +kernel) rfl rfl rfl (by decide +kernel)
set_option maxRecDepth 65536 in
theorem w_c3 : (Jvm.Cond.code ({ cls := "java/lang/Record", name := "<init>", desc := "()V" } : Jvm.MethodName) jdk_30_method_1_code (1 : Nat) (Option.none : Option Jvm.ClassFile.FieldType)).before args0 about1 = true := code_word (m := ⟨2, 0⟩) (meth := k2m0) (c := k2c0) (by decide +kernel) rfl rfl rfl (by decide +kernel)
set_option maxRecDepth 65536 in
theorem w_c4 : (Jvm.Cond.code ({ cls := "java/lang/Object", name := "<init>", desc := "()V" } : Jvm.MethodName) object_method_1_code (1 : Nat) (Option.none : Option Jvm.ClassFile.FieldType)).before args0 about1 = true := code_word (m := ⟨0, 0⟩) (meth := k0m0) (c := k0c0) (by decide +kernel) rfl rfl rfl (by decide +kernel)
set_option maxRecDepth 65536 in
theorem w_c5 : (Jvm.Cond.code ({ cls := "com/example/tagwire/tagwire/NumberRange", name := "contains", desc := "(I)Z" } : Jvm.MethodName) prog_22_method_2_code (2 : Nat) (Option.some Jvm.ClassFile.FieldType.boolean)).before args0 about1 = true := code_word (m := ⟨3, 1⟩) (meth := k3m1) (c := k3c1) (by decide +kernel) rfl rfl rfl (by decide +kernel)
set_option maxRecDepth 65536 in
theorem w_c6 : (Jvm.Cond.code ({ cls := "java/lang/Math", name := "max", desc := "(II)I" } : Jvm.MethodName) jdk_29_method_65_code (2 : Nat) (Option.some Jvm.ClassFile.FieldType.int)).before args0 about1 = true := code_word (m := ⟨4, 1⟩) (meth := k4m1) (c := k4c1) (by decide +kernel) rfl rfl rfl (by decide +kernel)
set_option maxRecDepth 65536 in
theorem w_c7 : (Jvm.Cond.code ({ cls := "java/lang/Math", name := "min", desc := "(II)I" } : Jvm.MethodName) jdk_29_method_69_code (2 : Nat) (Option.some Jvm.ClassFile.FieldType.int)).before args0 about1 = true := code_word (m := ⟨4, 2⟩) (meth := k4m2) (c := k4c2) (by decide +kernel) rfl rfl rfl (by decide +kernel)
def codes1 : List Jvm.Cond := [Jvm.Cond.code x code maxLocals ret, Jvm.Cond.code ({ cls := "com/example/tagwire/tagwire/NumberRangeContainsPinLaw", name := "pick", desc := "(IIII)I" } : Jvm.MethodName) method_2_code (5 : Nat) (Option.some Jvm.ClassFile.FieldType.int), Jvm.Cond.code ({ cls := "com/example/tagwire/tagwire/NumberRange", name := "<init>", desc := "(II)V" } : Jvm.MethodName) prog_22_method_1_code (3 : Nat) (Option.none : Option Jvm.ClassFile.FieldType), Jvm.Cond.code ({ cls := "java/lang/Record", name := "<init>", desc := "()V" } : Jvm.MethodName) jdk_30_method_1_code (1 : Nat) (Option.none : Option Jvm.ClassFile.FieldType), Jvm.Cond.code ({ cls := "java/lang/Object", name := "<init>", desc := "()V" } : Jvm.MethodName) object_method_1_code (1 : Nat) (Option.none : Option Jvm.ClassFile.FieldType), Jvm.Cond.code ({ cls := "com/example/tagwire/tagwire/NumberRange", name := "contains", desc := "(I)Z" } : Jvm.MethodName) prog_22_method_2_code (2 : Nat) (Option.some Jvm.ClassFile.FieldType.boolean), Jvm.Cond.code ({ cls := "java/lang/Math", name := "max", desc := "(II)I" } : Jvm.MethodName) jdk_29_method_65_code (2 : Nat) (Option.some Jvm.ClassFile.FieldType.int), Jvm.Cond.code ({ cls := "java/lang/Math", name := "min", desc := "(II)I" } : Jvm.MethodName) jdk_29_method_69_code (2 : Nat) (Option.some Jvm.ClassFile.FieldType.int)]
set_option maxRecDepth 65536 in
theorem codes_eq : words1.filter isCode = codes1 := rfl
theorem w_codes : ∀ c ∈ words1.filter isCode, c.before args0 about1 = true := by
  rw [codes_eq]
  intro c hc
  simp only [codes1, List.mem_cons, List.not_mem_nil, or_false] at hc
  rcases hc with rfl | rfl | rfl | rfl | rfl | rfl | rfl | rfl
  · exact w_c0
  · exact w_c1
  · exact w_c2
  · exact w_c3
  · exact w_c4
  · exact w_c5
  · exact w_c6
  · exact w_c7
set_option maxRecDepth 65536 in
theorem w_t1 : (words1.take 24).all (fun c => isCode c || c.before args0 about1) = true := by decide +kernel
set_option maxRecDepth 65536 in
theorem w_t2 : (words1.drop 24).all (fun c => isCode c || c.before args0 about1) = true := by decide +kernel
theorem w_tables : (allAtoms (Jvm.Cond.code x code maxLocals ret :: tables_1)).before args0 about1 = true := by
  rw [allAtoms_all]
  show words1.all (fun c => c.before args0 about1) = true
  refine all_split ?_ w_codes
  rw [← List.take_append_drop 24 words1, List.all_append, w_t1, w_t2]
  rfl
set_option maxRecDepth 65536 in
theorem w_case : (Jvm.Cond.and given_1 narrow_1).before args0 about1 = true := by decide +kernel
theorem w_applies : (headSpec (Jvm.Cond.code x code maxLocals ret :: tables_1) room_1).applies x e0.platform about1 = true :=
  (Spec.applies_iff w_frames).mpr ⟨w_running, w_runnable, w_alone, w_named, w_hears, w_ripe, w_room, w_tables⟩
theorem atStart : AtStart classFile x code maxLocals ret World_1 tables_1 room_1 Calls_1 rest_1 Pre_1 launch0 p0 e0 about1 theMethod args0 below0 :=
  ⟨lists_1, trivial, launch0.admits_env _ _ _, launch0.least_env, fairChoices_fair.cas, fairChoices_fair.clock, w_frames, w_args, w_heap, w_applies, trivial, trivial, w_case⟩
end start1
theorem witness_1 : WitnessClaimed_1 := ⟨start1.p0, start1.e0, start1.about1, start1.theMethod, start1.args0, start1.below0, start1.atStart⟩
end Jvm.Pilot.@@N@@
