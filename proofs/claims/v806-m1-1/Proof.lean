import JvmDerived
import JvmDerived.Pilot.@@N@@Statement
import JvmDerived.Pilot.@@N@@Code
set_option linter.unusedVariables false
set_option linter.unusedSimpArgs false
namespace Jvm.Pilot.@@N@@
open Jvm Jvm.ClassFile Sem Op Lib Jvm.Free Jvm.Stand Jvm.LawKit Jvm.RoadKit Bundle Jvm.Pilot.@@N@@.Jvm.D
section Own
variable {p : Program} {l : Launch} {e : Env} {R : Room} {s : State} {m : MethodId} {args : Array Value} {below : List Frame} {meth : Method} {c : Code} {T : State} {locs : List Loc} {cells slots : Nat} {P : Option Value → Heap → List Loc → Prop} {kk nn : Nat}
/-- from U a run comes to an end at which P holds, within kk cells and nn slots -/
def Go (p : Program) (e : Env) (below : List Frame) (s : State) (P : Option Value → Heap → List Loc → Prop) (kk nn : Nat) (U : State) : Prop :=
  ∃ s₂ o, Steps p.tables e below U s₂ ∧ s₂.status = .running ∧ Ended s₂ below o ∧ ∃ v L, o = .returned v ∧ P v s₂.heap L ∧ FrameEnd s o s₂ L kk nn
theorem Go.pull {U V : State} (h : ∀ t, Steps p.tables e below V t → Steps p.tables e below U t) (g : Go p e below s P kk nn V) : Go p e below s P kk nn U := by
  obtain ⟨s2, o, h1, h2⟩ := g
  exact ⟨s2, o, h _ h1, h2⟩
theorem Go.fin (X : Stand p l e R s m args below meth c T locs cells slots) {f : JFrame} {v : Option Value} (hlk : meth.locks = false) (hv : meth.sig.returnType = none → v = none)
    (hs : ∀ fs, (∀ (f : JFrame) (acts : List Action), f.method = m → f.locked = none → f.entered = [] → (doReturn e (T.setTop f) acts v).1 = T.setFrames fs) → Steps p.tables e below (T.setTop f) (T.setFrames fs))
    (hP : P v T.heap locs) (hk : cells ≤ kk) (hn : slots ≤ nn) : Go p e below s P kk nn (T.setTop f) := by
  obtain ⟨fs, hr, hrun, hended, hW, hsame⟩ := X.leave (v := v) hv hlk
  exact ⟨_, _, hs fs hr, hrun, hended, _, _, rfl, hP, ⟨_, rfl⟩, hW, hsame.mono hk hn⟩
theorem Go.retN (X : Stand p l e R s m args below meth c T locs cells slots) (hx : p.tables.exec = Jvm.exec) (hlk : meth.locks = false) {pc : Nat} {Ls : Array Slot} {z : Int32} {t : FieldType} {rest : List Value} (hret : meth.sig.returnType = some t) (ht : t = .boolean ∨ t = .byte ∨ t = .char ∨ t = .short)
    (hd : decode c.code pc = .ok (.ireturn, 1)) (hP : P (some (.int (nar t z))) T.heap locs) (hk : cells ≤ kk) (hn : slots ≤ nn) : Go p e below s P kk nn (T.setTop (mkF m pc Ls (.int z :: rest))) :=
  Go.fin X hlk (fun h => by rw [hret] at h; cases h) (fun fs hr => RoadKit.retN X hx hret ht hd hr) hP hk hn
theorem Go.retI (X : Stand p l e R s m args below meth c T locs cells slots) (hx : p.tables.exec = Jvm.exec) (hlk : meth.locks = false) {pc : Nat} {Ls : Array Slot} {z : Int32} {rest : List Value} (hret : meth.sig.returnType = some .int)
    (hd : decode c.code pc = .ok (.ireturn, 1)) (hP : P (some (.int z)) T.heap locs) (hk : cells ≤ kk) (hn : slots ≤ nn) : Go p e below s P kk nn (T.setTop (mkF m pc Ls (.int z :: rest))) :=
  Go.fin X hlk (fun h => by rw [hret] at h; cases h) (fun fs hr => retOut X hx hret rfl (Or.inl ⟨rfl, Or.inl rfl, z, rfl⟩) hd hr) hP hk hn
theorem Go.retJ (X : Stand p l e R s m args below meth c T locs cells slots) (hx : p.tables.exec = Jvm.exec) (hlk : meth.locks = false) {pc : Nat} {Ls : Array Slot} {z : Int64} {rest : List Value} (hret : meth.sig.returnType = some .long)
    (hd : decode c.code pc = .ok (.lreturn, 1)) (hP : P (some (.long z)) T.heap locs) (hk : cells ≤ kk) (hn : slots ≤ nn) : Go p e below s P kk nn (T.setTop (mkF m pc Ls (.long z :: rest))) :=
  Go.fin X hlk (fun h => by rw [hret] at h; cases h) (fun fs hr => retOut X hx hret rfl (Or.inr (Or.inl ⟨rfl, rfl, z, rfl⟩)) hd hr) hP hk hn
theorem Go.retR (X : Stand p l e R s m args below meth c T locs cells slots) (hx : p.tables.exec = Jvm.exec) (hlk : meth.locks = false) {pc : Nat} {Ls : Array Slot} {w : Value} {t : FieldType} {rest : List Value} (hret : meth.sig.returnType = some t) (hna : narrow t w = w) (ht : t.isReference = true) (hw : w.isRef = true)
    (hd : decode c.code pc = .ok (.areturn, 1)) (hP : P (some w) T.heap locs) (hk : cells ≤ kk) (hn : slots ≤ nn) : Go p e below s P kk nn (T.setTop (mkF m pc Ls (w :: rest))) :=
  Go.fin X hlk (fun h => by rw [hret] at h; cases h) (fun fs hr => retOut X hx hret hna (Or.inr (Or.inr (Or.inr (Or.inr ⟨rfl, ht, hw⟩)))) hd hr) hP hk hn
theorem Go.ret0 (X : Stand p l e R s m args below meth c T locs cells slots) (hx : p.tables.exec = Jvm.exec) (hlk : meth.locks = false) {pc : Nat} {Ls : Array Slot} (hret : meth.sig.returnType = none)
    (hd : decode c.code pc = .ok (.return_, 1)) (hP : P none T.heap locs) (hk : cells ≤ kk) (hn : slots ≤ nn) : Go p e below s P kk nn (T.setTop (mkF m pc Ls [])) :=
  Go.fin X hlk (fun _ => rfl) (fun fs hr => X.returnOut hx hret hd hr) hP hk hn
theorem own_lsw {tb : Tables} [Ours tb] {e : Env} {below : List Frame} {T target : State} {m : MethodId} {c : Code} {g : JFrame} (h : At T m c below) (hx : tb.exec = Jvm.exec) (hg : g.method = m) {dflt : Int} {prs : Array (Int × Int)} {len : Nat} {o : Int} {pc0 pc' : Nat} (hpc : g.pc = pc0)
    (hd : decode c.code g.pc = .ok (.lookupswitch dflt prs, len)) {i : Int32} {rest : List Value} (hs : g.stack = .int i :: rest) (hord : (prs.toList.zip (prs.toList.drop 1)).all (fun (a, next) => a.1 < next.1) = true) (hoff : lookupswitch.offset prs.toList dflt i.toInt = o)
    (ho : 0 ≤ (pc0 : Int) + o) (hp : ((pc0 : Int) + o).toNat = pc') (hr : Steps tb e below (T.setTop { g with pc := pc', stack := rest }) target) : Steps tb e below (T.setTop g) target := by
  subst hg hpc hp hoff
  jvm_step h [h.top, hx, hd, hs, ho, lookupswitch.wp_chain]
  exact ⟨by simpa using hord, hr⟩
theorem own_eq_i {t : Term} {n : Int32} {first : State} {o : Option Outcome} {idx : List Nat} (h : (Cond.eq t (.int n)).value args first o s idx = some true) : t.eval args first o idx s = some (.int n) := by
  obtain ⟨x, y, e1, e2, k1, k2⟩ := cmp_v (Or.inl h)
  cases (Term.int_eval n).symm.trans e2
  obtain ⟨z, rfl⟩ : ∃ z, x = .int z := k2
  rw [e1, gotT (Cond.eq_ints e1 e2) h]
theorem own_eq_l {t : Term} {n : Int64} {first : State} {o : Option Outcome} {idx : List Nat} (h : (Cond.eq t (.long n)).value args first o s idx = some true) : t.eval args first o idx s = some (.long n) := by
  obtain ⟨x, y, e1, e2, k1, k2⟩ := cmp_v (Or.inl h)
  have e3 : (Term.long n).eval args first o idx s = some (.long n) := rfl
  cases e3.symm.trans e2
  obtain ⟨z, rfl⟩ : ∃ z, x = .long z := k2
  rw [e1, gotT (eq_L e1 e2) h]
theorem own_eq_r {t u : Term} {a : Addr} {first : State} {o : Option Outcome} {idx : List Nat} (hu : u.eval args first o idx s = some (.ref a)) (h : (Cond.eq t u).value args first o s idx = some true) : t.eval args first o idx s = some (.ref a) := by
  obtain ⟨x, y, e1, e2, k1, k2⟩ := cmp_v (Or.inl h)
  cases hu.symm.trans e2
  have k3 : (Value.ref a).isRef = true ∧ x.isRef = true := k2
  rw [e1, gotT (eq_R e1 e2 k3.2 rfl) h]
theorem own_sta_keep {Z : State} {h h' : Heap} {C n d : String} {w : Value} {ws : List Addr} (F : Sta Z h C n d w) (K : Keep h h' ws) (q : ∀ x ∈ ws, ∃ c : Cell, h[x]? = some c ∧ ∀ q, c.vm ≠ .statics q) : Sta Z h' C n d w := by
  obtain ⟨cf, i, k, f, st, cell, h1, h2, h3, h4, h5, h6, h7⟩ := F
  refine ⟨cf, i, k, f, st, cell, h1, h2, h3, h4, K.2.1 st cell h5 (fun hm => ?_), h6, h7⟩
  obtain ⟨c, hc, hq⟩ := q st hm
  cases h5.symm.trans hc
  cases hv : cell.vm with
  | statics r => exact hq r hv
  | _ => rw [hv] at h6; cases h6
end Own
theorem pd_0 : parseMethodDescriptor "(Z)J" = some ⟨[.boolean], some .long⟩ := by decide +kernel
def own_max (pu pb : Int32) : Int64 := if pb = 64 then 9223372036854775807 else (if pu = 0 then ((1 : Int64) <<< ((pb - (1 : Int32)) &&& 0x3f).toInt64) - 1 else ((1 : Int64) <<< (pb &&& 0x3f).toInt64) - 1)
theorem own_rem6 (x : Int32) {v : Int32} (h : ((x &&& (2147483647 : Int32)) % (6 : Int32)) = v) : v = 0 ∨ v = 1 ∨ v = 2 ∨ v = 3 ∨ v = 4 ∨ v = 5 := by
  subst h
  have h0 : (x &&& (2147483647 : Int32)).toInt = x.toInt % (2 ^ 31 : Nat) := c_mask x 2147483647 31 (by decide) (by decide)
  have h1 : ((x &&& (2147483647 : Int32)) % (6 : Int32)).toInt = (x.toInt % (2 ^ 31 : Nat)) % 6 := by
    rw [← h0]; exact (c_irem _ _ 6 (by decide)).1 (by rw [h0]; omega)
  have h2 : (x.toInt % (2 ^ 31 : Nat)) % 6 = 0 ∨ (x.toInt % (2 ^ 31 : Nat)) % 6 = 1 ∨ (x.toInt % (2 ^ 31 : Nat)) % 6 = 2 ∨ (x.toInt % (2 ^ 31 : Nat)) % 6 = 3 ∨ (x.toInt % (2 ^ 31 : Nat)) % 6 = 4 ∨ (x.toInt % (2 ^ 31 : Nat)) % 6 = 5 := by omega
  rcases h2 with h2 | h2 | h2 | h2 | h2 | h2
  · exact (Or.inl (Int32.toInt_inj.mp (by rw [h1, h2] <;> rfl)))
  · exact (Or.inr (Or.inl (Int32.toInt_inj.mp (by rw [h1, h2] <;> rfl))))
  · exact (Or.inr (Or.inr (Or.inl (Int32.toInt_inj.mp (by rw [h1, h2] <;> rfl)))))
  · exact (Or.inr (Or.inr (Or.inr (Or.inl (Int32.toInt_inj.mp (by rw [h1, h2] <;> rfl))))))
  · exact (Or.inr (Or.inr (Or.inr (Or.inr (Or.inl (Int32.toInt_inj.mp (by rw [h1, h2] <;> rfl)))))))
  · exact (Or.inr (Or.inr (Or.inr (Or.inr (Or.inr (Int32.toInt_inj.mp (by rw [h1, h2] <;> rfl)))))))
theorem dA_0 : decode prog_48_method_14_code 0 = .ok (.aload_n 0, 1) := by decide +kernel
theorem dA_1 : decode prog_48_method_14_code 1 = .ok (.getfield 85, 3) := by decide +kernel
theorem dA_4 : decode prog_48_method_14_code 4 = .ok (.bipush 64, 2) := by decide +kernel
theorem dA_6 : decode prog_48_method_14_code 6 = .ok (.if_icmp .ne 7, 3) := by decide +kernel
theorem dA_9 : decode prog_48_method_14_code 9 = .ok (.ldc2_w 166, 3) := by decide +kernel
theorem dA_12 : decode prog_48_method_14_code 12 = .ok (.lreturn, 1) := by decide +kernel
theorem dA_13 : decode prog_48_method_14_code 13 = .ok (.iload_n 1, 1) := by decide +kernel
theorem dA_14 : decode prog_48_method_14_code 14 = .ok (.ifCond .eq 14, 3) := by decide +kernel
theorem dA_17 : decode prog_48_method_14_code 17 = .ok (.lconst 1, 1) := by decide +kernel
theorem dA_18 : decode prog_48_method_14_code 18 = .ok (.aload_n 0, 1) := by decide +kernel
theorem dA_19 : decode prog_48_method_14_code 19 = .ok (.getfield 85, 3) := by decide +kernel
theorem dA_22 : decode prog_48_method_14_code 22 = .ok (.lshl, 1) := by decide +kernel
theorem dA_23 : decode prog_48_method_14_code 23 = .ok (.lconst 1, 1) := by decide +kernel
theorem dA_24 : decode prog_48_method_14_code 24 = .ok (.lsub, 1) := by decide +kernel
theorem dA_25 : decode prog_48_method_14_code 25 = .ok (.goto 13, 3) := by decide +kernel
theorem dA_28 : decode prog_48_method_14_code 28 = .ok (.lconst 1, 1) := by decide +kernel
theorem dA_29 : decode prog_48_method_14_code 29 = .ok (.aload_n 0, 1) := by decide +kernel
theorem dA_30 : decode prog_48_method_14_code 30 = .ok (.getfield 85, 3) := by decide +kernel
theorem dA_33 : decode prog_48_method_14_code 33 = .ok (.iconst 1, 1) := by decide +kernel
theorem dA_34 : decode prog_48_method_14_code 34 = .ok (.isub, 1) := by decide +kernel
theorem dA_35 : decode prog_48_method_14_code 35 = .ok (.lshl, 1) := by decide +kernel
theorem dA_36 : decode prog_48_method_14_code 36 = .ok (.lconst 1, 1) := by decide +kernel
theorem dA_37 : decode prog_48_method_14_code 37 = .ok (.lsub, 1) := by decide +kernel
theorem dA_38 : decode prog_48_method_14_code 38 = .ok (.lreturn, 1) := by decide +kernel
theorem efA (m : MethodId) (x0 : Addr) (x1 : Int32) : entryFrame m #[(.ref x0), (.int x1)] 2 = mkF m 0 #[rv x0, iv x1] [] := by first | (simp [entryFrame, mkF, argsToLocals, Value.category]; done) | rfl
theorem pn_com_example_latch_latch_engine_ColumnType : plainName "com/example/latch/latch/engine/ColumnType" = true := by first | (simp [plainName, overriddenIn]; done) | decide +kernel
def QA (Z : State) (a : Addr) (pu : Int32) (pb : Int32) (h0 : Heap) (n0 : Nat) (v : Option Value) (h : Heap) (L : List Loc) : Prop := v = some (.long (own_max pu pb)) ∧ Fr n0 L ∧ h = h0
set_option maxRecDepth 65536 in
set_option maxHeartbeats 40000000 in
theorem rmA (l : Launch) (Z : State) (a0 : Array Value) (hw : ∀ d ∈ tables_1, d.before a0 Z = true) (ws : List Jvm.Cond) (a : Addr) (pu : Int32) (pb : Int32) (h0 : Heap) (n0 : Nat) (Fb : Fld Z h0 a "com/example/latch/latch/engine/ColumnType" "m_bits" "I" (.int pb)) :
    MetFree l (⟨"com/example/latch/latch/engine/ColumnType", "maxValue", "(Z)J"⟩ : MethodName) (head1 (Jvm.Cond.code (⟨"com/example/latch/latch/engine/ColumnType", "maxValue", "(Z)J"⟩ : MethodName) prog_48_method_14_code 2 (some .long) :: ws) ({ frames := 0, cells := 0, slots := 0, locals := 0 } : Room)) (fun as' U => as' = #[(.ref a), (.int pu)] ∧ Z.Warmed39 U.vm ∧ U.heap = h0) (fun _ _ _ _ _ => True) (fun _ U o U' => ∃ v L, o = .returned v ∧ QA Z a pu pb h0 n0 v U'.heap L ∧ FrameEnd U o U' L ({ frames := 0, cells := 0, slots := 0, locals := 0 } : Room).cells ({ frames := 0, cells := 0, slots := 0, locals := 0 } : Room).slots) := by
  refine MetFree.of_bodySF (plainFor_of_name pn_com_example_latch_latch_engine_ColumnType) hisR ?_
  intro p e s m args below meth c s₁ Bd hml0 hP hK
  obtain ⟨rfl, hZ, hh⟩ := hP
  have hx := Bd.exec
  have hby := Bd.bytes
  have hml : c.maxLocals = 2 := hml0
  have hown : s.vm.findClass "com/example/latch/latch/engine/ColumnType" = some m.cls := findClass_of_methodNamed Bd.named
  have hnm := (name_of_methodNamed Bd.named Bd.method).1
  have X0 : Stand p l e ({ frames := 0, cells := 0, slots := 0, locals := 0 } : Room) s m #[(.ref a), (.int pu)] below meth c s₁ [] 0 0 := Stand.of_body Bd
  have e0 : s₁.heap = h0 := by rw [← hh, Bd.state]; rfl
  have N0 := Fr.nil n0
  show Go p e below s (fun v h L => QA Z a pu pb h0 n0 v h L) 0 0 _
  refine Go.pull (V := s₁.setTop (mkF m 0 #[rv a, iv pu] [])) (fun t k => castTop (efA m a pu) k) ?_
  refine Go.pull (V := s₁.setTop (mkF m 1 #[rv a, iv pu] [(.ref a)])) (fun t k => XS.aloadN X0.here hx rfl (hb hby dA_0) rfl rfl k) ?_
  obtain ⟨T1, X1, e1, st1⟩ := getF X0 hx hZ hown (host := "") (Or.inl (hw _ (List.mem_of_getElem? (i := 10) rfl))) Via.refl e0 Fb (g := (mkF m 1 #[rv a, iv pu] [(.ref a)])) rfl rfl (hb hby dA_1)
  refine Go.pull (V := T1.setTop (mkF m 4 #[rv a, iv pu] [(.int pb)])) st1 ?_
  refine Go.pull (V := T1.setTop (mkF m 6 #[rv a, iv pu] [(.int 64), (.int pb)])) (fun t k => XS.bipush X1.here hx rfl (hb hby dA_4) k) ?_
  by_cases hc6_2 : pb = (64 : Int32)
  · skip
    refine Go.pull (V := T1.setTop (mkF m 9 #[rv a, iv pu] [])) (fun t k => XS.icmpNo X1.here hx rfl (hb hby dA_6) rfl (XT.ii_ne_f hc6_2) k) ?_
    refine Go.pull (V := T1.setTop (mkF m 12 #[rv a, iv pu] [(.long 9223372036854775807)])) (fun t k => X1.ldc2Long hx hown (mvT hZ (hw _ (List.mem_of_getElem? (i := 26) rfl))) (g := (mkF m 9 #[rv a, iv pu] [])) rfl (hb hby dA_9) _ k) ?_
    exact Go.retJ X1 hx Bd.notSynchronized Bd.returns (hb hby dA_12) ⟨(by rw [own_max, if_pos hc6_2] <;> rfl), N0, e1⟩ (by decide) (by decide)
  · skip
    refine Go.pull (V := T1.setTop (mkF m 13 #[rv a, iv pu] [])) (fun t k => XS.icmpYes X1.here hx rfl (pc0 := 6) (pc' := 13) rfl (hb hby dA_6) rfl (XT.ii_ne_t hc6_2) (by decide) (by decide) k) ?_
    refine Go.pull (V := T1.setTop (mkF m 14 #[rv a, iv pu] [(.int pu)])) (fun t k => XS.iloadN X1.here hx rfl (hb hby dA_13) rfl  k) ?_
    by_cases hc14_3 : pu = 0
    · skip
      refine Go.pull (V := T1.setTop (mkF m 28 #[rv a, iv pu] [])) (fun t k => XS.ifYes X1.here hx rfl (pc0 := 14) (pc' := 28) rfl (hb hby dA_14) rfl (XT.i0_eq_t hc14_3) (by decide) (by decide) k) ?_
      refine Go.pull (V := T1.setTop (mkF m 29 #[rv a, iv pu] [(.long 1)])) (fun t k => XS.lconst X1.here hx rfl (hb hby dA_28) k) ?_
      refine Go.pull (V := T1.setTop (mkF m 30 #[rv a, iv pu] [(.ref a), (.long 1)])) (fun t k => XS.aloadN X1.here hx rfl (hb hby dA_29) rfl rfl k) ?_
      obtain ⟨T4, X4, e4, st4⟩ := getF X1 hx hZ hown (host := "") (Or.inl (hw _ (List.mem_of_getElem? (i := 10) rfl))) Via.refl e1 Fb (g := (mkF m 30 #[rv a, iv pu] [(.ref a), (.long 1)])) rfl rfl (hb hby dA_30)
      refine Go.pull (V := T4.setTop (mkF m 33 #[rv a, iv pu] [(.int pb), (.long 1)])) st4 ?_
      refine Go.pull (V := T4.setTop (mkF m 34 #[rv a, iv pu] [(.int 1), (.int pb), (.long 1)])) (fun t k => XS.iconst X4.here hx rfl (hb hby dA_33) k) ?_
      refine Go.pull (V := T4.setTop (mkF m 35 #[rv a, iv pu] [(.int (pb - (1 : Int32))), (.long 1)])) (fun t k => XS.isub X4.here hx rfl (hb hby dA_34) rfl k) ?_
      refine Go.pull (V := T4.setTop (mkF m 36 #[rv a, iv pu] [(.long ((1 : Int64) <<< ((pb - (1 : Int32)) &&& 0x3f).toInt64))])) (fun t k => XS.lshl X4.here hx rfl (hb hby dA_35) rfl k) ?_
      refine Go.pull (V := T4.setTop (mkF m 37 #[rv a, iv pu] [(.long 1), (.long ((1 : Int64) <<< ((pb - (1 : Int32)) &&& 0x3f).toInt64))])) (fun t k => XS.lconst X4.here hx rfl (hb hby dA_36) k) ?_
      refine Go.pull (V := T4.setTop (mkF m 38 #[rv a, iv pu] [(.long (((1 : Int64) <<< ((pb - (1 : Int32)) &&& 0x3f).toInt64) - (1 : Int64)))])) (fun t k => XS.lsub X4.here hx rfl (hb hby dA_37) rfl k) ?_
      exact Go.retJ X4 hx Bd.notSynchronized Bd.returns (hb hby dA_38) ⟨(by rw [own_max, if_neg hc6_2, if_pos hc14_3] <;> rfl), N0, e4⟩ (by decide) (by decide)
    · skip
      refine Go.pull (V := T1.setTop (mkF m 17 #[rv a, iv pu] [])) (fun t k => XS.ifNo X1.here hx rfl (hb hby dA_14) rfl (XT.i0_eq_f hc14_3) k) ?_
      refine Go.pull (V := T1.setTop (mkF m 18 #[rv a, iv pu] [(.long 1)])) (fun t k => XS.lconst X1.here hx rfl (hb hby dA_17) k) ?_
      refine Go.pull (V := T1.setTop (mkF m 19 #[rv a, iv pu] [(.ref a), (.long 1)])) (fun t k => XS.aloadN X1.here hx rfl (hb hby dA_18) rfl rfl k) ?_
      obtain ⟨T5, X5, e5, st5⟩ := getF X1 hx hZ hown (host := "") (Or.inl (hw _ (List.mem_of_getElem? (i := 10) rfl))) Via.refl e1 Fb (g := (mkF m 19 #[rv a, iv pu] [(.ref a), (.long 1)])) rfl rfl (hb hby dA_19)
      refine Go.pull (V := T5.setTop (mkF m 22 #[rv a, iv pu] [(.int pb), (.long 1)])) st5 ?_
      refine Go.pull (V := T5.setTop (mkF m 23 #[rv a, iv pu] [(.long ((1 : Int64) <<< (pb &&& 0x3f).toInt64))])) (fun t k => XS.lshl X5.here hx rfl (hb hby dA_22) rfl k) ?_
      refine Go.pull (V := T5.setTop (mkF m 24 #[rv a, iv pu] [(.long 1), (.long ((1 : Int64) <<< (pb &&& 0x3f).toInt64))])) (fun t k => XS.lconst X5.here hx rfl (hb hby dA_23) k) ?_
      refine Go.pull (V := T5.setTop (mkF m 25 #[rv a, iv pu] [(.long (((1 : Int64) <<< (pb &&& 0x3f).toInt64) - (1 : Int64)))])) (fun t k => XS.lsub X5.here hx rfl (hb hby dA_24) rfl k) ?_
      refine Go.pull (V := T5.setTop (mkF m 38 #[rv a, iv pu] [(.long (((1 : Int64) <<< (pb &&& 0x3f).toInt64) - (1 : Int64)))])) (fun t k => XS.goto X5.here hx rfl (pc0 := 25) (pc' := 38) rfl (hb hby dA_25) (by decide) (by decide) k) ?_
      exact Go.retJ X5 hx Bd.notSynchronized Bd.returns (hb hby dA_38) ⟨(by rw [own_max, if_neg hc6_2, if_neg hc14_3] <;> rfl), N0, e5⟩ (by decide) (by decide)
theorem ef0 (m : MethodId) (x0 : Int32) (x1 : Int32) : entryFrame m #[(.int x0), (.int x1)] maxLocals = mkF m 0 #[iv x0, iv x1, .unset, .unset, .unset, .unset, .unset] [] := by first | (simp [entryFrame, mkF, argsToLocals, Value.category, maxLocals]; done) | rfl
theorem pn_com_example_latch_latch_engine_ColumnTypeMaxValuePinLaw : plainName "com/example/latch/latch/engine/ColumnTypeMaxValuePinLaw" = true := by first | (simp [plainName, overriddenIn]; done) | decide +kernel
def Q0 (Z : State) (pw : Int32) (pf : Int32) (r_ColumnType_TINYINT : Addr) (r_ColumnType_MEDIUMINT : Addr) (r_ColumnType_INTEGER : Addr) (r_ColumnType_SMALLINT : Addr) (r_ColumnType_BIGINT : Addr) (r_ColumnType_INT : Addr) (h0 : Heap) (n0 : Nat) (v : Option Value) (h : Heap) (L : List Loc) : Prop := v = some (.int 1) ∧ Fr n0 L
set_option maxRecDepth 65536 in
set_option maxHeartbeats 40000000 in
theorem rm0 (l : Launch) (Z : State) (a0 : Array Value) (hw : ∀ d ∈ tables_1, d.before a0 Z = true) (ws : List Jvm.Cond) (pw : Int32) (pf : Int32) (r_ColumnType_TINYINT : Addr) (r_ColumnType_MEDIUMINT : Addr) (r_ColumnType_INTEGER : Addr) (r_ColumnType_SMALLINT : Addr) (r_ColumnType_BIGINT : Addr) (r_ColumnType_INT : Addr) (h0 : Heap) (n0 : Nat) (Z0 : n0 ≤ h0.size) (S_r_ColumnType_TINYINT : Sta Z h0 "com/example/latch/latch/engine/ColumnType" "TINYINT" "Lcom/example/latch/latch/engine/ColumnType;" (.ref r_ColumnType_TINYINT)) (E_r_ColumnType_TINYINT : Exa Z h0 r_ColumnType_TINYINT "com/example/latch/latch/engine/ColumnType") (S_r_ColumnType_MEDIUMINT : Sta Z h0 "com/example/latch/latch/engine/ColumnType" "MEDIUMINT" "Lcom/example/latch/latch/engine/ColumnType;" (.ref r_ColumnType_MEDIUMINT)) (E_r_ColumnType_MEDIUMINT : Exa Z h0 r_ColumnType_MEDIUMINT "com/example/latch/latch/engine/ColumnType") (S_r_ColumnType_INTEGER : Sta Z h0 "com/example/latch/latch/engine/ColumnType" "INTEGER" "Lcom/example/latch/latch/engine/ColumnType;" (.ref r_ColumnType_INTEGER)) (E_r_ColumnType_INTEGER : Exa Z h0 r_ColumnType_INTEGER "com/example/latch/latch/engine/ColumnType") (S_r_ColumnType_SMALLINT : Sta Z h0 "com/example/latch/latch/engine/ColumnType" "SMALLINT" "Lcom/example/latch/latch/engine/ColumnType;" (.ref r_ColumnType_SMALLINT)) (E_r_ColumnType_SMALLINT : Exa Z h0 r_ColumnType_SMALLINT "com/example/latch/latch/engine/ColumnType") (S_r_ColumnType_BIGINT : Sta Z h0 "com/example/latch/latch/engine/ColumnType" "BIGINT" "Lcom/example/latch/latch/engine/ColumnType;" (.ref r_ColumnType_BIGINT)) (E_r_ColumnType_BIGINT : Exa Z h0 r_ColumnType_BIGINT "com/example/latch/latch/engine/ColumnType") (S_r_ColumnType_INT : Sta Z h0 "com/example/latch/latch/engine/ColumnType" "INT" "Lcom/example/latch/latch/engine/ColumnType;" (.ref r_ColumnType_INT)) (E_r_ColumnType_INT : Exa Z h0 r_ColumnType_INT "com/example/latch/latch/engine/ColumnType") (F_r_ColumnType_TINYINT_m_bits : Fld Z h0 r_ColumnType_TINYINT "com/example/latch/latch/engine/ColumnType" "m_bits" "I" (.int 8)) (F_r_ColumnType_MEDIUMINT_m_bits : Fld Z h0 r_ColumnType_MEDIUMINT "com/example/latch/latch/engine/ColumnType" "m_bits" "I" (.int 24)) (F_r_ColumnType_INTEGER_m_bits : Fld Z h0 r_ColumnType_INTEGER "com/example/latch/latch/engine/ColumnType" "m_bits" "I" (.int 32)) (F_r_ColumnType_SMALLINT_m_bits : Fld Z h0 r_ColumnType_SMALLINT "com/example/latch/latch/engine/ColumnType" "m_bits" "I" (.int 16)) (F_r_ColumnType_BIGINT_m_bits : Fld Z h0 r_ColumnType_BIGINT "com/example/latch/latch/engine/ColumnType" "m_bits" "I" (.int 64)) (F_r_ColumnType_INT_m_bits : Fld Z h0 r_ColumnType_INT "com/example/latch/latch/engine/ColumnType" "m_bits" "I" (.int 32)) :
    MetFree l x (head1 (Jvm.Cond.code x code maxLocals ret :: ws) room_1) (fun as' U => as' = #[(.int pw), (.int pf)] ∧ Z.Warmed39 U.vm ∧ U.heap = h0) (fun _ _ _ _ _ => True) (fun _ U o U' => ∃ v L, o = .returned v ∧ Q0 Z pw pf r_ColumnType_TINYINT r_ColumnType_MEDIUMINT r_ColumnType_INTEGER r_ColumnType_SMALLINT r_ColumnType_BIGINT r_ColumnType_INT h0 n0 v U'.heap L ∧ FrameEnd U o U' L 0 0) := by
  refine MetFree.of_bodySF (plainFor_of_name pn_com_example_latch_latch_engine_ColumnTypeMaxValuePinLaw) hisR ?_
  intro p e s m args below meth c s₁ Bd hml0 hP hK
  obtain ⟨rfl, hZ, hh⟩ := hP
  have hx := Bd.exec
  have hby := Bd.bytes
  have hml : c.maxLocals = 7 := hml0
  have hown : s.vm.findClass "com/example/latch/latch/engine/ColumnTypeMaxValuePinLaw" = some m.cls := findClass_of_methodNamed Bd.named
  have hnm := (name_of_methodNamed Bd.named Bd.method).1
  have X0 : Stand p l e room_1 s m #[(.int pw), (.int pf)] below meth c s₁ [] 0 0 := Stand.of_body Bd
  have e0 : s₁.heap = h0 := by rw [← hh, Bd.state]; rfl
  have N0 := Fr.nil n0
  show Go p e below s (fun v h L => Q0 Z pw pf r_ColumnType_TINYINT r_ColumnType_MEDIUMINT r_ColumnType_INTEGER r_ColumnType_SMALLINT r_ColumnType_BIGINT r_ColumnType_INT h0 n0 v h L) 0 0 _
  refine Go.pull (V := s₁.setTop (mkF m 0 #[iv pw, iv pf, .unset, .unset, .unset, .unset, .unset] [])) (fun t k => castTop (ef0 m pw pf) k) ?_
  refine Go.pull (V := s₁.setTop (mkF m 1 #[iv pw, iv pf, .unset, .unset, .unset, .unset, .unset] [(.int pw)])) (fun t k => XS.iloadN X0.here hx rfl (hb hby at_0) rfl  k) ?_
  refine Go.pull (V := s₁.setTop (mkF m 3 #[iv pw, iv pf, .unset, .unset, .unset, .unset, .unset] [(.int 2147483647), (.int pw)])) (fun t k => X0.ldcInt hx hown (mvT hZ (hw _ (List.mem_of_getElem? (i := 0) rfl))) (g := (mkF m 1 #[iv pw, iv pf, .unset, .unset, .unset, .unset, .unset] [(.int pw)])) rfl (hb hby at_1) _ k) ?_
  refine Go.pull (V := s₁.setTop (mkF m 4 #[iv pw, iv pf, .unset, .unset, .unset, .unset, .unset] [(.int (pw &&& (2147483647 : Int32)))])) (fun t k => XS.iand X0.here hx rfl (hb hby at_3) rfl k) ?_
  refine Go.pull (V := s₁.setTop (mkF m 6 #[iv pw, iv pf, .unset, .unset, .unset, .unset, .unset] [(.int 6), (.int (pw &&& (2147483647 : Int32)))])) (fun t k => XS.bipush X0.here hx rfl (hb hby at_4) k) ?_
  refine Go.pull (V := s₁.setTop (mkF m 7 #[iv pw, iv pf, .unset, .unset, .unset, .unset, .unset] [(.int ((pw &&& (2147483647 : Int32)) % (6 : Int32)))])) (fun t k => iremM X0 hx rfl (hb hby at_6) rfl (by decide) k) ?_
  refine Go.pull (V := s₁.setTop (mkF m 8 #[iv pw, iv pf, iv ((pw &&& (2147483647 : Int32)) % (6 : Int32)), .unset, .unset, .unset, .unset] [])) (fun t k => XS.istoreN X0.here hx rfl (hb hby at_7) rfl (l' := #[iv pw, iv pf, iv ((pw &&& (2147483647 : Int32)) % (6 : Int32)), .unset, .unset, .unset, .unset]) rfl k) ?_
  generalize gv1 : ((pw &&& (2147483647 : Int32)) % (6 : Int32)) = v1
  obtain hv1 | hv1 | hv1 | hv1 | hv1 | hv1 := own_rem6 _ gv1
  · subst hv1
    refine Go.pull (V := s₁.setTop (mkF m 9 #[iv pw, iv pf, iv 0, .unset, .unset, .unset, .unset] [(.int pf)])) (fun t k => XS.iloadN X0.here hx rfl (hb hby at_8) rfl  k) ?_
    refine Go.pull (V := s₁.setTop (mkF m 10 #[iv pw, iv pf, iv 0, .unset, .unset, .unset, .unset] [(.int 1), (.int pf)])) (fun t k => XS.iconst X0.here hx rfl (hb hby at_9) k) ?_
    refine Go.pull (V := s₁.setTop (mkF m 11 #[iv pw, iv pf, iv 0, .unset, .unset, .unset, .unset] [(.int (pf &&& (1 : Int32)))])) (fun t k => XS.iand X0.here hx rfl (hb hby at_10) rfl k) ?_
    by_cases hc11_2 : (pf &&& (1 : Int32)) = 0
    · skip
      refine Go.pull (V := s₁.setTop (mkF m 18 #[iv pw, iv pf, iv 0, .unset, .unset, .unset, .unset] [])) (fun t k => XS.ifYes X0.here hx rfl (pc0 := 11) (pc' := 18) rfl (hb hby at_11) rfl (XT.i0_eq_t hc11_2) (by decide) (by decide) k) ?_
      refine Go.pull (V := s₁.setTop (mkF m 19 #[iv pw, iv pf, iv 0, .unset, .unset, .unset, .unset] [(.int 0)])) (fun t k => XS.iconst X0.here hx rfl (hb hby at_18) k) ?_
      refine Go.pull (V := s₁.setTop (mkF m 20 #[iv pw, iv pf, iv 0, iv 0, .unset, .unset, .unset] [])) (fun t k => XS.istoreN X0.here hx rfl (hb hby at_19) rfl (l' := #[iv pw, iv pf, iv 0, iv 0, .unset, .unset, .unset]) rfl k) ?_
      refine Go.pull (V := s₁.setTop (mkF m 21 #[iv pw, iv pf, iv 0, iv 0, .unset, .unset, .unset] [(.int 0)])) (fun t k => XS.iloadN X0.here hx rfl (hb hby at_20) rfl  k) ?_
      refine Go.pull (V := s₁.setTop (mkF m 24 #[iv pw, iv pf, iv 0, iv 0, .unset, .unset, .unset] [])) (fun t k => XS.ifNo X0.here hx rfl (hb hby at_21) rfl (XT.i0_ne_f (by decide)) k) ?_
      obtain ⟨T3, X3, e3, st3⟩ := getS2 X0 hx hZ hown (host := "") (Or.inl (hw _ (List.mem_of_getElem? (i := 1) rfl))) Via.refl e0 S_r_ColumnType_TINYINT (g := (mkF m 24 #[iv pw, iv pf, iv 0, iv 0, .unset, .unset, .unset] [])) rfl (hb hby at_24)
      refine Go.pull (V := T3.setTop (mkF m 27 #[iv pw, iv pf, iv 0, iv 0, .unset, .unset, .unset] [(.ref r_ColumnType_TINYINT)])) st3 ?_
      refine Go.pull (V := T3.setTop (mkF m 29 #[iv pw, iv pf, iv 0, iv 0, rv r_ColumnType_TINYINT, .unset, .unset] [])) (fun t k => XS.astore X3.here hx rfl (hb hby at_27) rfl rfl (l' := #[iv pw, iv pf, iv 0, iv 0, rv r_ColumnType_TINYINT, .unset, .unset]) rfl k) ?_
      refine Go.pull (V := T3.setTop (mkF m 30 #[iv pw, iv pf, iv 0, iv 0, rv r_ColumnType_TINYINT, .unset, .unset] [(.int 0)])) (fun t k => XS.iloadN X3.here hx rfl (hb hby at_29) rfl  k) ?_
      refine Go.pull (V := T3.setTop (mkF m 39 #[iv pw, iv pf, iv 0, iv 0, rv r_ColumnType_TINYINT, .unset, .unset] [])) (fun t k => XS.ifYes X3.here hx rfl (pc0 := 30) (pc' := 39) rfl (hb hby at_30) rfl (XT.i0_eq_t (by decide)) (by decide) (by decide) k) ?_
      refine Go.pull (V := T3.setTop (mkF m 42 #[iv pw, iv pf, iv 0, iv 0, rv r_ColumnType_TINYINT, .unset, .unset] [(.long 127)])) (fun t k => X3.ldc2Long hx hown (mvT hZ (hw _ (List.mem_of_getElem? (i := 22) rfl))) (g := (mkF m 39 #[iv pw, iv pf, iv 0, iv 0, rv r_ColumnType_TINYINT, .unset, .unset] [])) rfl (hb hby at_39) _ k) ?_
      refine Go.pull (V := T3.setTop (mkF m 44 #[iv pw, iv pf, iv 0, iv 0, rv r_ColumnType_TINYINT, .val (.long 127), .second] [])) (fun t k => XS.lstore X3.here hx rfl (hb hby at_42) rfl (l' := #[iv pw, iv pf, iv 0, iv 0, rv r_ColumnType_TINYINT, .val (.long 127), .second]) rfl k) ?_
      refine Go.pull (V := T3.setTop (mkF m 169 #[iv pw, iv pf, iv 0, iv 0, rv r_ColumnType_TINYINT, .val (.long 127), .second] [])) (fun t k => XS.goto X3.here hx rfl (pc0 := 44) (pc' := 169) rfl (hb hby at_44) (by decide) (by decide) k) ?_
      refine Go.pull (V := T3.setTop (mkF m 171 #[iv pw, iv pf, iv 0, iv 0, rv r_ColumnType_TINYINT, .val (.long 127), .second] [(.ref r_ColumnType_TINYINT)])) (fun t k => XS.aload X3.here hx rfl (hb hby at_169) rfl rfl k) ?_
      refine Go.pull (V := T3.setTop (mkF m 172 #[iv pw, iv pf, iv 0, iv 0, rv r_ColumnType_TINYINT, .val (.long 127), .second] [(.int 0), (.ref r_ColumnType_TINYINT)])) (fun t k => XS.iloadN X3.here hx rfl (hb hby at_171) rfl  k) ?_
      obtain ⟨cq4, kq4, q4a, q4b, q4c⟩ := isOf hZ e3 E_r_ColumnType_TINYINT
      obtain ⟨_, _, ⟨T4, L4, k4, n4⟩, -, X4, ⟨Lc4, hQ4, l4, y4, z4⟩, st4⟩ := X3.virtualBack hx (y := (⟨"com/example/latch/latch/engine/ColumnType", "maxValue", "(Z)J"⟩ : MethodName)) (z := (⟨"com/example/latch/latch/engine/ColumnType", "maxValue", "(Z)J"⟩ : MethodName)) hown (mvT hZ (hw _ (List.mem_of_getElem? (i := 5) rfl))) (mvT hZ (hw _ (List.mem_of_getElem? (i := 6) rfl))) (notFace_of_selects (args := #[]) (mvT hZ (hw _ (List.mem_of_getElem? (i := 8) rfl)))) (mvT hZ (hw _ (List.mem_of_getElem? (i := 8) rfl))) (mvT hZ (hw _ (List.mem_of_getElem? (i := 7) rfl))) (by decide) (backOf (W := 0) (rmA l Z a0 hw [] r_ColumnType_TINYINT (0 : Int32) (8 : Int32) h0 n0 F_r_ColumnType_TINYINT_m_bits) hZ (hw _ (List.mem_of_getElem? (i := 9) rfl)) (hw _ (List.mem_of_getElem? (i := 2) rfl)) (by decide) (by decide)) q4a q4c (g := (mkF m 172 #[iv pw, iv pf, iv 0, iv 0, rv r_ColumnType_TINYINT, .val (.long 127), .second] [(.int 0), (.ref r_ColumnType_TINYINT)])) rfl (by rw [hml]; rfl) (Steps.refl _) (argsL := [(.int 0)]) (rest := []) (lenOf pd_0 rfl) rfl (by show 2 * 0 + _ ≤ _; exact Nat.le_of_eq rfl) (hb hby at_172) (fun _ _ => ⟨rfl, e3, (by decide : 0 + 0 ≤ _), (by decide : 0 + 0 ≤ _)⟩)
      dsimp only [Pt.U, Pt.locs, Pt.cells, Pt.slots] at X4 l4 y4 z4 st4 hQ4
      subst l4 y4 z4
      obtain ⟨hv4, N4q, e4⟩ := hQ4
      rw [(show (own_max (0 : Int32) (8 : Int32)) = (127 : Int64) from by decide)] at hv4; subst hv4
      have N4 := Fr.app N0 N4q
      refine Go.pull (V := T4.setTop (mkF m 175 #[iv pw, iv pf, iv 0, iv 0, rv r_ColumnType_TINYINT, .val (.long 127), .second] [(.long 127)])) (fun _ k => st4.trans k) ?_
      refine Go.pull (V := T4.setTop (mkF m 177 #[iv pw, iv pf, iv 0, iv 0, rv r_ColumnType_TINYINT, .val (.long 127), .second] [(.long 127), (.long 127)])) (fun t k => XS.lload X4.here hx rfl (hb hby at_175) rfl  k) ?_
      refine Go.pull (V := T4.setTop (mkF m 178 #[iv pw, iv pf, iv 0, iv 0, rv r_ColumnType_TINYINT, .val (.long 127), .second] [(.int (XT.cmpL (127 : Int64) (127 : Int64)))])) (fun t k => XT.lcmp X4.here hx rfl (hb hby at_177) rfl k) ?_
      refine Go.pull (V := T4.setTop (mkF m 181 #[iv pw, iv pf, iv 0, iv 0, rv r_ColumnType_TINYINT, .val (.long 127), .second] [])) (fun t k => XS.ifNo X4.here hx rfl (hb hby at_178) rfl (XT.ll_ne_f (by decide)) k) ?_
      refine Go.pull (V := T4.setTop (mkF m 182 #[iv pw, iv pf, iv 0, iv 0, rv r_ColumnType_TINYINT, .val (.long 127), .second] [(.int 1)])) (fun t k => XS.iconst X4.here hx rfl (hb hby at_181) k) ?_
      refine Go.pull (V := T4.setTop (mkF m 186 #[iv pw, iv pf, iv 0, iv 0, rv r_ColumnType_TINYINT, .val (.long 127), .second] [(.int 1)])) (fun t k => XS.goto X4.here hx rfl (pc0 := 182) (pc' := 186) rfl (hb hby at_182) (by decide) (by decide) k) ?_
      exact Go.retN X4 hx Bd.notSynchronized (t := .boolean) Bd.returns (by simp) (hb hby at_186) ⟨rfl, N4⟩ (by decide) (by decide)
    · skip
      refine Go.pull (V := s₁.setTop (mkF m 14 #[iv pw, iv pf, iv 0, .unset, .unset, .unset, .unset] [])) (fun t k => XS.ifNo X0.here hx rfl (hb hby at_11) rfl (XT.i0_eq_f hc11_2) k) ?_
      refine Go.pull (V := s₁.setTop (mkF m 15 #[iv pw, iv pf, iv 0, .unset, .unset, .unset, .unset] [(.int 1)])) (fun t k => XS.iconst X0.here hx rfl (hb hby at_14) k) ?_
      refine Go.pull (V := s₁.setTop (mkF m 19 #[iv pw, iv pf, iv 0, .unset, .unset, .unset, .unset] [(.int 1)])) (fun t k => XS.goto X0.here hx rfl (pc0 := 15) (pc' := 19) rfl (hb hby at_15) (by decide) (by decide) k) ?_
      refine Go.pull (V := s₁.setTop (mkF m 20 #[iv pw, iv pf, iv 0, iv 1, .unset, .unset, .unset] [])) (fun t k => XS.istoreN X0.here hx rfl (hb hby at_19) rfl (l' := #[iv pw, iv pf, iv 0, iv 1, .unset, .unset, .unset]) rfl k) ?_
      refine Go.pull (V := s₁.setTop (mkF m 21 #[iv pw, iv pf, iv 0, iv 1, .unset, .unset, .unset] [(.int 0)])) (fun t k => XS.iloadN X0.here hx rfl (hb hby at_20) rfl  k) ?_
      refine Go.pull (V := s₁.setTop (mkF m 24 #[iv pw, iv pf, iv 0, iv 1, .unset, .unset, .unset] [])) (fun t k => XS.ifNo X0.here hx rfl (hb hby at_21) rfl (XT.i0_ne_f (by decide)) k) ?_
      obtain ⟨T5, X5, e5, st5⟩ := getS2 X0 hx hZ hown (host := "") (Or.inl (hw _ (List.mem_of_getElem? (i := 1) rfl))) Via.refl e0 S_r_ColumnType_TINYINT (g := (mkF m 24 #[iv pw, iv pf, iv 0, iv 1, .unset, .unset, .unset] [])) rfl (hb hby at_24)
      refine Go.pull (V := T5.setTop (mkF m 27 #[iv pw, iv pf, iv 0, iv 1, .unset, .unset, .unset] [(.ref r_ColumnType_TINYINT)])) st5 ?_
      refine Go.pull (V := T5.setTop (mkF m 29 #[iv pw, iv pf, iv 0, iv 1, rv r_ColumnType_TINYINT, .unset, .unset] [])) (fun t k => XS.astore X5.here hx rfl (hb hby at_27) rfl rfl (l' := #[iv pw, iv pf, iv 0, iv 1, rv r_ColumnType_TINYINT, .unset, .unset]) rfl k) ?_
      refine Go.pull (V := T5.setTop (mkF m 30 #[iv pw, iv pf, iv 0, iv 1, rv r_ColumnType_TINYINT, .unset, .unset] [(.int 1)])) (fun t k => XS.iloadN X5.here hx rfl (hb hby at_29) rfl  k) ?_
      refine Go.pull (V := T5.setTop (mkF m 33 #[iv pw, iv pf, iv 0, iv 1, rv r_ColumnType_TINYINT, .unset, .unset] [])) (fun t k => XS.ifNo X5.here hx rfl (hb hby at_30) rfl (XT.i0_eq_f (by decide)) k) ?_
      refine Go.pull (V := T5.setTop (mkF m 36 #[iv pw, iv pf, iv 0, iv 1, rv r_ColumnType_TINYINT, .unset, .unset] [(.long 255)])) (fun t k => X5.ldc2Long hx hown (mvT hZ (hw _ (List.mem_of_getElem? (i := 4) rfl))) (g := (mkF m 33 #[iv pw, iv pf, iv 0, iv 1, rv r_ColumnType_TINYINT, .unset, .unset] [])) rfl (hb hby at_33) _ k) ?_
      refine Go.pull (V := T5.setTop (mkF m 42 #[iv pw, iv pf, iv 0, iv 1, rv r_ColumnType_TINYINT, .unset, .unset] [(.long 255)])) (fun t k => XS.goto X5.here hx rfl (pc0 := 36) (pc' := 42) rfl (hb hby at_36) (by decide) (by decide) k) ?_
      refine Go.pull (V := T5.setTop (mkF m 44 #[iv pw, iv pf, iv 0, iv 1, rv r_ColumnType_TINYINT, .val (.long 255), .second] [])) (fun t k => XS.lstore X5.here hx rfl (hb hby at_42) rfl (l' := #[iv pw, iv pf, iv 0, iv 1, rv r_ColumnType_TINYINT, .val (.long 255), .second]) rfl k) ?_
      refine Go.pull (V := T5.setTop (mkF m 169 #[iv pw, iv pf, iv 0, iv 1, rv r_ColumnType_TINYINT, .val (.long 255), .second] [])) (fun t k => XS.goto X5.here hx rfl (pc0 := 44) (pc' := 169) rfl (hb hby at_44) (by decide) (by decide) k) ?_
      refine Go.pull (V := T5.setTop (mkF m 171 #[iv pw, iv pf, iv 0, iv 1, rv r_ColumnType_TINYINT, .val (.long 255), .second] [(.ref r_ColumnType_TINYINT)])) (fun t k => XS.aload X5.here hx rfl (hb hby at_169) rfl rfl k) ?_
      refine Go.pull (V := T5.setTop (mkF m 172 #[iv pw, iv pf, iv 0, iv 1, rv r_ColumnType_TINYINT, .val (.long 255), .second] [(.int 1), (.ref r_ColumnType_TINYINT)])) (fun t k => XS.iloadN X5.here hx rfl (hb hby at_171) rfl  k) ?_
      obtain ⟨cq6, kq6, q6a, q6b, q6c⟩ := isOf hZ e5 E_r_ColumnType_TINYINT
      obtain ⟨_, _, ⟨T6, L6, k6, n6⟩, -, X6, ⟨Lc6, hQ6, l6, y6, z6⟩, st6⟩ := X5.virtualBack hx (y := (⟨"com/example/latch/latch/engine/ColumnType", "maxValue", "(Z)J"⟩ : MethodName)) (z := (⟨"com/example/latch/latch/engine/ColumnType", "maxValue", "(Z)J"⟩ : MethodName)) hown (mvT hZ (hw _ (List.mem_of_getElem? (i := 5) rfl))) (mvT hZ (hw _ (List.mem_of_getElem? (i := 6) rfl))) (notFace_of_selects (args := #[]) (mvT hZ (hw _ (List.mem_of_getElem? (i := 8) rfl)))) (mvT hZ (hw _ (List.mem_of_getElem? (i := 8) rfl))) (mvT hZ (hw _ (List.mem_of_getElem? (i := 7) rfl))) (by decide) (backOf (W := 0) (rmA l Z a0 hw [] r_ColumnType_TINYINT (1 : Int32) (8 : Int32) h0 n0 F_r_ColumnType_TINYINT_m_bits) hZ (hw _ (List.mem_of_getElem? (i := 9) rfl)) (hw _ (List.mem_of_getElem? (i := 2) rfl)) (by decide) (by decide)) q6a q6c (g := (mkF m 172 #[iv pw, iv pf, iv 0, iv 1, rv r_ColumnType_TINYINT, .val (.long 255), .second] [(.int 1), (.ref r_ColumnType_TINYINT)])) rfl (by rw [hml]; rfl) (Steps.refl _) (argsL := [(.int 1)]) (rest := []) (lenOf pd_0 rfl) rfl (by show 2 * 0 + _ ≤ _; exact Nat.le_of_eq rfl) (hb hby at_172) (fun _ _ => ⟨rfl, e5, (by decide : 0 + 0 ≤ _), (by decide : 0 + 0 ≤ _)⟩)
      dsimp only [Pt.U, Pt.locs, Pt.cells, Pt.slots] at X6 l6 y6 z6 st6 hQ6
      subst l6 y6 z6
      obtain ⟨hv6, N6q, e6⟩ := hQ6
      rw [(show (own_max (1 : Int32) (8 : Int32)) = (255 : Int64) from by decide)] at hv6; subst hv6
      have N6 := Fr.app N0 N6q
      refine Go.pull (V := T6.setTop (mkF m 175 #[iv pw, iv pf, iv 0, iv 1, rv r_ColumnType_TINYINT, .val (.long 255), .second] [(.long 255)])) (fun _ k => st6.trans k) ?_
      refine Go.pull (V := T6.setTop (mkF m 177 #[iv pw, iv pf, iv 0, iv 1, rv r_ColumnType_TINYINT, .val (.long 255), .second] [(.long 255), (.long 255)])) (fun t k => XS.lload X6.here hx rfl (hb hby at_175) rfl  k) ?_
      refine Go.pull (V := T6.setTop (mkF m 178 #[iv pw, iv pf, iv 0, iv 1, rv r_ColumnType_TINYINT, .val (.long 255), .second] [(.int (XT.cmpL (255 : Int64) (255 : Int64)))])) (fun t k => XT.lcmp X6.here hx rfl (hb hby at_177) rfl k) ?_
      refine Go.pull (V := T6.setTop (mkF m 181 #[iv pw, iv pf, iv 0, iv 1, rv r_ColumnType_TINYINT, .val (.long 255), .second] [])) (fun t k => XS.ifNo X6.here hx rfl (hb hby at_178) rfl (XT.ll_ne_f (by decide)) k) ?_
      refine Go.pull (V := T6.setTop (mkF m 182 #[iv pw, iv pf, iv 0, iv 1, rv r_ColumnType_TINYINT, .val (.long 255), .second] [(.int 1)])) (fun t k => XS.iconst X6.here hx rfl (hb hby at_181) k) ?_
      refine Go.pull (V := T6.setTop (mkF m 186 #[iv pw, iv pf, iv 0, iv 1, rv r_ColumnType_TINYINT, .val (.long 255), .second] [(.int 1)])) (fun t k => XS.goto X6.here hx rfl (pc0 := 182) (pc' := 186) rfl (hb hby at_182) (by decide) (by decide) k) ?_
      exact Go.retN X6 hx Bd.notSynchronized (t := .boolean) Bd.returns (by simp) (hb hby at_186) ⟨rfl, N6⟩ (by decide) (by decide)
  · subst hv1
    refine Go.pull (V := s₁.setTop (mkF m 9 #[iv pw, iv pf, iv 1, .unset, .unset, .unset, .unset] [(.int pf)])) (fun t k => XS.iloadN X0.here hx rfl (hb hby at_8) rfl  k) ?_
    refine Go.pull (V := s₁.setTop (mkF m 10 #[iv pw, iv pf, iv 1, .unset, .unset, .unset, .unset] [(.int 1), (.int pf)])) (fun t k => XS.iconst X0.here hx rfl (hb hby at_9) k) ?_
    refine Go.pull (V := s₁.setTop (mkF m 11 #[iv pw, iv pf, iv 1, .unset, .unset, .unset, .unset] [(.int (pf &&& (1 : Int32)))])) (fun t k => XS.iand X0.here hx rfl (hb hby at_10) rfl k) ?_
    by_cases hc11_7 : (pf &&& (1 : Int32)) = 0
    · skip
      refine Go.pull (V := s₁.setTop (mkF m 18 #[iv pw, iv pf, iv 1, .unset, .unset, .unset, .unset] [])) (fun t k => XS.ifYes X0.here hx rfl (pc0 := 11) (pc' := 18) rfl (hb hby at_11) rfl (XT.i0_eq_t hc11_7) (by decide) (by decide) k) ?_
      refine Go.pull (V := s₁.setTop (mkF m 19 #[iv pw, iv pf, iv 1, .unset, .unset, .unset, .unset] [(.int 0)])) (fun t k => XS.iconst X0.here hx rfl (hb hby at_18) k) ?_
      refine Go.pull (V := s₁.setTop (mkF m 20 #[iv pw, iv pf, iv 1, iv 0, .unset, .unset, .unset] [])) (fun t k => XS.istoreN X0.here hx rfl (hb hby at_19) rfl (l' := #[iv pw, iv pf, iv 1, iv 0, .unset, .unset, .unset]) rfl k) ?_
      refine Go.pull (V := s₁.setTop (mkF m 21 #[iv pw, iv pf, iv 1, iv 0, .unset, .unset, .unset] [(.int 1)])) (fun t k => XS.iloadN X0.here hx rfl (hb hby at_20) rfl  k) ?_
      refine Go.pull (V := s₁.setTop (mkF m 47 #[iv pw, iv pf, iv 1, iv 0, .unset, .unset, .unset] [])) (fun t k => XS.ifYes X0.here hx rfl (pc0 := 21) (pc' := 47) rfl (hb hby at_21) rfl (XT.i0_ne_t (by decide)) (by decide) (by decide) k) ?_
      refine Go.pull (V := s₁.setTop (mkF m 48 #[iv pw, iv pf, iv 1, iv 0, .unset, .unset, .unset] [(.int 1)])) (fun t k => XS.iloadN X0.here hx rfl (hb hby at_47) rfl  k) ?_
      refine Go.pull (V := s₁.setTop (mkF m 49 #[iv pw, iv pf, iv 1, iv 0, .unset, .unset, .unset] [(.int 1), (.int 1)])) (fun t k => XS.iconst X0.here hx rfl (hb hby at_48) k) ?_
      refine Go.pull (V := s₁.setTop (mkF m 52 #[iv pw, iv pf, iv 1, iv 0, .unset, .unset, .unset] [])) (fun t k => XS.icmpNo X0.here hx rfl (hb hby at_49) rfl (XT.ii_ne_f (by decide)) k) ?_
      obtain ⟨T8, X8, e8, st8⟩ := getS2 X0 hx hZ hown (host := "") (Or.inl (hw _ (List.mem_of_getElem? (i := 19) rfl))) Via.refl e0 S_r_ColumnType_SMALLINT (g := (mkF m 52 #[iv pw, iv pf, iv 1, iv 0, .unset, .unset, .unset] [])) rfl (hb hby at_52)
      refine Go.pull (V := T8.setTop (mkF m 55 #[iv pw, iv pf, iv 1, iv 0, .unset, .unset, .unset] [(.ref r_ColumnType_SMALLINT)])) st8 ?_
      refine Go.pull (V := T8.setTop (mkF m 57 #[iv pw, iv pf, iv 1, iv 0, rv r_ColumnType_SMALLINT, .unset, .unset] [])) (fun t k => XS.astore X8.here hx rfl (hb hby at_55) rfl rfl (l' := #[iv pw, iv pf, iv 1, iv 0, rv r_ColumnType_SMALLINT, .unset, .unset]) rfl k) ?_
      refine Go.pull (V := T8.setTop (mkF m 58 #[iv pw, iv pf, iv 1, iv 0, rv r_ColumnType_SMALLINT, .unset, .unset] [(.int 0)])) (fun t k => XS.iloadN X8.here hx rfl (hb hby at_57) rfl  k) ?_
      refine Go.pull (V := T8.setTop (mkF m 67 #[iv pw, iv pf, iv 1, iv 0, rv r_ColumnType_SMALLINT, .unset, .unset] [])) (fun t k => XS.ifYes X8.here hx rfl (pc0 := 58) (pc' := 67) rfl (hb hby at_58) rfl (XT.i0_eq_t (by decide)) (by decide) (by decide) k) ?_
      refine Go.pull (V := T8.setTop (mkF m 70 #[iv pw, iv pf, iv 1, iv 0, rv r_ColumnType_SMALLINT, .unset, .unset] [(.long 32767)])) (fun t k => X8.ldc2Long hx hown (mvT hZ (hw _ (List.mem_of_getElem? (i := 30) rfl))) (g := (mkF m 67 #[iv pw, iv pf, iv 1, iv 0, rv r_ColumnType_SMALLINT, .unset, .unset] [])) rfl (hb hby at_67) _ k) ?_
      refine Go.pull (V := T8.setTop (mkF m 72 #[iv pw, iv pf, iv 1, iv 0, rv r_ColumnType_SMALLINT, .val (.long 32767), .second] [])) (fun t k => XS.lstore X8.here hx rfl (hb hby at_70) rfl (l' := #[iv pw, iv pf, iv 1, iv 0, rv r_ColumnType_SMALLINT, .val (.long 32767), .second]) rfl k) ?_
      refine Go.pull (V := T8.setTop (mkF m 169 #[iv pw, iv pf, iv 1, iv 0, rv r_ColumnType_SMALLINT, .val (.long 32767), .second] [])) (fun t k => XS.goto X8.here hx rfl (pc0 := 72) (pc' := 169) rfl (hb hby at_72) (by decide) (by decide) k) ?_
      refine Go.pull (V := T8.setTop (mkF m 171 #[iv pw, iv pf, iv 1, iv 0, rv r_ColumnType_SMALLINT, .val (.long 32767), .second] [(.ref r_ColumnType_SMALLINT)])) (fun t k => XS.aload X8.here hx rfl (hb hby at_169) rfl rfl k) ?_
      refine Go.pull (V := T8.setTop (mkF m 172 #[iv pw, iv pf, iv 1, iv 0, rv r_ColumnType_SMALLINT, .val (.long 32767), .second] [(.int 0), (.ref r_ColumnType_SMALLINT)])) (fun t k => XS.iloadN X8.here hx rfl (hb hby at_171) rfl  k) ?_
      obtain ⟨cq9, kq9, q9a, q9b, q9c⟩ := isOf hZ e8 E_r_ColumnType_SMALLINT
      obtain ⟨_, _, ⟨T9, L9, k9, n9⟩, -, X9, ⟨Lc9, hQ9, l9, y9, z9⟩, st9⟩ := X8.virtualBack hx (y := (⟨"com/example/latch/latch/engine/ColumnType", "maxValue", "(Z)J"⟩ : MethodName)) (z := (⟨"com/example/latch/latch/engine/ColumnType", "maxValue", "(Z)J"⟩ : MethodName)) hown (mvT hZ (hw _ (List.mem_of_getElem? (i := 5) rfl))) (mvT hZ (hw _ (List.mem_of_getElem? (i := 6) rfl))) (notFace_of_selects (args := #[]) (mvT hZ (hw _ (List.mem_of_getElem? (i := 8) rfl)))) (mvT hZ (hw _ (List.mem_of_getElem? (i := 8) rfl))) (mvT hZ (hw _ (List.mem_of_getElem? (i := 7) rfl))) (by decide) (backOf (W := 0) (rmA l Z a0 hw [] r_ColumnType_SMALLINT (0 : Int32) (16 : Int32) h0 n0 F_r_ColumnType_SMALLINT_m_bits) hZ (hw _ (List.mem_of_getElem? (i := 9) rfl)) (hw _ (List.mem_of_getElem? (i := 2) rfl)) (by decide) (by decide)) q9a q9c (g := (mkF m 172 #[iv pw, iv pf, iv 1, iv 0, rv r_ColumnType_SMALLINT, .val (.long 32767), .second] [(.int 0), (.ref r_ColumnType_SMALLINT)])) rfl (by rw [hml]; rfl) (Steps.refl _) (argsL := [(.int 0)]) (rest := []) (lenOf pd_0 rfl) rfl (by show 2 * 0 + _ ≤ _; exact Nat.le_of_eq rfl) (hb hby at_172) (fun _ _ => ⟨rfl, e8, (by decide : 0 + 0 ≤ _), (by decide : 0 + 0 ≤ _)⟩)
      dsimp only [Pt.U, Pt.locs, Pt.cells, Pt.slots] at X9 l9 y9 z9 st9 hQ9
      subst l9 y9 z9
      obtain ⟨hv9, N9q, e9⟩ := hQ9
      rw [(show (own_max (0 : Int32) (16 : Int32)) = (32767 : Int64) from by decide)] at hv9; subst hv9
      have N9 := Fr.app N0 N9q
      refine Go.pull (V := T9.setTop (mkF m 175 #[iv pw, iv pf, iv 1, iv 0, rv r_ColumnType_SMALLINT, .val (.long 32767), .second] [(.long 32767)])) (fun _ k => st9.trans k) ?_
      refine Go.pull (V := T9.setTop (mkF m 177 #[iv pw, iv pf, iv 1, iv 0, rv r_ColumnType_SMALLINT, .val (.long 32767), .second] [(.long 32767), (.long 32767)])) (fun t k => XS.lload X9.here hx rfl (hb hby at_175) rfl  k) ?_
      refine Go.pull (V := T9.setTop (mkF m 178 #[iv pw, iv pf, iv 1, iv 0, rv r_ColumnType_SMALLINT, .val (.long 32767), .second] [(.int (XT.cmpL (32767 : Int64) (32767 : Int64)))])) (fun t k => XT.lcmp X9.here hx rfl (hb hby at_177) rfl k) ?_
      refine Go.pull (V := T9.setTop (mkF m 181 #[iv pw, iv pf, iv 1, iv 0, rv r_ColumnType_SMALLINT, .val (.long 32767), .second] [])) (fun t k => XS.ifNo X9.here hx rfl (hb hby at_178) rfl (XT.ll_ne_f (by decide)) k) ?_
      refine Go.pull (V := T9.setTop (mkF m 182 #[iv pw, iv pf, iv 1, iv 0, rv r_ColumnType_SMALLINT, .val (.long 32767), .second] [(.int 1)])) (fun t k => XS.iconst X9.here hx rfl (hb hby at_181) k) ?_
      refine Go.pull (V := T9.setTop (mkF m 186 #[iv pw, iv pf, iv 1, iv 0, rv r_ColumnType_SMALLINT, .val (.long 32767), .second] [(.int 1)])) (fun t k => XS.goto X9.here hx rfl (pc0 := 182) (pc' := 186) rfl (hb hby at_182) (by decide) (by decide) k) ?_
      exact Go.retN X9 hx Bd.notSynchronized (t := .boolean) Bd.returns (by simp) (hb hby at_186) ⟨rfl, N9⟩ (by decide) (by decide)
    · skip
      refine Go.pull (V := s₁.setTop (mkF m 14 #[iv pw, iv pf, iv 1, .unset, .unset, .unset, .unset] [])) (fun t k => XS.ifNo X0.here hx rfl (hb hby at_11) rfl (XT.i0_eq_f hc11_7) k) ?_
      refine Go.pull (V := s₁.setTop (mkF m 15 #[iv pw, iv pf, iv 1, .unset, .unset, .unset, .unset] [(.int 1)])) (fun t k => XS.iconst X0.here hx rfl (hb hby at_14) k) ?_
      refine Go.pull (V := s₁.setTop (mkF m 19 #[iv pw, iv pf, iv 1, .unset, .unset, .unset, .unset] [(.int 1)])) (fun t k => XS.goto X0.here hx rfl (pc0 := 15) (pc' := 19) rfl (hb hby at_15) (by decide) (by decide) k) ?_
      refine Go.pull (V := s₁.setTop (mkF m 20 #[iv pw, iv pf, iv 1, iv 1, .unset, .unset, .unset] [])) (fun t k => XS.istoreN X0.here hx rfl (hb hby at_19) rfl (l' := #[iv pw, iv pf, iv 1, iv 1, .unset, .unset, .unset]) rfl k) ?_
      refine Go.pull (V := s₁.setTop (mkF m 21 #[iv pw, iv pf, iv 1, iv 1, .unset, .unset, .unset] [(.int 1)])) (fun t k => XS.iloadN X0.here hx rfl (hb hby at_20) rfl  k) ?_
      refine Go.pull (V := s₁.setTop (mkF m 47 #[iv pw, iv pf, iv 1, iv 1, .unset, .unset, .unset] [])) (fun t k => XS.ifYes X0.here hx rfl (pc0 := 21) (pc' := 47) rfl (hb hby at_21) rfl (XT.i0_ne_t (by decide)) (by decide) (by decide) k) ?_
      refine Go.pull (V := s₁.setTop (mkF m 48 #[iv pw, iv pf, iv 1, iv 1, .unset, .unset, .unset] [(.int 1)])) (fun t k => XS.iloadN X0.here hx rfl (hb hby at_47) rfl  k) ?_
      refine Go.pull (V := s₁.setTop (mkF m 49 #[iv pw, iv pf, iv 1, iv 1, .unset, .unset, .unset] [(.int 1), (.int 1)])) (fun t k => XS.iconst X0.here hx rfl (hb hby at_48) k) ?_
      refine Go.pull (V := s₁.setTop (mkF m 52 #[iv pw, iv pf, iv 1, iv 1, .unset, .unset, .unset] [])) (fun t k => XS.icmpNo X0.here hx rfl (hb hby at_49) rfl (XT.ii_ne_f (by decide)) k) ?_
      obtain ⟨T10, X10, e10, st10⟩ := getS2 X0 hx hZ hown (host := "") (Or.inl (hw _ (List.mem_of_getElem? (i := 19) rfl))) Via.refl e0 S_r_ColumnType_SMALLINT (g := (mkF m 52 #[iv pw, iv pf, iv 1, iv 1, .unset, .unset, .unset] [])) rfl (hb hby at_52)
      refine Go.pull (V := T10.setTop (mkF m 55 #[iv pw, iv pf, iv 1, iv 1, .unset, .unset, .unset] [(.ref r_ColumnType_SMALLINT)])) st10 ?_
      refine Go.pull (V := T10.setTop (mkF m 57 #[iv pw, iv pf, iv 1, iv 1, rv r_ColumnType_SMALLINT, .unset, .unset] [])) (fun t k => XS.astore X10.here hx rfl (hb hby at_55) rfl rfl (l' := #[iv pw, iv pf, iv 1, iv 1, rv r_ColumnType_SMALLINT, .unset, .unset]) rfl k) ?_
      refine Go.pull (V := T10.setTop (mkF m 58 #[iv pw, iv pf, iv 1, iv 1, rv r_ColumnType_SMALLINT, .unset, .unset] [(.int 1)])) (fun t k => XS.iloadN X10.here hx rfl (hb hby at_57) rfl  k) ?_
      refine Go.pull (V := T10.setTop (mkF m 61 #[iv pw, iv pf, iv 1, iv 1, rv r_ColumnType_SMALLINT, .unset, .unset] [])) (fun t k => XS.ifNo X10.here hx rfl (hb hby at_58) rfl (XT.i0_eq_f (by decide)) k) ?_
      refine Go.pull (V := T10.setTop (mkF m 64 #[iv pw, iv pf, iv 1, iv 1, rv r_ColumnType_SMALLINT, .unset, .unset] [(.long 65535)])) (fun t k => X10.ldc2Long hx hown (mvT hZ (hw _ (List.mem_of_getElem? (i := 21) rfl))) (g := (mkF m 61 #[iv pw, iv pf, iv 1, iv 1, rv r_ColumnType_SMALLINT, .unset, .unset] [])) rfl (hb hby at_61) _ k) ?_
      refine Go.pull (V := T10.setTop (mkF m 70 #[iv pw, iv pf, iv 1, iv 1, rv r_ColumnType_SMALLINT, .unset, .unset] [(.long 65535)])) (fun t k => XS.goto X10.here hx rfl (pc0 := 64) (pc' := 70) rfl (hb hby at_64) (by decide) (by decide) k) ?_
      refine Go.pull (V := T10.setTop (mkF m 72 #[iv pw, iv pf, iv 1, iv 1, rv r_ColumnType_SMALLINT, .val (.long 65535), .second] [])) (fun t k => XS.lstore X10.here hx rfl (hb hby at_70) rfl (l' := #[iv pw, iv pf, iv 1, iv 1, rv r_ColumnType_SMALLINT, .val (.long 65535), .second]) rfl k) ?_
      refine Go.pull (V := T10.setTop (mkF m 169 #[iv pw, iv pf, iv 1, iv 1, rv r_ColumnType_SMALLINT, .val (.long 65535), .second] [])) (fun t k => XS.goto X10.here hx rfl (pc0 := 72) (pc' := 169) rfl (hb hby at_72) (by decide) (by decide) k) ?_
      refine Go.pull (V := T10.setTop (mkF m 171 #[iv pw, iv pf, iv 1, iv 1, rv r_ColumnType_SMALLINT, .val (.long 65535), .second] [(.ref r_ColumnType_SMALLINT)])) (fun t k => XS.aload X10.here hx rfl (hb hby at_169) rfl rfl k) ?_
      refine Go.pull (V := T10.setTop (mkF m 172 #[iv pw, iv pf, iv 1, iv 1, rv r_ColumnType_SMALLINT, .val (.long 65535), .second] [(.int 1), (.ref r_ColumnType_SMALLINT)])) (fun t k => XS.iloadN X10.here hx rfl (hb hby at_171) rfl  k) ?_
      obtain ⟨cq11, kq11, q11a, q11b, q11c⟩ := isOf hZ e10 E_r_ColumnType_SMALLINT
      obtain ⟨_, _, ⟨T11, L11, k11, n11⟩, -, X11, ⟨Lc11, hQ11, l11, y11, z11⟩, st11⟩ := X10.virtualBack hx (y := (⟨"com/example/latch/latch/engine/ColumnType", "maxValue", "(Z)J"⟩ : MethodName)) (z := (⟨"com/example/latch/latch/engine/ColumnType", "maxValue", "(Z)J"⟩ : MethodName)) hown (mvT hZ (hw _ (List.mem_of_getElem? (i := 5) rfl))) (mvT hZ (hw _ (List.mem_of_getElem? (i := 6) rfl))) (notFace_of_selects (args := #[]) (mvT hZ (hw _ (List.mem_of_getElem? (i := 8) rfl)))) (mvT hZ (hw _ (List.mem_of_getElem? (i := 8) rfl))) (mvT hZ (hw _ (List.mem_of_getElem? (i := 7) rfl))) (by decide) (backOf (W := 0) (rmA l Z a0 hw [] r_ColumnType_SMALLINT (1 : Int32) (16 : Int32) h0 n0 F_r_ColumnType_SMALLINT_m_bits) hZ (hw _ (List.mem_of_getElem? (i := 9) rfl)) (hw _ (List.mem_of_getElem? (i := 2) rfl)) (by decide) (by decide)) q11a q11c (g := (mkF m 172 #[iv pw, iv pf, iv 1, iv 1, rv r_ColumnType_SMALLINT, .val (.long 65535), .second] [(.int 1), (.ref r_ColumnType_SMALLINT)])) rfl (by rw [hml]; rfl) (Steps.refl _) (argsL := [(.int 1)]) (rest := []) (lenOf pd_0 rfl) rfl (by show 2 * 0 + _ ≤ _; exact Nat.le_of_eq rfl) (hb hby at_172) (fun _ _ => ⟨rfl, e10, (by decide : 0 + 0 ≤ _), (by decide : 0 + 0 ≤ _)⟩)
      dsimp only [Pt.U, Pt.locs, Pt.cells, Pt.slots] at X11 l11 y11 z11 st11 hQ11
      subst l11 y11 z11
      obtain ⟨hv11, N11q, e11⟩ := hQ11
      rw [(show (own_max (1 : Int32) (16 : Int32)) = (65535 : Int64) from by decide)] at hv11; subst hv11
      have N11 := Fr.app N0 N11q
      refine Go.pull (V := T11.setTop (mkF m 175 #[iv pw, iv pf, iv 1, iv 1, rv r_ColumnType_SMALLINT, .val (.long 65535), .second] [(.long 65535)])) (fun _ k => st11.trans k) ?_
      refine Go.pull (V := T11.setTop (mkF m 177 #[iv pw, iv pf, iv 1, iv 1, rv r_ColumnType_SMALLINT, .val (.long 65535), .second] [(.long 65535), (.long 65535)])) (fun t k => XS.lload X11.here hx rfl (hb hby at_175) rfl  k) ?_
      refine Go.pull (V := T11.setTop (mkF m 178 #[iv pw, iv pf, iv 1, iv 1, rv r_ColumnType_SMALLINT, .val (.long 65535), .second] [(.int (XT.cmpL (65535 : Int64) (65535 : Int64)))])) (fun t k => XT.lcmp X11.here hx rfl (hb hby at_177) rfl k) ?_
      refine Go.pull (V := T11.setTop (mkF m 181 #[iv pw, iv pf, iv 1, iv 1, rv r_ColumnType_SMALLINT, .val (.long 65535), .second] [])) (fun t k => XS.ifNo X11.here hx rfl (hb hby at_178) rfl (XT.ll_ne_f (by decide)) k) ?_
      refine Go.pull (V := T11.setTop (mkF m 182 #[iv pw, iv pf, iv 1, iv 1, rv r_ColumnType_SMALLINT, .val (.long 65535), .second] [(.int 1)])) (fun t k => XS.iconst X11.here hx rfl (hb hby at_181) k) ?_
      refine Go.pull (V := T11.setTop (mkF m 186 #[iv pw, iv pf, iv 1, iv 1, rv r_ColumnType_SMALLINT, .val (.long 65535), .second] [(.int 1)])) (fun t k => XS.goto X11.here hx rfl (pc0 := 182) (pc' := 186) rfl (hb hby at_182) (by decide) (by decide) k) ?_
      exact Go.retN X11 hx Bd.notSynchronized (t := .boolean) Bd.returns (by simp) (hb hby at_186) ⟨rfl, N11⟩ (by decide) (by decide)
  · subst hv1
    refine Go.pull (V := s₁.setTop (mkF m 9 #[iv pw, iv pf, iv 2, .unset, .unset, .unset, .unset] [(.int pf)])) (fun t k => XS.iloadN X0.here hx rfl (hb hby at_8) rfl  k) ?_
    refine Go.pull (V := s₁.setTop (mkF m 10 #[iv pw, iv pf, iv 2, .unset, .unset, .unset, .unset] [(.int 1), (.int pf)])) (fun t k => XS.iconst X0.here hx rfl (hb hby at_9) k) ?_
    refine Go.pull (V := s₁.setTop (mkF m 11 #[iv pw, iv pf, iv 2, .unset, .unset, .unset, .unset] [(.int (pf &&& (1 : Int32)))])) (fun t k => XS.iand X0.here hx rfl (hb hby at_10) rfl k) ?_
    by_cases hc11_12 : (pf &&& (1 : Int32)) = 0
    · skip
      refine Go.pull (V := s₁.setTop (mkF m 18 #[iv pw, iv pf, iv 2, .unset, .unset, .unset, .unset] [])) (fun t k => XS.ifYes X0.here hx rfl (pc0 := 11) (pc' := 18) rfl (hb hby at_11) rfl (XT.i0_eq_t hc11_12) (by decide) (by decide) k) ?_
      refine Go.pull (V := s₁.setTop (mkF m 19 #[iv pw, iv pf, iv 2, .unset, .unset, .unset, .unset] [(.int 0)])) (fun t k => XS.iconst X0.here hx rfl (hb hby at_18) k) ?_
      refine Go.pull (V := s₁.setTop (mkF m 20 #[iv pw, iv pf, iv 2, iv 0, .unset, .unset, .unset] [])) (fun t k => XS.istoreN X0.here hx rfl (hb hby at_19) rfl (l' := #[iv pw, iv pf, iv 2, iv 0, .unset, .unset, .unset]) rfl k) ?_
      refine Go.pull (V := s₁.setTop (mkF m 21 #[iv pw, iv pf, iv 2, iv 0, .unset, .unset, .unset] [(.int 2)])) (fun t k => XS.iloadN X0.here hx rfl (hb hby at_20) rfl  k) ?_
      refine Go.pull (V := s₁.setTop (mkF m 47 #[iv pw, iv pf, iv 2, iv 0, .unset, .unset, .unset] [])) (fun t k => XS.ifYes X0.here hx rfl (pc0 := 21) (pc' := 47) rfl (hb hby at_21) rfl (XT.i0_ne_t (by decide)) (by decide) (by decide) k) ?_
      refine Go.pull (V := s₁.setTop (mkF m 48 #[iv pw, iv pf, iv 2, iv 0, .unset, .unset, .unset] [(.int 2)])) (fun t k => XS.iloadN X0.here hx rfl (hb hby at_47) rfl  k) ?_
      refine Go.pull (V := s₁.setTop (mkF m 49 #[iv pw, iv pf, iv 2, iv 0, .unset, .unset, .unset] [(.int 1), (.int 2)])) (fun t k => XS.iconst X0.here hx rfl (hb hby at_48) k) ?_
      refine Go.pull (V := s₁.setTop (mkF m 75 #[iv pw, iv pf, iv 2, iv 0, .unset, .unset, .unset] [])) (fun t k => XS.icmpYes X0.here hx rfl (pc0 := 49) (pc' := 75) rfl (hb hby at_49) rfl (XT.ii_ne_t (by decide)) (by decide) (by decide) k) ?_
      refine Go.pull (V := s₁.setTop (mkF m 76 #[iv pw, iv pf, iv 2, iv 0, .unset, .unset, .unset] [(.int 2)])) (fun t k => XS.iloadN X0.here hx rfl (hb hby at_75) rfl  k) ?_
      refine Go.pull (V := s₁.setTop (mkF m 77 #[iv pw, iv pf, iv 2, iv 0, .unset, .unset, .unset] [(.int 2), (.int 2)])) (fun t k => XS.iconst X0.here hx rfl (hb hby at_76) k) ?_
      refine Go.pull (V := s₁.setTop (mkF m 80 #[iv pw, iv pf, iv 2, iv 0, .unset, .unset, .unset] [])) (fun t k => XS.icmpNo X0.here hx rfl (hb hby at_77) rfl (XT.ii_ne_f (by decide)) k) ?_
      obtain ⟨T13, X13, e13, st13⟩ := getS2 X0 hx hZ hown (host := "") (Or.inl (hw _ (List.mem_of_getElem? (i := 12) rfl))) Via.refl e0 S_r_ColumnType_MEDIUMINT (g := (mkF m 80 #[iv pw, iv pf, iv 2, iv 0, .unset, .unset, .unset] [])) rfl (hb hby at_80)
      refine Go.pull (V := T13.setTop (mkF m 83 #[iv pw, iv pf, iv 2, iv 0, .unset, .unset, .unset] [(.ref r_ColumnType_MEDIUMINT)])) st13 ?_
      refine Go.pull (V := T13.setTop (mkF m 85 #[iv pw, iv pf, iv 2, iv 0, rv r_ColumnType_MEDIUMINT, .unset, .unset] [])) (fun t k => XS.astore X13.here hx rfl (hb hby at_83) rfl rfl (l' := #[iv pw, iv pf, iv 2, iv 0, rv r_ColumnType_MEDIUMINT, .unset, .unset]) rfl k) ?_
      refine Go.pull (V := T13.setTop (mkF m 86 #[iv pw, iv pf, iv 2, iv 0, rv r_ColumnType_MEDIUMINT, .unset, .unset] [(.int 0)])) (fun t k => XS.iloadN X13.here hx rfl (hb hby at_85) rfl  k) ?_
      refine Go.pull (V := T13.setTop (mkF m 95 #[iv pw, iv pf, iv 2, iv 0, rv r_ColumnType_MEDIUMINT, .unset, .unset] [])) (fun t k => XS.ifYes X13.here hx rfl (pc0 := 86) (pc' := 95) rfl (hb hby at_86) rfl (XT.i0_eq_t (by decide)) (by decide) (by decide) k) ?_
      refine Go.pull (V := T13.setTop (mkF m 98 #[iv pw, iv pf, iv 2, iv 0, rv r_ColumnType_MEDIUMINT, .unset, .unset] [(.long 8388607)])) (fun t k => X13.ldc2Long hx hown (mvT hZ (hw _ (List.mem_of_getElem? (i := 15) rfl))) (g := (mkF m 95 #[iv pw, iv pf, iv 2, iv 0, rv r_ColumnType_MEDIUMINT, .unset, .unset] [])) rfl (hb hby at_95) _ k) ?_
      refine Go.pull (V := T13.setTop (mkF m 100 #[iv pw, iv pf, iv 2, iv 0, rv r_ColumnType_MEDIUMINT, .val (.long 8388607), .second] [])) (fun t k => XS.lstore X13.here hx rfl (hb hby at_98) rfl (l' := #[iv pw, iv pf, iv 2, iv 0, rv r_ColumnType_MEDIUMINT, .val (.long 8388607), .second]) rfl k) ?_
      refine Go.pull (V := T13.setTop (mkF m 169 #[iv pw, iv pf, iv 2, iv 0, rv r_ColumnType_MEDIUMINT, .val (.long 8388607), .second] [])) (fun t k => XS.goto X13.here hx rfl (pc0 := 100) (pc' := 169) rfl (hb hby at_100) (by decide) (by decide) k) ?_
      refine Go.pull (V := T13.setTop (mkF m 171 #[iv pw, iv pf, iv 2, iv 0, rv r_ColumnType_MEDIUMINT, .val (.long 8388607), .second] [(.ref r_ColumnType_MEDIUMINT)])) (fun t k => XS.aload X13.here hx rfl (hb hby at_169) rfl rfl k) ?_
      refine Go.pull (V := T13.setTop (mkF m 172 #[iv pw, iv pf, iv 2, iv 0, rv r_ColumnType_MEDIUMINT, .val (.long 8388607), .second] [(.int 0), (.ref r_ColumnType_MEDIUMINT)])) (fun t k => XS.iloadN X13.here hx rfl (hb hby at_171) rfl  k) ?_
      obtain ⟨cq14, kq14, q14a, q14b, q14c⟩ := isOf hZ e13 E_r_ColumnType_MEDIUMINT
      obtain ⟨_, _, ⟨T14, L14, k14, n14⟩, -, X14, ⟨Lc14, hQ14, l14, y14, z14⟩, st14⟩ := X13.virtualBack hx (y := (⟨"com/example/latch/latch/engine/ColumnType", "maxValue", "(Z)J"⟩ : MethodName)) (z := (⟨"com/example/latch/latch/engine/ColumnType", "maxValue", "(Z)J"⟩ : MethodName)) hown (mvT hZ (hw _ (List.mem_of_getElem? (i := 5) rfl))) (mvT hZ (hw _ (List.mem_of_getElem? (i := 6) rfl))) (notFace_of_selects (args := #[]) (mvT hZ (hw _ (List.mem_of_getElem? (i := 8) rfl)))) (mvT hZ (hw _ (List.mem_of_getElem? (i := 8) rfl))) (mvT hZ (hw _ (List.mem_of_getElem? (i := 7) rfl))) (by decide) (backOf (W := 0) (rmA l Z a0 hw [] r_ColumnType_MEDIUMINT (0 : Int32) (24 : Int32) h0 n0 F_r_ColumnType_MEDIUMINT_m_bits) hZ (hw _ (List.mem_of_getElem? (i := 9) rfl)) (hw _ (List.mem_of_getElem? (i := 2) rfl)) (by decide) (by decide)) q14a q14c (g := (mkF m 172 #[iv pw, iv pf, iv 2, iv 0, rv r_ColumnType_MEDIUMINT, .val (.long 8388607), .second] [(.int 0), (.ref r_ColumnType_MEDIUMINT)])) rfl (by rw [hml]; rfl) (Steps.refl _) (argsL := [(.int 0)]) (rest := []) (lenOf pd_0 rfl) rfl (by show 2 * 0 + _ ≤ _; exact Nat.le_of_eq rfl) (hb hby at_172) (fun _ _ => ⟨rfl, e13, (by decide : 0 + 0 ≤ _), (by decide : 0 + 0 ≤ _)⟩)
      dsimp only [Pt.U, Pt.locs, Pt.cells, Pt.slots] at X14 l14 y14 z14 st14 hQ14
      subst l14 y14 z14
      obtain ⟨hv14, N14q, e14⟩ := hQ14
      rw [(show (own_max (0 : Int32) (24 : Int32)) = (8388607 : Int64) from by decide)] at hv14; subst hv14
      have N14 := Fr.app N0 N14q
      refine Go.pull (V := T14.setTop (mkF m 175 #[iv pw, iv pf, iv 2, iv 0, rv r_ColumnType_MEDIUMINT, .val (.long 8388607), .second] [(.long 8388607)])) (fun _ k => st14.trans k) ?_
      refine Go.pull (V := T14.setTop (mkF m 177 #[iv pw, iv pf, iv 2, iv 0, rv r_ColumnType_MEDIUMINT, .val (.long 8388607), .second] [(.long 8388607), (.long 8388607)])) (fun t k => XS.lload X14.here hx rfl (hb hby at_175) rfl  k) ?_
      refine Go.pull (V := T14.setTop (mkF m 178 #[iv pw, iv pf, iv 2, iv 0, rv r_ColumnType_MEDIUMINT, .val (.long 8388607), .second] [(.int (XT.cmpL (8388607 : Int64) (8388607 : Int64)))])) (fun t k => XT.lcmp X14.here hx rfl (hb hby at_177) rfl k) ?_
      refine Go.pull (V := T14.setTop (mkF m 181 #[iv pw, iv pf, iv 2, iv 0, rv r_ColumnType_MEDIUMINT, .val (.long 8388607), .second] [])) (fun t k => XS.ifNo X14.here hx rfl (hb hby at_178) rfl (XT.ll_ne_f (by decide)) k) ?_
      refine Go.pull (V := T14.setTop (mkF m 182 #[iv pw, iv pf, iv 2, iv 0, rv r_ColumnType_MEDIUMINT, .val (.long 8388607), .second] [(.int 1)])) (fun t k => XS.iconst X14.here hx rfl (hb hby at_181) k) ?_
      refine Go.pull (V := T14.setTop (mkF m 186 #[iv pw, iv pf, iv 2, iv 0, rv r_ColumnType_MEDIUMINT, .val (.long 8388607), .second] [(.int 1)])) (fun t k => XS.goto X14.here hx rfl (pc0 := 182) (pc' := 186) rfl (hb hby at_182) (by decide) (by decide) k) ?_
      exact Go.retN X14 hx Bd.notSynchronized (t := .boolean) Bd.returns (by simp) (hb hby at_186) ⟨rfl, N14⟩ (by decide) (by decide)
    · skip
      refine Go.pull (V := s₁.setTop (mkF m 14 #[iv pw, iv pf, iv 2, .unset, .unset, .unset, .unset] [])) (fun t k => XS.ifNo X0.here hx rfl (hb hby at_11) rfl (XT.i0_eq_f hc11_12) k) ?_
      refine Go.pull (V := s₁.setTop (mkF m 15 #[iv pw, iv pf, iv 2, .unset, .unset, .unset, .unset] [(.int 1)])) (fun t k => XS.iconst X0.here hx rfl (hb hby at_14) k) ?_
      refine Go.pull (V := s₁.setTop (mkF m 19 #[iv pw, iv pf, iv 2, .unset, .unset, .unset, .unset] [(.int 1)])) (fun t k => XS.goto X0.here hx rfl (pc0 := 15) (pc' := 19) rfl (hb hby at_15) (by decide) (by decide) k) ?_
      refine Go.pull (V := s₁.setTop (mkF m 20 #[iv pw, iv pf, iv 2, iv 1, .unset, .unset, .unset] [])) (fun t k => XS.istoreN X0.here hx rfl (hb hby at_19) rfl (l' := #[iv pw, iv pf, iv 2, iv 1, .unset, .unset, .unset]) rfl k) ?_
      refine Go.pull (V := s₁.setTop (mkF m 21 #[iv pw, iv pf, iv 2, iv 1, .unset, .unset, .unset] [(.int 2)])) (fun t k => XS.iloadN X0.here hx rfl (hb hby at_20) rfl  k) ?_
      refine Go.pull (V := s₁.setTop (mkF m 47 #[iv pw, iv pf, iv 2, iv 1, .unset, .unset, .unset] [])) (fun t k => XS.ifYes X0.here hx rfl (pc0 := 21) (pc' := 47) rfl (hb hby at_21) rfl (XT.i0_ne_t (by decide)) (by decide) (by decide) k) ?_
      refine Go.pull (V := s₁.setTop (mkF m 48 #[iv pw, iv pf, iv 2, iv 1, .unset, .unset, .unset] [(.int 2)])) (fun t k => XS.iloadN X0.here hx rfl (hb hby at_47) rfl  k) ?_
      refine Go.pull (V := s₁.setTop (mkF m 49 #[iv pw, iv pf, iv 2, iv 1, .unset, .unset, .unset] [(.int 1), (.int 2)])) (fun t k => XS.iconst X0.here hx rfl (hb hby at_48) k) ?_
      refine Go.pull (V := s₁.setTop (mkF m 75 #[iv pw, iv pf, iv 2, iv 1, .unset, .unset, .unset] [])) (fun t k => XS.icmpYes X0.here hx rfl (pc0 := 49) (pc' := 75) rfl (hb hby at_49) rfl (XT.ii_ne_t (by decide)) (by decide) (by decide) k) ?_
      refine Go.pull (V := s₁.setTop (mkF m 76 #[iv pw, iv pf, iv 2, iv 1, .unset, .unset, .unset] [(.int 2)])) (fun t k => XS.iloadN X0.here hx rfl (hb hby at_75) rfl  k) ?_
      refine Go.pull (V := s₁.setTop (mkF m 77 #[iv pw, iv pf, iv 2, iv 1, .unset, .unset, .unset] [(.int 2), (.int 2)])) (fun t k => XS.iconst X0.here hx rfl (hb hby at_76) k) ?_
      refine Go.pull (V := s₁.setTop (mkF m 80 #[iv pw, iv pf, iv 2, iv 1, .unset, .unset, .unset] [])) (fun t k => XS.icmpNo X0.here hx rfl (hb hby at_77) rfl (XT.ii_ne_f (by decide)) k) ?_
      obtain ⟨T15, X15, e15, st15⟩ := getS2 X0 hx hZ hown (host := "") (Or.inl (hw _ (List.mem_of_getElem? (i := 12) rfl))) Via.refl e0 S_r_ColumnType_MEDIUMINT (g := (mkF m 80 #[iv pw, iv pf, iv 2, iv 1, .unset, .unset, .unset] [])) rfl (hb hby at_80)
      refine Go.pull (V := T15.setTop (mkF m 83 #[iv pw, iv pf, iv 2, iv 1, .unset, .unset, .unset] [(.ref r_ColumnType_MEDIUMINT)])) st15 ?_
      refine Go.pull (V := T15.setTop (mkF m 85 #[iv pw, iv pf, iv 2, iv 1, rv r_ColumnType_MEDIUMINT, .unset, .unset] [])) (fun t k => XS.astore X15.here hx rfl (hb hby at_83) rfl rfl (l' := #[iv pw, iv pf, iv 2, iv 1, rv r_ColumnType_MEDIUMINT, .unset, .unset]) rfl k) ?_
      refine Go.pull (V := T15.setTop (mkF m 86 #[iv pw, iv pf, iv 2, iv 1, rv r_ColumnType_MEDIUMINT, .unset, .unset] [(.int 1)])) (fun t k => XS.iloadN X15.here hx rfl (hb hby at_85) rfl  k) ?_
      refine Go.pull (V := T15.setTop (mkF m 89 #[iv pw, iv pf, iv 2, iv 1, rv r_ColumnType_MEDIUMINT, .unset, .unset] [])) (fun t k => XS.ifNo X15.here hx rfl (hb hby at_86) rfl (XT.i0_eq_f (by decide)) k) ?_
      refine Go.pull (V := T15.setTop (mkF m 92 #[iv pw, iv pf, iv 2, iv 1, rv r_ColumnType_MEDIUMINT, .unset, .unset] [(.long 16777215)])) (fun t k => X15.ldc2Long hx hown (mvT hZ (hw _ (List.mem_of_getElem? (i := 14) rfl))) (g := (mkF m 89 #[iv pw, iv pf, iv 2, iv 1, rv r_ColumnType_MEDIUMINT, .unset, .unset] [])) rfl (hb hby at_89) _ k) ?_
      refine Go.pull (V := T15.setTop (mkF m 98 #[iv pw, iv pf, iv 2, iv 1, rv r_ColumnType_MEDIUMINT, .unset, .unset] [(.long 16777215)])) (fun t k => XS.goto X15.here hx rfl (pc0 := 92) (pc' := 98) rfl (hb hby at_92) (by decide) (by decide) k) ?_
      refine Go.pull (V := T15.setTop (mkF m 100 #[iv pw, iv pf, iv 2, iv 1, rv r_ColumnType_MEDIUMINT, .val (.long 16777215), .second] [])) (fun t k => XS.lstore X15.here hx rfl (hb hby at_98) rfl (l' := #[iv pw, iv pf, iv 2, iv 1, rv r_ColumnType_MEDIUMINT, .val (.long 16777215), .second]) rfl k) ?_
      refine Go.pull (V := T15.setTop (mkF m 169 #[iv pw, iv pf, iv 2, iv 1, rv r_ColumnType_MEDIUMINT, .val (.long 16777215), .second] [])) (fun t k => XS.goto X15.here hx rfl (pc0 := 100) (pc' := 169) rfl (hb hby at_100) (by decide) (by decide) k) ?_
      refine Go.pull (V := T15.setTop (mkF m 171 #[iv pw, iv pf, iv 2, iv 1, rv r_ColumnType_MEDIUMINT, .val (.long 16777215), .second] [(.ref r_ColumnType_MEDIUMINT)])) (fun t k => XS.aload X15.here hx rfl (hb hby at_169) rfl rfl k) ?_
      refine Go.pull (V := T15.setTop (mkF m 172 #[iv pw, iv pf, iv 2, iv 1, rv r_ColumnType_MEDIUMINT, .val (.long 16777215), .second] [(.int 1), (.ref r_ColumnType_MEDIUMINT)])) (fun t k => XS.iloadN X15.here hx rfl (hb hby at_171) rfl  k) ?_
      obtain ⟨cq16, kq16, q16a, q16b, q16c⟩ := isOf hZ e15 E_r_ColumnType_MEDIUMINT
      obtain ⟨_, _, ⟨T16, L16, k16, n16⟩, -, X16, ⟨Lc16, hQ16, l16, y16, z16⟩, st16⟩ := X15.virtualBack hx (y := (⟨"com/example/latch/latch/engine/ColumnType", "maxValue", "(Z)J"⟩ : MethodName)) (z := (⟨"com/example/latch/latch/engine/ColumnType", "maxValue", "(Z)J"⟩ : MethodName)) hown (mvT hZ (hw _ (List.mem_of_getElem? (i := 5) rfl))) (mvT hZ (hw _ (List.mem_of_getElem? (i := 6) rfl))) (notFace_of_selects (args := #[]) (mvT hZ (hw _ (List.mem_of_getElem? (i := 8) rfl)))) (mvT hZ (hw _ (List.mem_of_getElem? (i := 8) rfl))) (mvT hZ (hw _ (List.mem_of_getElem? (i := 7) rfl))) (by decide) (backOf (W := 0) (rmA l Z a0 hw [] r_ColumnType_MEDIUMINT (1 : Int32) (24 : Int32) h0 n0 F_r_ColumnType_MEDIUMINT_m_bits) hZ (hw _ (List.mem_of_getElem? (i := 9) rfl)) (hw _ (List.mem_of_getElem? (i := 2) rfl)) (by decide) (by decide)) q16a q16c (g := (mkF m 172 #[iv pw, iv pf, iv 2, iv 1, rv r_ColumnType_MEDIUMINT, .val (.long 16777215), .second] [(.int 1), (.ref r_ColumnType_MEDIUMINT)])) rfl (by rw [hml]; rfl) (Steps.refl _) (argsL := [(.int 1)]) (rest := []) (lenOf pd_0 rfl) rfl (by show 2 * 0 + _ ≤ _; exact Nat.le_of_eq rfl) (hb hby at_172) (fun _ _ => ⟨rfl, e15, (by decide : 0 + 0 ≤ _), (by decide : 0 + 0 ≤ _)⟩)
      dsimp only [Pt.U, Pt.locs, Pt.cells, Pt.slots] at X16 l16 y16 z16 st16 hQ16
      subst l16 y16 z16
      obtain ⟨hv16, N16q, e16⟩ := hQ16
      rw [(show (own_max (1 : Int32) (24 : Int32)) = (16777215 : Int64) from by decide)] at hv16; subst hv16
      have N16 := Fr.app N0 N16q
      refine Go.pull (V := T16.setTop (mkF m 175 #[iv pw, iv pf, iv 2, iv 1, rv r_ColumnType_MEDIUMINT, .val (.long 16777215), .second] [(.long 16777215)])) (fun _ k => st16.trans k) ?_
      refine Go.pull (V := T16.setTop (mkF m 177 #[iv pw, iv pf, iv 2, iv 1, rv r_ColumnType_MEDIUMINT, .val (.long 16777215), .second] [(.long 16777215), (.long 16777215)])) (fun t k => XS.lload X16.here hx rfl (hb hby at_175) rfl  k) ?_
      refine Go.pull (V := T16.setTop (mkF m 178 #[iv pw, iv pf, iv 2, iv 1, rv r_ColumnType_MEDIUMINT, .val (.long 16777215), .second] [(.int (XT.cmpL (16777215 : Int64) (16777215 : Int64)))])) (fun t k => XT.lcmp X16.here hx rfl (hb hby at_177) rfl k) ?_
      refine Go.pull (V := T16.setTop (mkF m 181 #[iv pw, iv pf, iv 2, iv 1, rv r_ColumnType_MEDIUMINT, .val (.long 16777215), .second] [])) (fun t k => XS.ifNo X16.here hx rfl (hb hby at_178) rfl (XT.ll_ne_f (by decide)) k) ?_
      refine Go.pull (V := T16.setTop (mkF m 182 #[iv pw, iv pf, iv 2, iv 1, rv r_ColumnType_MEDIUMINT, .val (.long 16777215), .second] [(.int 1)])) (fun t k => XS.iconst X16.here hx rfl (hb hby at_181) k) ?_
      refine Go.pull (V := T16.setTop (mkF m 186 #[iv pw, iv pf, iv 2, iv 1, rv r_ColumnType_MEDIUMINT, .val (.long 16777215), .second] [(.int 1)])) (fun t k => XS.goto X16.here hx rfl (pc0 := 182) (pc' := 186) rfl (hb hby at_182) (by decide) (by decide) k) ?_
      exact Go.retN X16 hx Bd.notSynchronized (t := .boolean) Bd.returns (by simp) (hb hby at_186) ⟨rfl, N16⟩ (by decide) (by decide)
  · subst hv1
    refine Go.pull (V := s₁.setTop (mkF m 9 #[iv pw, iv pf, iv 3, .unset, .unset, .unset, .unset] [(.int pf)])) (fun t k => XS.iloadN X0.here hx rfl (hb hby at_8) rfl  k) ?_
    refine Go.pull (V := s₁.setTop (mkF m 10 #[iv pw, iv pf, iv 3, .unset, .unset, .unset, .unset] [(.int 1), (.int pf)])) (fun t k => XS.iconst X0.here hx rfl (hb hby at_9) k) ?_
    refine Go.pull (V := s₁.setTop (mkF m 11 #[iv pw, iv pf, iv 3, .unset, .unset, .unset, .unset] [(.int (pf &&& (1 : Int32)))])) (fun t k => XS.iand X0.here hx rfl (hb hby at_10) rfl k) ?_
    by_cases hc11_17 : (pf &&& (1 : Int32)) = 0
    · skip
      refine Go.pull (V := s₁.setTop (mkF m 18 #[iv pw, iv pf, iv 3, .unset, .unset, .unset, .unset] [])) (fun t k => XS.ifYes X0.here hx rfl (pc0 := 11) (pc' := 18) rfl (hb hby at_11) rfl (XT.i0_eq_t hc11_17) (by decide) (by decide) k) ?_
      refine Go.pull (V := s₁.setTop (mkF m 19 #[iv pw, iv pf, iv 3, .unset, .unset, .unset, .unset] [(.int 0)])) (fun t k => XS.iconst X0.here hx rfl (hb hby at_18) k) ?_
      refine Go.pull (V := s₁.setTop (mkF m 20 #[iv pw, iv pf, iv 3, iv 0, .unset, .unset, .unset] [])) (fun t k => XS.istoreN X0.here hx rfl (hb hby at_19) rfl (l' := #[iv pw, iv pf, iv 3, iv 0, .unset, .unset, .unset]) rfl k) ?_
      refine Go.pull (V := s₁.setTop (mkF m 21 #[iv pw, iv pf, iv 3, iv 0, .unset, .unset, .unset] [(.int 3)])) (fun t k => XS.iloadN X0.here hx rfl (hb hby at_20) rfl  k) ?_
      refine Go.pull (V := s₁.setTop (mkF m 47 #[iv pw, iv pf, iv 3, iv 0, .unset, .unset, .unset] [])) (fun t k => XS.ifYes X0.here hx rfl (pc0 := 21) (pc' := 47) rfl (hb hby at_21) rfl (XT.i0_ne_t (by decide)) (by decide) (by decide) k) ?_
      refine Go.pull (V := s₁.setTop (mkF m 48 #[iv pw, iv pf, iv 3, iv 0, .unset, .unset, .unset] [(.int 3)])) (fun t k => XS.iloadN X0.here hx rfl (hb hby at_47) rfl  k) ?_
      refine Go.pull (V := s₁.setTop (mkF m 49 #[iv pw, iv pf, iv 3, iv 0, .unset, .unset, .unset] [(.int 1), (.int 3)])) (fun t k => XS.iconst X0.here hx rfl (hb hby at_48) k) ?_
      refine Go.pull (V := s₁.setTop (mkF m 75 #[iv pw, iv pf, iv 3, iv 0, .unset, .unset, .unset] [])) (fun t k => XS.icmpYes X0.here hx rfl (pc0 := 49) (pc' := 75) rfl (hb hby at_49) rfl (XT.ii_ne_t (by decide)) (by decide) (by decide) k) ?_
      refine Go.pull (V := s₁.setTop (mkF m 76 #[iv pw, iv pf, iv 3, iv 0, .unset, .unset, .unset] [(.int 3)])) (fun t k => XS.iloadN X0.here hx rfl (hb hby at_75) rfl  k) ?_
      refine Go.pull (V := s₁.setTop (mkF m 77 #[iv pw, iv pf, iv 3, iv 0, .unset, .unset, .unset] [(.int 2), (.int 3)])) (fun t k => XS.iconst X0.here hx rfl (hb hby at_76) k) ?_
      refine Go.pull (V := s₁.setTop (mkF m 103 #[iv pw, iv pf, iv 3, iv 0, .unset, .unset, .unset] [])) (fun t k => XS.icmpYes X0.here hx rfl (pc0 := 77) (pc' := 103) rfl (hb hby at_77) rfl (XT.ii_ne_t (by decide)) (by decide) (by decide) k) ?_
      refine Go.pull (V := s₁.setTop (mkF m 104 #[iv pw, iv pf, iv 3, iv 0, .unset, .unset, .unset] [(.int 3)])) (fun t k => XS.iloadN X0.here hx rfl (hb hby at_103) rfl  k) ?_
      refine Go.pull (V := s₁.setTop (mkF m 105 #[iv pw, iv pf, iv 3, iv 0, .unset, .unset, .unset] [(.int 3), (.int 3)])) (fun t k => XS.iconst X0.here hx rfl (hb hby at_104) k) ?_
      refine Go.pull (V := s₁.setTop (mkF m 108 #[iv pw, iv pf, iv 3, iv 0, .unset, .unset, .unset] [])) (fun t k => XS.icmpNo X0.here hx rfl (hb hby at_105) rfl (XT.ii_ne_f (by decide)) k) ?_
      obtain ⟨T18, X18, e18, st18⟩ := getS2 X0 hx hZ hown (host := "") (Or.inl (hw _ (List.mem_of_getElem? (i := 27) rfl))) Via.refl e0 S_r_ColumnType_INT (g := (mkF m 108 #[iv pw, iv pf, iv 3, iv 0, .unset, .unset, .unset] [])) rfl (hb hby at_108)
      refine Go.pull (V := T18.setTop (mkF m 111 #[iv pw, iv pf, iv 3, iv 0, .unset, .unset, .unset] [(.ref r_ColumnType_INT)])) st18 ?_
      refine Go.pull (V := T18.setTop (mkF m 113 #[iv pw, iv pf, iv 3, iv 0, rv r_ColumnType_INT, .unset, .unset] [])) (fun t k => XS.astore X18.here hx rfl (hb hby at_111) rfl rfl (l' := #[iv pw, iv pf, iv 3, iv 0, rv r_ColumnType_INT, .unset, .unset]) rfl k) ?_
      refine Go.pull (V := T18.setTop (mkF m 114 #[iv pw, iv pf, iv 3, iv 0, rv r_ColumnType_INT, .unset, .unset] [(.int 0)])) (fun t k => XS.iloadN X18.here hx rfl (hb hby at_113) rfl  k) ?_
      refine Go.pull (V := T18.setTop (mkF m 123 #[iv pw, iv pf, iv 3, iv 0, rv r_ColumnType_INT, .unset, .unset] [])) (fun t k => XS.ifYes X18.here hx rfl (pc0 := 114) (pc' := 123) rfl (hb hby at_114) rfl (XT.i0_eq_t (by decide)) (by decide) (by decide) k) ?_
      refine Go.pull (V := T18.setTop (mkF m 126 #[iv pw, iv pf, iv 3, iv 0, rv r_ColumnType_INT, .unset, .unset] [(.long 2147483647)])) (fun t k => X18.ldc2Long hx hown (mvT hZ (hw _ (List.mem_of_getElem? (i := 18) rfl))) (g := (mkF m 123 #[iv pw, iv pf, iv 3, iv 0, rv r_ColumnType_INT, .unset, .unset] [])) rfl (hb hby at_123) _ k) ?_
      refine Go.pull (V := T18.setTop (mkF m 128 #[iv pw, iv pf, iv 3, iv 0, rv r_ColumnType_INT, .val (.long 2147483647), .second] [])) (fun t k => XS.lstore X18.here hx rfl (hb hby at_126) rfl (l' := #[iv pw, iv pf, iv 3, iv 0, rv r_ColumnType_INT, .val (.long 2147483647), .second]) rfl k) ?_
      refine Go.pull (V := T18.setTop (mkF m 169 #[iv pw, iv pf, iv 3, iv 0, rv r_ColumnType_INT, .val (.long 2147483647), .second] [])) (fun t k => XS.goto X18.here hx rfl (pc0 := 128) (pc' := 169) rfl (hb hby at_128) (by decide) (by decide) k) ?_
      refine Go.pull (V := T18.setTop (mkF m 171 #[iv pw, iv pf, iv 3, iv 0, rv r_ColumnType_INT, .val (.long 2147483647), .second] [(.ref r_ColumnType_INT)])) (fun t k => XS.aload X18.here hx rfl (hb hby at_169) rfl rfl k) ?_
      refine Go.pull (V := T18.setTop (mkF m 172 #[iv pw, iv pf, iv 3, iv 0, rv r_ColumnType_INT, .val (.long 2147483647), .second] [(.int 0), (.ref r_ColumnType_INT)])) (fun t k => XS.iloadN X18.here hx rfl (hb hby at_171) rfl  k) ?_
      obtain ⟨cq19, kq19, q19a, q19b, q19c⟩ := isOf hZ e18 E_r_ColumnType_INT
      obtain ⟨_, _, ⟨T19, L19, k19, n19⟩, -, X19, ⟨Lc19, hQ19, l19, y19, z19⟩, st19⟩ := X18.virtualBack hx (y := (⟨"com/example/latch/latch/engine/ColumnType", "maxValue", "(Z)J"⟩ : MethodName)) (z := (⟨"com/example/latch/latch/engine/ColumnType", "maxValue", "(Z)J"⟩ : MethodName)) hown (mvT hZ (hw _ (List.mem_of_getElem? (i := 5) rfl))) (mvT hZ (hw _ (List.mem_of_getElem? (i := 6) rfl))) (notFace_of_selects (args := #[]) (mvT hZ (hw _ (List.mem_of_getElem? (i := 8) rfl)))) (mvT hZ (hw _ (List.mem_of_getElem? (i := 8) rfl))) (mvT hZ (hw _ (List.mem_of_getElem? (i := 7) rfl))) (by decide) (backOf (W := 0) (rmA l Z a0 hw [] r_ColumnType_INT (0 : Int32) (32 : Int32) h0 n0 F_r_ColumnType_INT_m_bits) hZ (hw _ (List.mem_of_getElem? (i := 9) rfl)) (hw _ (List.mem_of_getElem? (i := 2) rfl)) (by decide) (by decide)) q19a q19c (g := (mkF m 172 #[iv pw, iv pf, iv 3, iv 0, rv r_ColumnType_INT, .val (.long 2147483647), .second] [(.int 0), (.ref r_ColumnType_INT)])) rfl (by rw [hml]; rfl) (Steps.refl _) (argsL := [(.int 0)]) (rest := []) (lenOf pd_0 rfl) rfl (by show 2 * 0 + _ ≤ _; exact Nat.le_of_eq rfl) (hb hby at_172) (fun _ _ => ⟨rfl, e18, (by decide : 0 + 0 ≤ _), (by decide : 0 + 0 ≤ _)⟩)
      dsimp only [Pt.U, Pt.locs, Pt.cells, Pt.slots] at X19 l19 y19 z19 st19 hQ19
      subst l19 y19 z19
      obtain ⟨hv19, N19q, e19⟩ := hQ19
      rw [(show (own_max (0 : Int32) (32 : Int32)) = (2147483647 : Int64) from by decide)] at hv19; subst hv19
      have N19 := Fr.app N0 N19q
      refine Go.pull (V := T19.setTop (mkF m 175 #[iv pw, iv pf, iv 3, iv 0, rv r_ColumnType_INT, .val (.long 2147483647), .second] [(.long 2147483647)])) (fun _ k => st19.trans k) ?_
      refine Go.pull (V := T19.setTop (mkF m 177 #[iv pw, iv pf, iv 3, iv 0, rv r_ColumnType_INT, .val (.long 2147483647), .second] [(.long 2147483647), (.long 2147483647)])) (fun t k => XS.lload X19.here hx rfl (hb hby at_175) rfl  k) ?_
      refine Go.pull (V := T19.setTop (mkF m 178 #[iv pw, iv pf, iv 3, iv 0, rv r_ColumnType_INT, .val (.long 2147483647), .second] [(.int (XT.cmpL (2147483647 : Int64) (2147483647 : Int64)))])) (fun t k => XT.lcmp X19.here hx rfl (hb hby at_177) rfl k) ?_
      refine Go.pull (V := T19.setTop (mkF m 181 #[iv pw, iv pf, iv 3, iv 0, rv r_ColumnType_INT, .val (.long 2147483647), .second] [])) (fun t k => XS.ifNo X19.here hx rfl (hb hby at_178) rfl (XT.ll_ne_f (by decide)) k) ?_
      refine Go.pull (V := T19.setTop (mkF m 182 #[iv pw, iv pf, iv 3, iv 0, rv r_ColumnType_INT, .val (.long 2147483647), .second] [(.int 1)])) (fun t k => XS.iconst X19.here hx rfl (hb hby at_181) k) ?_
      refine Go.pull (V := T19.setTop (mkF m 186 #[iv pw, iv pf, iv 3, iv 0, rv r_ColumnType_INT, .val (.long 2147483647), .second] [(.int 1)])) (fun t k => XS.goto X19.here hx rfl (pc0 := 182) (pc' := 186) rfl (hb hby at_182) (by decide) (by decide) k) ?_
      exact Go.retN X19 hx Bd.notSynchronized (t := .boolean) Bd.returns (by simp) (hb hby at_186) ⟨rfl, N19⟩ (by decide) (by decide)
    · skip
      refine Go.pull (V := s₁.setTop (mkF m 14 #[iv pw, iv pf, iv 3, .unset, .unset, .unset, .unset] [])) (fun t k => XS.ifNo X0.here hx rfl (hb hby at_11) rfl (XT.i0_eq_f hc11_17) k) ?_
      refine Go.pull (V := s₁.setTop (mkF m 15 #[iv pw, iv pf, iv 3, .unset, .unset, .unset, .unset] [(.int 1)])) (fun t k => XS.iconst X0.here hx rfl (hb hby at_14) k) ?_
      refine Go.pull (V := s₁.setTop (mkF m 19 #[iv pw, iv pf, iv 3, .unset, .unset, .unset, .unset] [(.int 1)])) (fun t k => XS.goto X0.here hx rfl (pc0 := 15) (pc' := 19) rfl (hb hby at_15) (by decide) (by decide) k) ?_
      refine Go.pull (V := s₁.setTop (mkF m 20 #[iv pw, iv pf, iv 3, iv 1, .unset, .unset, .unset] [])) (fun t k => XS.istoreN X0.here hx rfl (hb hby at_19) rfl (l' := #[iv pw, iv pf, iv 3, iv 1, .unset, .unset, .unset]) rfl k) ?_
      refine Go.pull (V := s₁.setTop (mkF m 21 #[iv pw, iv pf, iv 3, iv 1, .unset, .unset, .unset] [(.int 3)])) (fun t k => XS.iloadN X0.here hx rfl (hb hby at_20) rfl  k) ?_
      refine Go.pull (V := s₁.setTop (mkF m 47 #[iv pw, iv pf, iv 3, iv 1, .unset, .unset, .unset] [])) (fun t k => XS.ifYes X0.here hx rfl (pc0 := 21) (pc' := 47) rfl (hb hby at_21) rfl (XT.i0_ne_t (by decide)) (by decide) (by decide) k) ?_
      refine Go.pull (V := s₁.setTop (mkF m 48 #[iv pw, iv pf, iv 3, iv 1, .unset, .unset, .unset] [(.int 3)])) (fun t k => XS.iloadN X0.here hx rfl (hb hby at_47) rfl  k) ?_
      refine Go.pull (V := s₁.setTop (mkF m 49 #[iv pw, iv pf, iv 3, iv 1, .unset, .unset, .unset] [(.int 1), (.int 3)])) (fun t k => XS.iconst X0.here hx rfl (hb hby at_48) k) ?_
      refine Go.pull (V := s₁.setTop (mkF m 75 #[iv pw, iv pf, iv 3, iv 1, .unset, .unset, .unset] [])) (fun t k => XS.icmpYes X0.here hx rfl (pc0 := 49) (pc' := 75) rfl (hb hby at_49) rfl (XT.ii_ne_t (by decide)) (by decide) (by decide) k) ?_
      refine Go.pull (V := s₁.setTop (mkF m 76 #[iv pw, iv pf, iv 3, iv 1, .unset, .unset, .unset] [(.int 3)])) (fun t k => XS.iloadN X0.here hx rfl (hb hby at_75) rfl  k) ?_
      refine Go.pull (V := s₁.setTop (mkF m 77 #[iv pw, iv pf, iv 3, iv 1, .unset, .unset, .unset] [(.int 2), (.int 3)])) (fun t k => XS.iconst X0.here hx rfl (hb hby at_76) k) ?_
      refine Go.pull (V := s₁.setTop (mkF m 103 #[iv pw, iv pf, iv 3, iv 1, .unset, .unset, .unset] [])) (fun t k => XS.icmpYes X0.here hx rfl (pc0 := 77) (pc' := 103) rfl (hb hby at_77) rfl (XT.ii_ne_t (by decide)) (by decide) (by decide) k) ?_
      refine Go.pull (V := s₁.setTop (mkF m 104 #[iv pw, iv pf, iv 3, iv 1, .unset, .unset, .unset] [(.int 3)])) (fun t k => XS.iloadN X0.here hx rfl (hb hby at_103) rfl  k) ?_
      refine Go.pull (V := s₁.setTop (mkF m 105 #[iv pw, iv pf, iv 3, iv 1, .unset, .unset, .unset] [(.int 3), (.int 3)])) (fun t k => XS.iconst X0.here hx rfl (hb hby at_104) k) ?_
      refine Go.pull (V := s₁.setTop (mkF m 108 #[iv pw, iv pf, iv 3, iv 1, .unset, .unset, .unset] [])) (fun t k => XS.icmpNo X0.here hx rfl (hb hby at_105) rfl (XT.ii_ne_f (by decide)) k) ?_
      obtain ⟨T20, X20, e20, st20⟩ := getS2 X0 hx hZ hown (host := "") (Or.inl (hw _ (List.mem_of_getElem? (i := 27) rfl))) Via.refl e0 S_r_ColumnType_INT (g := (mkF m 108 #[iv pw, iv pf, iv 3, iv 1, .unset, .unset, .unset] [])) rfl (hb hby at_108)
      refine Go.pull (V := T20.setTop (mkF m 111 #[iv pw, iv pf, iv 3, iv 1, .unset, .unset, .unset] [(.ref r_ColumnType_INT)])) st20 ?_
      refine Go.pull (V := T20.setTop (mkF m 113 #[iv pw, iv pf, iv 3, iv 1, rv r_ColumnType_INT, .unset, .unset] [])) (fun t k => XS.astore X20.here hx rfl (hb hby at_111) rfl rfl (l' := #[iv pw, iv pf, iv 3, iv 1, rv r_ColumnType_INT, .unset, .unset]) rfl k) ?_
      refine Go.pull (V := T20.setTop (mkF m 114 #[iv pw, iv pf, iv 3, iv 1, rv r_ColumnType_INT, .unset, .unset] [(.int 1)])) (fun t k => XS.iloadN X20.here hx rfl (hb hby at_113) rfl  k) ?_
      refine Go.pull (V := T20.setTop (mkF m 117 #[iv pw, iv pf, iv 3, iv 1, rv r_ColumnType_INT, .unset, .unset] [])) (fun t k => XS.ifNo X20.here hx rfl (hb hby at_114) rfl (XT.i0_eq_f (by decide)) k) ?_
      refine Go.pull (V := T20.setTop (mkF m 120 #[iv pw, iv pf, iv 3, iv 1, rv r_ColumnType_INT, .unset, .unset] [(.long 4294967295)])) (fun t k => X20.ldc2Long hx hown (mvT hZ (hw _ (List.mem_of_getElem? (i := 29) rfl))) (g := (mkF m 117 #[iv pw, iv pf, iv 3, iv 1, rv r_ColumnType_INT, .unset, .unset] [])) rfl (hb hby at_117) _ k) ?_
      refine Go.pull (V := T20.setTop (mkF m 126 #[iv pw, iv pf, iv 3, iv 1, rv r_ColumnType_INT, .unset, .unset] [(.long 4294967295)])) (fun t k => XS.goto X20.here hx rfl (pc0 := 120) (pc' := 126) rfl (hb hby at_120) (by decide) (by decide) k) ?_
      refine Go.pull (V := T20.setTop (mkF m 128 #[iv pw, iv pf, iv 3, iv 1, rv r_ColumnType_INT, .val (.long 4294967295), .second] [])) (fun t k => XS.lstore X20.here hx rfl (hb hby at_126) rfl (l' := #[iv pw, iv pf, iv 3, iv 1, rv r_ColumnType_INT, .val (.long 4294967295), .second]) rfl k) ?_
      refine Go.pull (V := T20.setTop (mkF m 169 #[iv pw, iv pf, iv 3, iv 1, rv r_ColumnType_INT, .val (.long 4294967295), .second] [])) (fun t k => XS.goto X20.here hx rfl (pc0 := 128) (pc' := 169) rfl (hb hby at_128) (by decide) (by decide) k) ?_
      refine Go.pull (V := T20.setTop (mkF m 171 #[iv pw, iv pf, iv 3, iv 1, rv r_ColumnType_INT, .val (.long 4294967295), .second] [(.ref r_ColumnType_INT)])) (fun t k => XS.aload X20.here hx rfl (hb hby at_169) rfl rfl k) ?_
      refine Go.pull (V := T20.setTop (mkF m 172 #[iv pw, iv pf, iv 3, iv 1, rv r_ColumnType_INT, .val (.long 4294967295), .second] [(.int 1), (.ref r_ColumnType_INT)])) (fun t k => XS.iloadN X20.here hx rfl (hb hby at_171) rfl  k) ?_
      obtain ⟨cq21, kq21, q21a, q21b, q21c⟩ := isOf hZ e20 E_r_ColumnType_INT
      obtain ⟨_, _, ⟨T21, L21, k21, n21⟩, -, X21, ⟨Lc21, hQ21, l21, y21, z21⟩, st21⟩ := X20.virtualBack hx (y := (⟨"com/example/latch/latch/engine/ColumnType", "maxValue", "(Z)J"⟩ : MethodName)) (z := (⟨"com/example/latch/latch/engine/ColumnType", "maxValue", "(Z)J"⟩ : MethodName)) hown (mvT hZ (hw _ (List.mem_of_getElem? (i := 5) rfl))) (mvT hZ (hw _ (List.mem_of_getElem? (i := 6) rfl))) (notFace_of_selects (args := #[]) (mvT hZ (hw _ (List.mem_of_getElem? (i := 8) rfl)))) (mvT hZ (hw _ (List.mem_of_getElem? (i := 8) rfl))) (mvT hZ (hw _ (List.mem_of_getElem? (i := 7) rfl))) (by decide) (backOf (W := 0) (rmA l Z a0 hw [] r_ColumnType_INT (1 : Int32) (32 : Int32) h0 n0 F_r_ColumnType_INT_m_bits) hZ (hw _ (List.mem_of_getElem? (i := 9) rfl)) (hw _ (List.mem_of_getElem? (i := 2) rfl)) (by decide) (by decide)) q21a q21c (g := (mkF m 172 #[iv pw, iv pf, iv 3, iv 1, rv r_ColumnType_INT, .val (.long 4294967295), .second] [(.int 1), (.ref r_ColumnType_INT)])) rfl (by rw [hml]; rfl) (Steps.refl _) (argsL := [(.int 1)]) (rest := []) (lenOf pd_0 rfl) rfl (by show 2 * 0 + _ ≤ _; exact Nat.le_of_eq rfl) (hb hby at_172) (fun _ _ => ⟨rfl, e20, (by decide : 0 + 0 ≤ _), (by decide : 0 + 0 ≤ _)⟩)
      dsimp only [Pt.U, Pt.locs, Pt.cells, Pt.slots] at X21 l21 y21 z21 st21 hQ21
      subst l21 y21 z21
      obtain ⟨hv21, N21q, e21⟩ := hQ21
      rw [(show (own_max (1 : Int32) (32 : Int32)) = (4294967295 : Int64) from by decide)] at hv21; subst hv21
      have N21 := Fr.app N0 N21q
      refine Go.pull (V := T21.setTop (mkF m 175 #[iv pw, iv pf, iv 3, iv 1, rv r_ColumnType_INT, .val (.long 4294967295), .second] [(.long 4294967295)])) (fun _ k => st21.trans k) ?_
      refine Go.pull (V := T21.setTop (mkF m 177 #[iv pw, iv pf, iv 3, iv 1, rv r_ColumnType_INT, .val (.long 4294967295), .second] [(.long 4294967295), (.long 4294967295)])) (fun t k => XS.lload X21.here hx rfl (hb hby at_175) rfl  k) ?_
      refine Go.pull (V := T21.setTop (mkF m 178 #[iv pw, iv pf, iv 3, iv 1, rv r_ColumnType_INT, .val (.long 4294967295), .second] [(.int (XT.cmpL (4294967295 : Int64) (4294967295 : Int64)))])) (fun t k => XT.lcmp X21.here hx rfl (hb hby at_177) rfl k) ?_
      refine Go.pull (V := T21.setTop (mkF m 181 #[iv pw, iv pf, iv 3, iv 1, rv r_ColumnType_INT, .val (.long 4294967295), .second] [])) (fun t k => XS.ifNo X21.here hx rfl (hb hby at_178) rfl (XT.ll_ne_f (by decide)) k) ?_
      refine Go.pull (V := T21.setTop (mkF m 182 #[iv pw, iv pf, iv 3, iv 1, rv r_ColumnType_INT, .val (.long 4294967295), .second] [(.int 1)])) (fun t k => XS.iconst X21.here hx rfl (hb hby at_181) k) ?_
      refine Go.pull (V := T21.setTop (mkF m 186 #[iv pw, iv pf, iv 3, iv 1, rv r_ColumnType_INT, .val (.long 4294967295), .second] [(.int 1)])) (fun t k => XS.goto X21.here hx rfl (pc0 := 182) (pc' := 186) rfl (hb hby at_182) (by decide) (by decide) k) ?_
      exact Go.retN X21 hx Bd.notSynchronized (t := .boolean) Bd.returns (by simp) (hb hby at_186) ⟨rfl, N21⟩ (by decide) (by decide)
  · subst hv1
    refine Go.pull (V := s₁.setTop (mkF m 9 #[iv pw, iv pf, iv 4, .unset, .unset, .unset, .unset] [(.int pf)])) (fun t k => XS.iloadN X0.here hx rfl (hb hby at_8) rfl  k) ?_
    refine Go.pull (V := s₁.setTop (mkF m 10 #[iv pw, iv pf, iv 4, .unset, .unset, .unset, .unset] [(.int 1), (.int pf)])) (fun t k => XS.iconst X0.here hx rfl (hb hby at_9) k) ?_
    refine Go.pull (V := s₁.setTop (mkF m 11 #[iv pw, iv pf, iv 4, .unset, .unset, .unset, .unset] [(.int (pf &&& (1 : Int32)))])) (fun t k => XS.iand X0.here hx rfl (hb hby at_10) rfl k) ?_
    by_cases hc11_22 : (pf &&& (1 : Int32)) = 0
    · skip
      refine Go.pull (V := s₁.setTop (mkF m 18 #[iv pw, iv pf, iv 4, .unset, .unset, .unset, .unset] [])) (fun t k => XS.ifYes X0.here hx rfl (pc0 := 11) (pc' := 18) rfl (hb hby at_11) rfl (XT.i0_eq_t hc11_22) (by decide) (by decide) k) ?_
      refine Go.pull (V := s₁.setTop (mkF m 19 #[iv pw, iv pf, iv 4, .unset, .unset, .unset, .unset] [(.int 0)])) (fun t k => XS.iconst X0.here hx rfl (hb hby at_18) k) ?_
      refine Go.pull (V := s₁.setTop (mkF m 20 #[iv pw, iv pf, iv 4, iv 0, .unset, .unset, .unset] [])) (fun t k => XS.istoreN X0.here hx rfl (hb hby at_19) rfl (l' := #[iv pw, iv pf, iv 4, iv 0, .unset, .unset, .unset]) rfl k) ?_
      refine Go.pull (V := s₁.setTop (mkF m 21 #[iv pw, iv pf, iv 4, iv 0, .unset, .unset, .unset] [(.int 4)])) (fun t k => XS.iloadN X0.here hx rfl (hb hby at_20) rfl  k) ?_
      refine Go.pull (V := s₁.setTop (mkF m 47 #[iv pw, iv pf, iv 4, iv 0, .unset, .unset, .unset] [])) (fun t k => XS.ifYes X0.here hx rfl (pc0 := 21) (pc' := 47) rfl (hb hby at_21) rfl (XT.i0_ne_t (by decide)) (by decide) (by decide) k) ?_
      refine Go.pull (V := s₁.setTop (mkF m 48 #[iv pw, iv pf, iv 4, iv 0, .unset, .unset, .unset] [(.int 4)])) (fun t k => XS.iloadN X0.here hx rfl (hb hby at_47) rfl  k) ?_
      refine Go.pull (V := s₁.setTop (mkF m 49 #[iv pw, iv pf, iv 4, iv 0, .unset, .unset, .unset] [(.int 1), (.int 4)])) (fun t k => XS.iconst X0.here hx rfl (hb hby at_48) k) ?_
      refine Go.pull (V := s₁.setTop (mkF m 75 #[iv pw, iv pf, iv 4, iv 0, .unset, .unset, .unset] [])) (fun t k => XS.icmpYes X0.here hx rfl (pc0 := 49) (pc' := 75) rfl (hb hby at_49) rfl (XT.ii_ne_t (by decide)) (by decide) (by decide) k) ?_
      refine Go.pull (V := s₁.setTop (mkF m 76 #[iv pw, iv pf, iv 4, iv 0, .unset, .unset, .unset] [(.int 4)])) (fun t k => XS.iloadN X0.here hx rfl (hb hby at_75) rfl  k) ?_
      refine Go.pull (V := s₁.setTop (mkF m 77 #[iv pw, iv pf, iv 4, iv 0, .unset, .unset, .unset] [(.int 2), (.int 4)])) (fun t k => XS.iconst X0.here hx rfl (hb hby at_76) k) ?_
      refine Go.pull (V := s₁.setTop (mkF m 103 #[iv pw, iv pf, iv 4, iv 0, .unset, .unset, .unset] [])) (fun t k => XS.icmpYes X0.here hx rfl (pc0 := 77) (pc' := 103) rfl (hb hby at_77) rfl (XT.ii_ne_t (by decide)) (by decide) (by decide) k) ?_
      refine Go.pull (V := s₁.setTop (mkF m 104 #[iv pw, iv pf, iv 4, iv 0, .unset, .unset, .unset] [(.int 4)])) (fun t k => XS.iloadN X0.here hx rfl (hb hby at_103) rfl  k) ?_
      refine Go.pull (V := s₁.setTop (mkF m 105 #[iv pw, iv pf, iv 4, iv 0, .unset, .unset, .unset] [(.int 3), (.int 4)])) (fun t k => XS.iconst X0.here hx rfl (hb hby at_104) k) ?_
      refine Go.pull (V := s₁.setTop (mkF m 131 #[iv pw, iv pf, iv 4, iv 0, .unset, .unset, .unset] [])) (fun t k => XS.icmpYes X0.here hx rfl (pc0 := 105) (pc' := 131) rfl (hb hby at_105) rfl (XT.ii_ne_t (by decide)) (by decide) (by decide) k) ?_
      refine Go.pull (V := s₁.setTop (mkF m 132 #[iv pw, iv pf, iv 4, iv 0, .unset, .unset, .unset] [(.int 4)])) (fun t k => XS.iloadN X0.here hx rfl (hb hby at_131) rfl  k) ?_
      refine Go.pull (V := s₁.setTop (mkF m 133 #[iv pw, iv pf, iv 4, iv 0, .unset, .unset, .unset] [(.int 4), (.int 4)])) (fun t k => XS.iconst X0.here hx rfl (hb hby at_132) k) ?_
      refine Go.pull (V := s₁.setTop (mkF m 136 #[iv pw, iv pf, iv 4, iv 0, .unset, .unset, .unset] [])) (fun t k => XS.icmpNo X0.here hx rfl (hb hby at_133) rfl (XT.ii_ne_f (by decide)) k) ?_
      obtain ⟨T23, X23, e23, st23⟩ := getS2 X0 hx hZ hown (host := "") (Or.inl (hw _ (List.mem_of_getElem? (i := 16) rfl))) Via.refl e0 S_r_ColumnType_INTEGER (g := (mkF m 136 #[iv pw, iv pf, iv 4, iv 0, .unset, .unset, .unset] [])) rfl (hb hby at_136)
      refine Go.pull (V := T23.setTop (mkF m 139 #[iv pw, iv pf, iv 4, iv 0, .unset, .unset, .unset] [(.ref r_ColumnType_INTEGER)])) st23 ?_
      refine Go.pull (V := T23.setTop (mkF m 141 #[iv pw, iv pf, iv 4, iv 0, rv r_ColumnType_INTEGER, .unset, .unset] [])) (fun t k => XS.astore X23.here hx rfl (hb hby at_139) rfl rfl (l' := #[iv pw, iv pf, iv 4, iv 0, rv r_ColumnType_INTEGER, .unset, .unset]) rfl k) ?_
      refine Go.pull (V := T23.setTop (mkF m 142 #[iv pw, iv pf, iv 4, iv 0, rv r_ColumnType_INTEGER, .unset, .unset] [(.int 0)])) (fun t k => XS.iloadN X23.here hx rfl (hb hby at_141) rfl  k) ?_
      refine Go.pull (V := T23.setTop (mkF m 151 #[iv pw, iv pf, iv 4, iv 0, rv r_ColumnType_INTEGER, .unset, .unset] [])) (fun t k => XS.ifYes X23.here hx rfl (pc0 := 142) (pc' := 151) rfl (hb hby at_142) rfl (XT.i0_eq_t (by decide)) (by decide) (by decide) k) ?_
      refine Go.pull (V := T23.setTop (mkF m 154 #[iv pw, iv pf, iv 4, iv 0, rv r_ColumnType_INTEGER, .unset, .unset] [(.long 2147483647)])) (fun t k => X23.ldc2Long hx hown (mvT hZ (hw _ (List.mem_of_getElem? (i := 18) rfl))) (g := (mkF m 151 #[iv pw, iv pf, iv 4, iv 0, rv r_ColumnType_INTEGER, .unset, .unset] [])) rfl (hb hby at_151) _ k) ?_
      refine Go.pull (V := T23.setTop (mkF m 156 #[iv pw, iv pf, iv 4, iv 0, rv r_ColumnType_INTEGER, .val (.long 2147483647), .second] [])) (fun t k => XS.lstore X23.here hx rfl (hb hby at_154) rfl (l' := #[iv pw, iv pf, iv 4, iv 0, rv r_ColumnType_INTEGER, .val (.long 2147483647), .second]) rfl k) ?_
      refine Go.pull (V := T23.setTop (mkF m 169 #[iv pw, iv pf, iv 4, iv 0, rv r_ColumnType_INTEGER, .val (.long 2147483647), .second] [])) (fun t k => XS.goto X23.here hx rfl (pc0 := 156) (pc' := 169) rfl (hb hby at_156) (by decide) (by decide) k) ?_
      refine Go.pull (V := T23.setTop (mkF m 171 #[iv pw, iv pf, iv 4, iv 0, rv r_ColumnType_INTEGER, .val (.long 2147483647), .second] [(.ref r_ColumnType_INTEGER)])) (fun t k => XS.aload X23.here hx rfl (hb hby at_169) rfl rfl k) ?_
      refine Go.pull (V := T23.setTop (mkF m 172 #[iv pw, iv pf, iv 4, iv 0, rv r_ColumnType_INTEGER, .val (.long 2147483647), .second] [(.int 0), (.ref r_ColumnType_INTEGER)])) (fun t k => XS.iloadN X23.here hx rfl (hb hby at_171) rfl  k) ?_
      obtain ⟨cq24, kq24, q24a, q24b, q24c⟩ := isOf hZ e23 E_r_ColumnType_INTEGER
      obtain ⟨_, _, ⟨T24, L24, k24, n24⟩, -, X24, ⟨Lc24, hQ24, l24, y24, z24⟩, st24⟩ := X23.virtualBack hx (y := (⟨"com/example/latch/latch/engine/ColumnType", "maxValue", "(Z)J"⟩ : MethodName)) (z := (⟨"com/example/latch/latch/engine/ColumnType", "maxValue", "(Z)J"⟩ : MethodName)) hown (mvT hZ (hw _ (List.mem_of_getElem? (i := 5) rfl))) (mvT hZ (hw _ (List.mem_of_getElem? (i := 6) rfl))) (notFace_of_selects (args := #[]) (mvT hZ (hw _ (List.mem_of_getElem? (i := 8) rfl)))) (mvT hZ (hw _ (List.mem_of_getElem? (i := 8) rfl))) (mvT hZ (hw _ (List.mem_of_getElem? (i := 7) rfl))) (by decide) (backOf (W := 0) (rmA l Z a0 hw [] r_ColumnType_INTEGER (0 : Int32) (32 : Int32) h0 n0 F_r_ColumnType_INTEGER_m_bits) hZ (hw _ (List.mem_of_getElem? (i := 9) rfl)) (hw _ (List.mem_of_getElem? (i := 2) rfl)) (by decide) (by decide)) q24a q24c (g := (mkF m 172 #[iv pw, iv pf, iv 4, iv 0, rv r_ColumnType_INTEGER, .val (.long 2147483647), .second] [(.int 0), (.ref r_ColumnType_INTEGER)])) rfl (by rw [hml]; rfl) (Steps.refl _) (argsL := [(.int 0)]) (rest := []) (lenOf pd_0 rfl) rfl (by show 2 * 0 + _ ≤ _; exact Nat.le_of_eq rfl) (hb hby at_172) (fun _ _ => ⟨rfl, e23, (by decide : 0 + 0 ≤ _), (by decide : 0 + 0 ≤ _)⟩)
      dsimp only [Pt.U, Pt.locs, Pt.cells, Pt.slots] at X24 l24 y24 z24 st24 hQ24
      subst l24 y24 z24
      obtain ⟨hv24, N24q, e24⟩ := hQ24
      rw [(show (own_max (0 : Int32) (32 : Int32)) = (2147483647 : Int64) from by decide)] at hv24; subst hv24
      have N24 := Fr.app N0 N24q
      refine Go.pull (V := T24.setTop (mkF m 175 #[iv pw, iv pf, iv 4, iv 0, rv r_ColumnType_INTEGER, .val (.long 2147483647), .second] [(.long 2147483647)])) (fun _ k => st24.trans k) ?_
      refine Go.pull (V := T24.setTop (mkF m 177 #[iv pw, iv pf, iv 4, iv 0, rv r_ColumnType_INTEGER, .val (.long 2147483647), .second] [(.long 2147483647), (.long 2147483647)])) (fun t k => XS.lload X24.here hx rfl (hb hby at_175) rfl  k) ?_
      refine Go.pull (V := T24.setTop (mkF m 178 #[iv pw, iv pf, iv 4, iv 0, rv r_ColumnType_INTEGER, .val (.long 2147483647), .second] [(.int (XT.cmpL (2147483647 : Int64) (2147483647 : Int64)))])) (fun t k => XT.lcmp X24.here hx rfl (hb hby at_177) rfl k) ?_
      refine Go.pull (V := T24.setTop (mkF m 181 #[iv pw, iv pf, iv 4, iv 0, rv r_ColumnType_INTEGER, .val (.long 2147483647), .second] [])) (fun t k => XS.ifNo X24.here hx rfl (hb hby at_178) rfl (XT.ll_ne_f (by decide)) k) ?_
      refine Go.pull (V := T24.setTop (mkF m 182 #[iv pw, iv pf, iv 4, iv 0, rv r_ColumnType_INTEGER, .val (.long 2147483647), .second] [(.int 1)])) (fun t k => XS.iconst X24.here hx rfl (hb hby at_181) k) ?_
      refine Go.pull (V := T24.setTop (mkF m 186 #[iv pw, iv pf, iv 4, iv 0, rv r_ColumnType_INTEGER, .val (.long 2147483647), .second] [(.int 1)])) (fun t k => XS.goto X24.here hx rfl (pc0 := 182) (pc' := 186) rfl (hb hby at_182) (by decide) (by decide) k) ?_
      exact Go.retN X24 hx Bd.notSynchronized (t := .boolean) Bd.returns (by simp) (hb hby at_186) ⟨rfl, N24⟩ (by decide) (by decide)
    · skip
      refine Go.pull (V := s₁.setTop (mkF m 14 #[iv pw, iv pf, iv 4, .unset, .unset, .unset, .unset] [])) (fun t k => XS.ifNo X0.here hx rfl (hb hby at_11) rfl (XT.i0_eq_f hc11_22) k) ?_
      refine Go.pull (V := s₁.setTop (mkF m 15 #[iv pw, iv pf, iv 4, .unset, .unset, .unset, .unset] [(.int 1)])) (fun t k => XS.iconst X0.here hx rfl (hb hby at_14) k) ?_
      refine Go.pull (V := s₁.setTop (mkF m 19 #[iv pw, iv pf, iv 4, .unset, .unset, .unset, .unset] [(.int 1)])) (fun t k => XS.goto X0.here hx rfl (pc0 := 15) (pc' := 19) rfl (hb hby at_15) (by decide) (by decide) k) ?_
      refine Go.pull (V := s₁.setTop (mkF m 20 #[iv pw, iv pf, iv 4, iv 1, .unset, .unset, .unset] [])) (fun t k => XS.istoreN X0.here hx rfl (hb hby at_19) rfl (l' := #[iv pw, iv pf, iv 4, iv 1, .unset, .unset, .unset]) rfl k) ?_
      refine Go.pull (V := s₁.setTop (mkF m 21 #[iv pw, iv pf, iv 4, iv 1, .unset, .unset, .unset] [(.int 4)])) (fun t k => XS.iloadN X0.here hx rfl (hb hby at_20) rfl  k) ?_
      refine Go.pull (V := s₁.setTop (mkF m 47 #[iv pw, iv pf, iv 4, iv 1, .unset, .unset, .unset] [])) (fun t k => XS.ifYes X0.here hx rfl (pc0 := 21) (pc' := 47) rfl (hb hby at_21) rfl (XT.i0_ne_t (by decide)) (by decide) (by decide) k) ?_
      refine Go.pull (V := s₁.setTop (mkF m 48 #[iv pw, iv pf, iv 4, iv 1, .unset, .unset, .unset] [(.int 4)])) (fun t k => XS.iloadN X0.here hx rfl (hb hby at_47) rfl  k) ?_
      refine Go.pull (V := s₁.setTop (mkF m 49 #[iv pw, iv pf, iv 4, iv 1, .unset, .unset, .unset] [(.int 1), (.int 4)])) (fun t k => XS.iconst X0.here hx rfl (hb hby at_48) k) ?_
      refine Go.pull (V := s₁.setTop (mkF m 75 #[iv pw, iv pf, iv 4, iv 1, .unset, .unset, .unset] [])) (fun t k => XS.icmpYes X0.here hx rfl (pc0 := 49) (pc' := 75) rfl (hb hby at_49) rfl (XT.ii_ne_t (by decide)) (by decide) (by decide) k) ?_
      refine Go.pull (V := s₁.setTop (mkF m 76 #[iv pw, iv pf, iv 4, iv 1, .unset, .unset, .unset] [(.int 4)])) (fun t k => XS.iloadN X0.here hx rfl (hb hby at_75) rfl  k) ?_
      refine Go.pull (V := s₁.setTop (mkF m 77 #[iv pw, iv pf, iv 4, iv 1, .unset, .unset, .unset] [(.int 2), (.int 4)])) (fun t k => XS.iconst X0.here hx rfl (hb hby at_76) k) ?_
      refine Go.pull (V := s₁.setTop (mkF m 103 #[iv pw, iv pf, iv 4, iv 1, .unset, .unset, .unset] [])) (fun t k => XS.icmpYes X0.here hx rfl (pc0 := 77) (pc' := 103) rfl (hb hby at_77) rfl (XT.ii_ne_t (by decide)) (by decide) (by decide) k) ?_
      refine Go.pull (V := s₁.setTop (mkF m 104 #[iv pw, iv pf, iv 4, iv 1, .unset, .unset, .unset] [(.int 4)])) (fun t k => XS.iloadN X0.here hx rfl (hb hby at_103) rfl  k) ?_
      refine Go.pull (V := s₁.setTop (mkF m 105 #[iv pw, iv pf, iv 4, iv 1, .unset, .unset, .unset] [(.int 3), (.int 4)])) (fun t k => XS.iconst X0.here hx rfl (hb hby at_104) k) ?_
      refine Go.pull (V := s₁.setTop (mkF m 131 #[iv pw, iv pf, iv 4, iv 1, .unset, .unset, .unset] [])) (fun t k => XS.icmpYes X0.here hx rfl (pc0 := 105) (pc' := 131) rfl (hb hby at_105) rfl (XT.ii_ne_t (by decide)) (by decide) (by decide) k) ?_
      refine Go.pull (V := s₁.setTop (mkF m 132 #[iv pw, iv pf, iv 4, iv 1, .unset, .unset, .unset] [(.int 4)])) (fun t k => XS.iloadN X0.here hx rfl (hb hby at_131) rfl  k) ?_
      refine Go.pull (V := s₁.setTop (mkF m 133 #[iv pw, iv pf, iv 4, iv 1, .unset, .unset, .unset] [(.int 4), (.int 4)])) (fun t k => XS.iconst X0.here hx rfl (hb hby at_132) k) ?_
      refine Go.pull (V := s₁.setTop (mkF m 136 #[iv pw, iv pf, iv 4, iv 1, .unset, .unset, .unset] [])) (fun t k => XS.icmpNo X0.here hx rfl (hb hby at_133) rfl (XT.ii_ne_f (by decide)) k) ?_
      obtain ⟨T25, X25, e25, st25⟩ := getS2 X0 hx hZ hown (host := "") (Or.inl (hw _ (List.mem_of_getElem? (i := 16) rfl))) Via.refl e0 S_r_ColumnType_INTEGER (g := (mkF m 136 #[iv pw, iv pf, iv 4, iv 1, .unset, .unset, .unset] [])) rfl (hb hby at_136)
      refine Go.pull (V := T25.setTop (mkF m 139 #[iv pw, iv pf, iv 4, iv 1, .unset, .unset, .unset] [(.ref r_ColumnType_INTEGER)])) st25 ?_
      refine Go.pull (V := T25.setTop (mkF m 141 #[iv pw, iv pf, iv 4, iv 1, rv r_ColumnType_INTEGER, .unset, .unset] [])) (fun t k => XS.astore X25.here hx rfl (hb hby at_139) rfl rfl (l' := #[iv pw, iv pf, iv 4, iv 1, rv r_ColumnType_INTEGER, .unset, .unset]) rfl k) ?_
      refine Go.pull (V := T25.setTop (mkF m 142 #[iv pw, iv pf, iv 4, iv 1, rv r_ColumnType_INTEGER, .unset, .unset] [(.int 1)])) (fun t k => XS.iloadN X25.here hx rfl (hb hby at_141) rfl  k) ?_
      refine Go.pull (V := T25.setTop (mkF m 145 #[iv pw, iv pf, iv 4, iv 1, rv r_ColumnType_INTEGER, .unset, .unset] [])) (fun t k => XS.ifNo X25.here hx rfl (hb hby at_142) rfl (XT.i0_eq_f (by decide)) k) ?_
      refine Go.pull (V := T25.setTop (mkF m 148 #[iv pw, iv pf, iv 4, iv 1, rv r_ColumnType_INTEGER, .unset, .unset] [(.long 4294967295)])) (fun t k => X25.ldc2Long hx hown (mvT hZ (hw _ (List.mem_of_getElem? (i := 29) rfl))) (g := (mkF m 145 #[iv pw, iv pf, iv 4, iv 1, rv r_ColumnType_INTEGER, .unset, .unset] [])) rfl (hb hby at_145) _ k) ?_
      refine Go.pull (V := T25.setTop (mkF m 154 #[iv pw, iv pf, iv 4, iv 1, rv r_ColumnType_INTEGER, .unset, .unset] [(.long 4294967295)])) (fun t k => XS.goto X25.here hx rfl (pc0 := 148) (pc' := 154) rfl (hb hby at_148) (by decide) (by decide) k) ?_
      refine Go.pull (V := T25.setTop (mkF m 156 #[iv pw, iv pf, iv 4, iv 1, rv r_ColumnType_INTEGER, .val (.long 4294967295), .second] [])) (fun t k => XS.lstore X25.here hx rfl (hb hby at_154) rfl (l' := #[iv pw, iv pf, iv 4, iv 1, rv r_ColumnType_INTEGER, .val (.long 4294967295), .second]) rfl k) ?_
      refine Go.pull (V := T25.setTop (mkF m 169 #[iv pw, iv pf, iv 4, iv 1, rv r_ColumnType_INTEGER, .val (.long 4294967295), .second] [])) (fun t k => XS.goto X25.here hx rfl (pc0 := 156) (pc' := 169) rfl (hb hby at_156) (by decide) (by decide) k) ?_
      refine Go.pull (V := T25.setTop (mkF m 171 #[iv pw, iv pf, iv 4, iv 1, rv r_ColumnType_INTEGER, .val (.long 4294967295), .second] [(.ref r_ColumnType_INTEGER)])) (fun t k => XS.aload X25.here hx rfl (hb hby at_169) rfl rfl k) ?_
      refine Go.pull (V := T25.setTop (mkF m 172 #[iv pw, iv pf, iv 4, iv 1, rv r_ColumnType_INTEGER, .val (.long 4294967295), .second] [(.int 1), (.ref r_ColumnType_INTEGER)])) (fun t k => XS.iloadN X25.here hx rfl (hb hby at_171) rfl  k) ?_
      obtain ⟨cq26, kq26, q26a, q26b, q26c⟩ := isOf hZ e25 E_r_ColumnType_INTEGER
      obtain ⟨_, _, ⟨T26, L26, k26, n26⟩, -, X26, ⟨Lc26, hQ26, l26, y26, z26⟩, st26⟩ := X25.virtualBack hx (y := (⟨"com/example/latch/latch/engine/ColumnType", "maxValue", "(Z)J"⟩ : MethodName)) (z := (⟨"com/example/latch/latch/engine/ColumnType", "maxValue", "(Z)J"⟩ : MethodName)) hown (mvT hZ (hw _ (List.mem_of_getElem? (i := 5) rfl))) (mvT hZ (hw _ (List.mem_of_getElem? (i := 6) rfl))) (notFace_of_selects (args := #[]) (mvT hZ (hw _ (List.mem_of_getElem? (i := 8) rfl)))) (mvT hZ (hw _ (List.mem_of_getElem? (i := 8) rfl))) (mvT hZ (hw _ (List.mem_of_getElem? (i := 7) rfl))) (by decide) (backOf (W := 0) (rmA l Z a0 hw [] r_ColumnType_INTEGER (1 : Int32) (32 : Int32) h0 n0 F_r_ColumnType_INTEGER_m_bits) hZ (hw _ (List.mem_of_getElem? (i := 9) rfl)) (hw _ (List.mem_of_getElem? (i := 2) rfl)) (by decide) (by decide)) q26a q26c (g := (mkF m 172 #[iv pw, iv pf, iv 4, iv 1, rv r_ColumnType_INTEGER, .val (.long 4294967295), .second] [(.int 1), (.ref r_ColumnType_INTEGER)])) rfl (by rw [hml]; rfl) (Steps.refl _) (argsL := [(.int 1)]) (rest := []) (lenOf pd_0 rfl) rfl (by show 2 * 0 + _ ≤ _; exact Nat.le_of_eq rfl) (hb hby at_172) (fun _ _ => ⟨rfl, e25, (by decide : 0 + 0 ≤ _), (by decide : 0 + 0 ≤ _)⟩)
      dsimp only [Pt.U, Pt.locs, Pt.cells, Pt.slots] at X26 l26 y26 z26 st26 hQ26
      subst l26 y26 z26
      obtain ⟨hv26, N26q, e26⟩ := hQ26
      rw [(show (own_max (1 : Int32) (32 : Int32)) = (4294967295 : Int64) from by decide)] at hv26; subst hv26
      have N26 := Fr.app N0 N26q
      refine Go.pull (V := T26.setTop (mkF m 175 #[iv pw, iv pf, iv 4, iv 1, rv r_ColumnType_INTEGER, .val (.long 4294967295), .second] [(.long 4294967295)])) (fun _ k => st26.trans k) ?_
      refine Go.pull (V := T26.setTop (mkF m 177 #[iv pw, iv pf, iv 4, iv 1, rv r_ColumnType_INTEGER, .val (.long 4294967295), .second] [(.long 4294967295), (.long 4294967295)])) (fun t k => XS.lload X26.here hx rfl (hb hby at_175) rfl  k) ?_
      refine Go.pull (V := T26.setTop (mkF m 178 #[iv pw, iv pf, iv 4, iv 1, rv r_ColumnType_INTEGER, .val (.long 4294967295), .second] [(.int (XT.cmpL (4294967295 : Int64) (4294967295 : Int64)))])) (fun t k => XT.lcmp X26.here hx rfl (hb hby at_177) rfl k) ?_
      refine Go.pull (V := T26.setTop (mkF m 181 #[iv pw, iv pf, iv 4, iv 1, rv r_ColumnType_INTEGER, .val (.long 4294967295), .second] [])) (fun t k => XS.ifNo X26.here hx rfl (hb hby at_178) rfl (XT.ll_ne_f (by decide)) k) ?_
      refine Go.pull (V := T26.setTop (mkF m 182 #[iv pw, iv pf, iv 4, iv 1, rv r_ColumnType_INTEGER, .val (.long 4294967295), .second] [(.int 1)])) (fun t k => XS.iconst X26.here hx rfl (hb hby at_181) k) ?_
      refine Go.pull (V := T26.setTop (mkF m 186 #[iv pw, iv pf, iv 4, iv 1, rv r_ColumnType_INTEGER, .val (.long 4294967295), .second] [(.int 1)])) (fun t k => XS.goto X26.here hx rfl (pc0 := 182) (pc' := 186) rfl (hb hby at_182) (by decide) (by decide) k) ?_
      exact Go.retN X26 hx Bd.notSynchronized (t := .boolean) Bd.returns (by simp) (hb hby at_186) ⟨rfl, N26⟩ (by decide) (by decide)
  · subst hv1
    refine Go.pull (V := s₁.setTop (mkF m 9 #[iv pw, iv pf, iv 5, .unset, .unset, .unset, .unset] [(.int pf)])) (fun t k => XS.iloadN X0.here hx rfl (hb hby at_8) rfl  k) ?_
    refine Go.pull (V := s₁.setTop (mkF m 10 #[iv pw, iv pf, iv 5, .unset, .unset, .unset, .unset] [(.int 1), (.int pf)])) (fun t k => XS.iconst X0.here hx rfl (hb hby at_9) k) ?_
    refine Go.pull (V := s₁.setTop (mkF m 11 #[iv pw, iv pf, iv 5, .unset, .unset, .unset, .unset] [(.int (pf &&& (1 : Int32)))])) (fun t k => XS.iand X0.here hx rfl (hb hby at_10) rfl k) ?_
    by_cases hc11_27 : (pf &&& (1 : Int32)) = 0
    · skip
      refine Go.pull (V := s₁.setTop (mkF m 18 #[iv pw, iv pf, iv 5, .unset, .unset, .unset, .unset] [])) (fun t k => XS.ifYes X0.here hx rfl (pc0 := 11) (pc' := 18) rfl (hb hby at_11) rfl (XT.i0_eq_t hc11_27) (by decide) (by decide) k) ?_
      refine Go.pull (V := s₁.setTop (mkF m 19 #[iv pw, iv pf, iv 5, .unset, .unset, .unset, .unset] [(.int 0)])) (fun t k => XS.iconst X0.here hx rfl (hb hby at_18) k) ?_
      refine Go.pull (V := s₁.setTop (mkF m 20 #[iv pw, iv pf, iv 5, iv 0, .unset, .unset, .unset] [])) (fun t k => XS.istoreN X0.here hx rfl (hb hby at_19) rfl (l' := #[iv pw, iv pf, iv 5, iv 0, .unset, .unset, .unset]) rfl k) ?_
      refine Go.pull (V := s₁.setTop (mkF m 21 #[iv pw, iv pf, iv 5, iv 0, .unset, .unset, .unset] [(.int 5)])) (fun t k => XS.iloadN X0.here hx rfl (hb hby at_20) rfl  k) ?_
      refine Go.pull (V := s₁.setTop (mkF m 47 #[iv pw, iv pf, iv 5, iv 0, .unset, .unset, .unset] [])) (fun t k => XS.ifYes X0.here hx rfl (pc0 := 21) (pc' := 47) rfl (hb hby at_21) rfl (XT.i0_ne_t (by decide)) (by decide) (by decide) k) ?_
      refine Go.pull (V := s₁.setTop (mkF m 48 #[iv pw, iv pf, iv 5, iv 0, .unset, .unset, .unset] [(.int 5)])) (fun t k => XS.iloadN X0.here hx rfl (hb hby at_47) rfl  k) ?_
      refine Go.pull (V := s₁.setTop (mkF m 49 #[iv pw, iv pf, iv 5, iv 0, .unset, .unset, .unset] [(.int 1), (.int 5)])) (fun t k => XS.iconst X0.here hx rfl (hb hby at_48) k) ?_
      refine Go.pull (V := s₁.setTop (mkF m 75 #[iv pw, iv pf, iv 5, iv 0, .unset, .unset, .unset] [])) (fun t k => XS.icmpYes X0.here hx rfl (pc0 := 49) (pc' := 75) rfl (hb hby at_49) rfl (XT.ii_ne_t (by decide)) (by decide) (by decide) k) ?_
      refine Go.pull (V := s₁.setTop (mkF m 76 #[iv pw, iv pf, iv 5, iv 0, .unset, .unset, .unset] [(.int 5)])) (fun t k => XS.iloadN X0.here hx rfl (hb hby at_75) rfl  k) ?_
      refine Go.pull (V := s₁.setTop (mkF m 77 #[iv pw, iv pf, iv 5, iv 0, .unset, .unset, .unset] [(.int 2), (.int 5)])) (fun t k => XS.iconst X0.here hx rfl (hb hby at_76) k) ?_
      refine Go.pull (V := s₁.setTop (mkF m 103 #[iv pw, iv pf, iv 5, iv 0, .unset, .unset, .unset] [])) (fun t k => XS.icmpYes X0.here hx rfl (pc0 := 77) (pc' := 103) rfl (hb hby at_77) rfl (XT.ii_ne_t (by decide)) (by decide) (by decide) k) ?_
      refine Go.pull (V := s₁.setTop (mkF m 104 #[iv pw, iv pf, iv 5, iv 0, .unset, .unset, .unset] [(.int 5)])) (fun t k => XS.iloadN X0.here hx rfl (hb hby at_103) rfl  k) ?_
      refine Go.pull (V := s₁.setTop (mkF m 105 #[iv pw, iv pf, iv 5, iv 0, .unset, .unset, .unset] [(.int 3), (.int 5)])) (fun t k => XS.iconst X0.here hx rfl (hb hby at_104) k) ?_
      refine Go.pull (V := s₁.setTop (mkF m 131 #[iv pw, iv pf, iv 5, iv 0, .unset, .unset, .unset] [])) (fun t k => XS.icmpYes X0.here hx rfl (pc0 := 105) (pc' := 131) rfl (hb hby at_105) rfl (XT.ii_ne_t (by decide)) (by decide) (by decide) k) ?_
      refine Go.pull (V := s₁.setTop (mkF m 132 #[iv pw, iv pf, iv 5, iv 0, .unset, .unset, .unset] [(.int 5)])) (fun t k => XS.iloadN X0.here hx rfl (hb hby at_131) rfl  k) ?_
      refine Go.pull (V := s₁.setTop (mkF m 133 #[iv pw, iv pf, iv 5, iv 0, .unset, .unset, .unset] [(.int 4), (.int 5)])) (fun t k => XS.iconst X0.here hx rfl (hb hby at_132) k) ?_
      refine Go.pull (V := s₁.setTop (mkF m 159 #[iv pw, iv pf, iv 5, iv 0, .unset, .unset, .unset] [])) (fun t k => XS.icmpYes X0.here hx rfl (pc0 := 133) (pc' := 159) rfl (hb hby at_133) rfl (XT.ii_ne_t (by decide)) (by decide) (by decide) k) ?_
      obtain ⟨T28, X28, e28, st28⟩ := getS2 X0 hx hZ hown (host := "") (Or.inl (hw _ (List.mem_of_getElem? (i := 23) rfl))) Via.refl e0 S_r_ColumnType_BIGINT (g := (mkF m 159 #[iv pw, iv pf, iv 5, iv 0, .unset, .unset, .unset] [])) rfl (hb hby at_159)
      refine Go.pull (V := T28.setTop (mkF m 162 #[iv pw, iv pf, iv 5, iv 0, .unset, .unset, .unset] [(.ref r_ColumnType_BIGINT)])) st28 ?_
      refine Go.pull (V := T28.setTop (mkF m 164 #[iv pw, iv pf, iv 5, iv 0, rv r_ColumnType_BIGINT, .unset, .unset] [])) (fun t k => XS.astore X28.here hx rfl (hb hby at_162) rfl rfl (l' := #[iv pw, iv pf, iv 5, iv 0, rv r_ColumnType_BIGINT, .unset, .unset]) rfl k) ?_
      refine Go.pull (V := T28.setTop (mkF m 167 #[iv pw, iv pf, iv 5, iv 0, rv r_ColumnType_BIGINT, .unset, .unset] [(.long 9223372036854775807)])) (fun t k => X28.ldc2Long hx hown (mvT hZ (hw _ (List.mem_of_getElem? (i := 25) rfl))) (g := (mkF m 164 #[iv pw, iv pf, iv 5, iv 0, rv r_ColumnType_BIGINT, .unset, .unset] [])) rfl (hb hby at_164) _ k) ?_
      refine Go.pull (V := T28.setTop (mkF m 169 #[iv pw, iv pf, iv 5, iv 0, rv r_ColumnType_BIGINT, .val (.long 9223372036854775807), .second] [])) (fun t k => XS.lstore X28.here hx rfl (hb hby at_167) rfl (l' := #[iv pw, iv pf, iv 5, iv 0, rv r_ColumnType_BIGINT, .val (.long 9223372036854775807), .second]) rfl k) ?_
      refine Go.pull (V := T28.setTop (mkF m 171 #[iv pw, iv pf, iv 5, iv 0, rv r_ColumnType_BIGINT, .val (.long 9223372036854775807), .second] [(.ref r_ColumnType_BIGINT)])) (fun t k => XS.aload X28.here hx rfl (hb hby at_169) rfl rfl k) ?_
      refine Go.pull (V := T28.setTop (mkF m 172 #[iv pw, iv pf, iv 5, iv 0, rv r_ColumnType_BIGINT, .val (.long 9223372036854775807), .second] [(.int 0), (.ref r_ColumnType_BIGINT)])) (fun t k => XS.iloadN X28.here hx rfl (hb hby at_171) rfl  k) ?_
      obtain ⟨cq29, kq29, q29a, q29b, q29c⟩ := isOf hZ e28 E_r_ColumnType_BIGINT
      obtain ⟨_, _, ⟨T29, L29, k29, n29⟩, -, X29, ⟨Lc29, hQ29, l29, y29, z29⟩, st29⟩ := X28.virtualBack hx (y := (⟨"com/example/latch/latch/engine/ColumnType", "maxValue", "(Z)J"⟩ : MethodName)) (z := (⟨"com/example/latch/latch/engine/ColumnType", "maxValue", "(Z)J"⟩ : MethodName)) hown (mvT hZ (hw _ (List.mem_of_getElem? (i := 5) rfl))) (mvT hZ (hw _ (List.mem_of_getElem? (i := 6) rfl))) (notFace_of_selects (args := #[]) (mvT hZ (hw _ (List.mem_of_getElem? (i := 8) rfl)))) (mvT hZ (hw _ (List.mem_of_getElem? (i := 8) rfl))) (mvT hZ (hw _ (List.mem_of_getElem? (i := 7) rfl))) (by decide) (backOf (W := 0) (rmA l Z a0 hw [] r_ColumnType_BIGINT (0 : Int32) (64 : Int32) h0 n0 F_r_ColumnType_BIGINT_m_bits) hZ (hw _ (List.mem_of_getElem? (i := 9) rfl)) (hw _ (List.mem_of_getElem? (i := 2) rfl)) (by decide) (by decide)) q29a q29c (g := (mkF m 172 #[iv pw, iv pf, iv 5, iv 0, rv r_ColumnType_BIGINT, .val (.long 9223372036854775807), .second] [(.int 0), (.ref r_ColumnType_BIGINT)])) rfl (by rw [hml]; rfl) (Steps.refl _) (argsL := [(.int 0)]) (rest := []) (lenOf pd_0 rfl) rfl (by show 2 * 0 + _ ≤ _; exact Nat.le_of_eq rfl) (hb hby at_172) (fun _ _ => ⟨rfl, e28, (by decide : 0 + 0 ≤ _), (by decide : 0 + 0 ≤ _)⟩)
      dsimp only [Pt.U, Pt.locs, Pt.cells, Pt.slots] at X29 l29 y29 z29 st29 hQ29
      subst l29 y29 z29
      obtain ⟨hv29, N29q, e29⟩ := hQ29
      rw [(show (own_max (0 : Int32) (64 : Int32)) = (9223372036854775807 : Int64) from by decide)] at hv29; subst hv29
      have N29 := Fr.app N0 N29q
      refine Go.pull (V := T29.setTop (mkF m 175 #[iv pw, iv pf, iv 5, iv 0, rv r_ColumnType_BIGINT, .val (.long 9223372036854775807), .second] [(.long 9223372036854775807)])) (fun _ k => st29.trans k) ?_
      refine Go.pull (V := T29.setTop (mkF m 177 #[iv pw, iv pf, iv 5, iv 0, rv r_ColumnType_BIGINT, .val (.long 9223372036854775807), .second] [(.long 9223372036854775807), (.long 9223372036854775807)])) (fun t k => XS.lload X29.here hx rfl (hb hby at_175) rfl  k) ?_
      refine Go.pull (V := T29.setTop (mkF m 178 #[iv pw, iv pf, iv 5, iv 0, rv r_ColumnType_BIGINT, .val (.long 9223372036854775807), .second] [(.int (XT.cmpL (9223372036854775807 : Int64) (9223372036854775807 : Int64)))])) (fun t k => XT.lcmp X29.here hx rfl (hb hby at_177) rfl k) ?_
      refine Go.pull (V := T29.setTop (mkF m 181 #[iv pw, iv pf, iv 5, iv 0, rv r_ColumnType_BIGINT, .val (.long 9223372036854775807), .second] [])) (fun t k => XS.ifNo X29.here hx rfl (hb hby at_178) rfl (XT.ll_ne_f (by decide)) k) ?_
      refine Go.pull (V := T29.setTop (mkF m 182 #[iv pw, iv pf, iv 5, iv 0, rv r_ColumnType_BIGINT, .val (.long 9223372036854775807), .second] [(.int 1)])) (fun t k => XS.iconst X29.here hx rfl (hb hby at_181) k) ?_
      refine Go.pull (V := T29.setTop (mkF m 186 #[iv pw, iv pf, iv 5, iv 0, rv r_ColumnType_BIGINT, .val (.long 9223372036854775807), .second] [(.int 1)])) (fun t k => XS.goto X29.here hx rfl (pc0 := 182) (pc' := 186) rfl (hb hby at_182) (by decide) (by decide) k) ?_
      exact Go.retN X29 hx Bd.notSynchronized (t := .boolean) Bd.returns (by simp) (hb hby at_186) ⟨rfl, N29⟩ (by decide) (by decide)
    · skip
      refine Go.pull (V := s₁.setTop (mkF m 14 #[iv pw, iv pf, iv 5, .unset, .unset, .unset, .unset] [])) (fun t k => XS.ifNo X0.here hx rfl (hb hby at_11) rfl (XT.i0_eq_f hc11_27) k) ?_
      refine Go.pull (V := s₁.setTop (mkF m 15 #[iv pw, iv pf, iv 5, .unset, .unset, .unset, .unset] [(.int 1)])) (fun t k => XS.iconst X0.here hx rfl (hb hby at_14) k) ?_
      refine Go.pull (V := s₁.setTop (mkF m 19 #[iv pw, iv pf, iv 5, .unset, .unset, .unset, .unset] [(.int 1)])) (fun t k => XS.goto X0.here hx rfl (pc0 := 15) (pc' := 19) rfl (hb hby at_15) (by decide) (by decide) k) ?_
      refine Go.pull (V := s₁.setTop (mkF m 20 #[iv pw, iv pf, iv 5, iv 1, .unset, .unset, .unset] [])) (fun t k => XS.istoreN X0.here hx rfl (hb hby at_19) rfl (l' := #[iv pw, iv pf, iv 5, iv 1, .unset, .unset, .unset]) rfl k) ?_
      refine Go.pull (V := s₁.setTop (mkF m 21 #[iv pw, iv pf, iv 5, iv 1, .unset, .unset, .unset] [(.int 5)])) (fun t k => XS.iloadN X0.here hx rfl (hb hby at_20) rfl  k) ?_
      refine Go.pull (V := s₁.setTop (mkF m 47 #[iv pw, iv pf, iv 5, iv 1, .unset, .unset, .unset] [])) (fun t k => XS.ifYes X0.here hx rfl (pc0 := 21) (pc' := 47) rfl (hb hby at_21) rfl (XT.i0_ne_t (by decide)) (by decide) (by decide) k) ?_
      refine Go.pull (V := s₁.setTop (mkF m 48 #[iv pw, iv pf, iv 5, iv 1, .unset, .unset, .unset] [(.int 5)])) (fun t k => XS.iloadN X0.here hx rfl (hb hby at_47) rfl  k) ?_
      refine Go.pull (V := s₁.setTop (mkF m 49 #[iv pw, iv pf, iv 5, iv 1, .unset, .unset, .unset] [(.int 1), (.int 5)])) (fun t k => XS.iconst X0.here hx rfl (hb hby at_48) k) ?_
      refine Go.pull (V := s₁.setTop (mkF m 75 #[iv pw, iv pf, iv 5, iv 1, .unset, .unset, .unset] [])) (fun t k => XS.icmpYes X0.here hx rfl (pc0 := 49) (pc' := 75) rfl (hb hby at_49) rfl (XT.ii_ne_t (by decide)) (by decide) (by decide) k) ?_
      refine Go.pull (V := s₁.setTop (mkF m 76 #[iv pw, iv pf, iv 5, iv 1, .unset, .unset, .unset] [(.int 5)])) (fun t k => XS.iloadN X0.here hx rfl (hb hby at_75) rfl  k) ?_
      refine Go.pull (V := s₁.setTop (mkF m 77 #[iv pw, iv pf, iv 5, iv 1, .unset, .unset, .unset] [(.int 2), (.int 5)])) (fun t k => XS.iconst X0.here hx rfl (hb hby at_76) k) ?_
      refine Go.pull (V := s₁.setTop (mkF m 103 #[iv pw, iv pf, iv 5, iv 1, .unset, .unset, .unset] [])) (fun t k => XS.icmpYes X0.here hx rfl (pc0 := 77) (pc' := 103) rfl (hb hby at_77) rfl (XT.ii_ne_t (by decide)) (by decide) (by decide) k) ?_
      refine Go.pull (V := s₁.setTop (mkF m 104 #[iv pw, iv pf, iv 5, iv 1, .unset, .unset, .unset] [(.int 5)])) (fun t k => XS.iloadN X0.here hx rfl (hb hby at_103) rfl  k) ?_
      refine Go.pull (V := s₁.setTop (mkF m 105 #[iv pw, iv pf, iv 5, iv 1, .unset, .unset, .unset] [(.int 3), (.int 5)])) (fun t k => XS.iconst X0.here hx rfl (hb hby at_104) k) ?_
      refine Go.pull (V := s₁.setTop (mkF m 131 #[iv pw, iv pf, iv 5, iv 1, .unset, .unset, .unset] [])) (fun t k => XS.icmpYes X0.here hx rfl (pc0 := 105) (pc' := 131) rfl (hb hby at_105) rfl (XT.ii_ne_t (by decide)) (by decide) (by decide) k) ?_
      refine Go.pull (V := s₁.setTop (mkF m 132 #[iv pw, iv pf, iv 5, iv 1, .unset, .unset, .unset] [(.int 5)])) (fun t k => XS.iloadN X0.here hx rfl (hb hby at_131) rfl  k) ?_
      refine Go.pull (V := s₁.setTop (mkF m 133 #[iv pw, iv pf, iv 5, iv 1, .unset, .unset, .unset] [(.int 4), (.int 5)])) (fun t k => XS.iconst X0.here hx rfl (hb hby at_132) k) ?_
      refine Go.pull (V := s₁.setTop (mkF m 159 #[iv pw, iv pf, iv 5, iv 1, .unset, .unset, .unset] [])) (fun t k => XS.icmpYes X0.here hx rfl (pc0 := 133) (pc' := 159) rfl (hb hby at_133) rfl (XT.ii_ne_t (by decide)) (by decide) (by decide) k) ?_
      obtain ⟨T30, X30, e30, st30⟩ := getS2 X0 hx hZ hown (host := "") (Or.inl (hw _ (List.mem_of_getElem? (i := 23) rfl))) Via.refl e0 S_r_ColumnType_BIGINT (g := (mkF m 159 #[iv pw, iv pf, iv 5, iv 1, .unset, .unset, .unset] [])) rfl (hb hby at_159)
      refine Go.pull (V := T30.setTop (mkF m 162 #[iv pw, iv pf, iv 5, iv 1, .unset, .unset, .unset] [(.ref r_ColumnType_BIGINT)])) st30 ?_
      refine Go.pull (V := T30.setTop (mkF m 164 #[iv pw, iv pf, iv 5, iv 1, rv r_ColumnType_BIGINT, .unset, .unset] [])) (fun t k => XS.astore X30.here hx rfl (hb hby at_162) rfl rfl (l' := #[iv pw, iv pf, iv 5, iv 1, rv r_ColumnType_BIGINT, .unset, .unset]) rfl k) ?_
      refine Go.pull (V := T30.setTop (mkF m 167 #[iv pw, iv pf, iv 5, iv 1, rv r_ColumnType_BIGINT, .unset, .unset] [(.long 9223372036854775807)])) (fun t k => X30.ldc2Long hx hown (mvT hZ (hw _ (List.mem_of_getElem? (i := 25) rfl))) (g := (mkF m 164 #[iv pw, iv pf, iv 5, iv 1, rv r_ColumnType_BIGINT, .unset, .unset] [])) rfl (hb hby at_164) _ k) ?_
      refine Go.pull (V := T30.setTop (mkF m 169 #[iv pw, iv pf, iv 5, iv 1, rv r_ColumnType_BIGINT, .val (.long 9223372036854775807), .second] [])) (fun t k => XS.lstore X30.here hx rfl (hb hby at_167) rfl (l' := #[iv pw, iv pf, iv 5, iv 1, rv r_ColumnType_BIGINT, .val (.long 9223372036854775807), .second]) rfl k) ?_
      refine Go.pull (V := T30.setTop (mkF m 171 #[iv pw, iv pf, iv 5, iv 1, rv r_ColumnType_BIGINT, .val (.long 9223372036854775807), .second] [(.ref r_ColumnType_BIGINT)])) (fun t k => XS.aload X30.here hx rfl (hb hby at_169) rfl rfl k) ?_
      refine Go.pull (V := T30.setTop (mkF m 172 #[iv pw, iv pf, iv 5, iv 1, rv r_ColumnType_BIGINT, .val (.long 9223372036854775807), .second] [(.int 1), (.ref r_ColumnType_BIGINT)])) (fun t k => XS.iloadN X30.here hx rfl (hb hby at_171) rfl  k) ?_
      obtain ⟨cq31, kq31, q31a, q31b, q31c⟩ := isOf hZ e30 E_r_ColumnType_BIGINT
      obtain ⟨_, _, ⟨T31, L31, k31, n31⟩, -, X31, ⟨Lc31, hQ31, l31, y31, z31⟩, st31⟩ := X30.virtualBack hx (y := (⟨"com/example/latch/latch/engine/ColumnType", "maxValue", "(Z)J"⟩ : MethodName)) (z := (⟨"com/example/latch/latch/engine/ColumnType", "maxValue", "(Z)J"⟩ : MethodName)) hown (mvT hZ (hw _ (List.mem_of_getElem? (i := 5) rfl))) (mvT hZ (hw _ (List.mem_of_getElem? (i := 6) rfl))) (notFace_of_selects (args := #[]) (mvT hZ (hw _ (List.mem_of_getElem? (i := 8) rfl)))) (mvT hZ (hw _ (List.mem_of_getElem? (i := 8) rfl))) (mvT hZ (hw _ (List.mem_of_getElem? (i := 7) rfl))) (by decide) (backOf (W := 0) (rmA l Z a0 hw [] r_ColumnType_BIGINT (1 : Int32) (64 : Int32) h0 n0 F_r_ColumnType_BIGINT_m_bits) hZ (hw _ (List.mem_of_getElem? (i := 9) rfl)) (hw _ (List.mem_of_getElem? (i := 2) rfl)) (by decide) (by decide)) q31a q31c (g := (mkF m 172 #[iv pw, iv pf, iv 5, iv 1, rv r_ColumnType_BIGINT, .val (.long 9223372036854775807), .second] [(.int 1), (.ref r_ColumnType_BIGINT)])) rfl (by rw [hml]; rfl) (Steps.refl _) (argsL := [(.int 1)]) (rest := []) (lenOf pd_0 rfl) rfl (by show 2 * 0 + _ ≤ _; exact Nat.le_of_eq rfl) (hb hby at_172) (fun _ _ => ⟨rfl, e30, (by decide : 0 + 0 ≤ _), (by decide : 0 + 0 ≤ _)⟩)
      dsimp only [Pt.U, Pt.locs, Pt.cells, Pt.slots] at X31 l31 y31 z31 st31 hQ31
      subst l31 y31 z31
      obtain ⟨hv31, N31q, e31⟩ := hQ31
      rw [(show (own_max (1 : Int32) (64 : Int32)) = (9223372036854775807 : Int64) from by decide)] at hv31; subst hv31
      have N31 := Fr.app N0 N31q
      refine Go.pull (V := T31.setTop (mkF m 175 #[iv pw, iv pf, iv 5, iv 1, rv r_ColumnType_BIGINT, .val (.long 9223372036854775807), .second] [(.long 9223372036854775807)])) (fun _ k => st31.trans k) ?_
      refine Go.pull (V := T31.setTop (mkF m 177 #[iv pw, iv pf, iv 5, iv 1, rv r_ColumnType_BIGINT, .val (.long 9223372036854775807), .second] [(.long 9223372036854775807), (.long 9223372036854775807)])) (fun t k => XS.lload X31.here hx rfl (hb hby at_175) rfl  k) ?_
      refine Go.pull (V := T31.setTop (mkF m 178 #[iv pw, iv pf, iv 5, iv 1, rv r_ColumnType_BIGINT, .val (.long 9223372036854775807), .second] [(.int (XT.cmpL (9223372036854775807 : Int64) (9223372036854775807 : Int64)))])) (fun t k => XT.lcmp X31.here hx rfl (hb hby at_177) rfl k) ?_
      refine Go.pull (V := T31.setTop (mkF m 181 #[iv pw, iv pf, iv 5, iv 1, rv r_ColumnType_BIGINT, .val (.long 9223372036854775807), .second] [])) (fun t k => XS.ifNo X31.here hx rfl (hb hby at_178) rfl (XT.ll_ne_f (by decide)) k) ?_
      refine Go.pull (V := T31.setTop (mkF m 182 #[iv pw, iv pf, iv 5, iv 1, rv r_ColumnType_BIGINT, .val (.long 9223372036854775807), .second] [(.int 1)])) (fun t k => XS.iconst X31.here hx rfl (hb hby at_181) k) ?_
      refine Go.pull (V := T31.setTop (mkF m 186 #[iv pw, iv pf, iv 5, iv 1, rv r_ColumnType_BIGINT, .val (.long 9223372036854775807), .second] [(.int 1)])) (fun t k => XS.goto X31.here hx rfl (pc0 := 182) (pc' := 186) rfl (hb hby at_182) (by decide) (by decide) k) ?_
      exact Go.retN X31 hx Bd.notSynchronized (t := .boolean) Bd.returns (by simp) (hb hby at_186) ⟨rfl, N31⟩ (by decide) (by decide)
set_option maxRecDepth 65536 in
set_option maxHeartbeats 40000000 in
theorem comes_1 {Post : Tables → Env → Array Value → State → Outcome → State → Prop} (hpost : ∀ tb e args s v u, (limb_1_1.after args s (.returned v) u = true ∧ limb_1_2.after args s (.returned v) u = true ∧ True) → FrameEnd s (.returned v) u (Jvm.fieldLocs frame_1_writes args s ++ Jvm.arrayLocs frame_1_arrays args s ++ Jvm.staticLocs frame_1_statics s) 0 0 → Post tb e args s (.returned v) u) :
    ArmFor flags0 classFile x code maxLocals ret World_1 tables_1 room_1 Calls_1 rest_1 Pre_1 Post := by
  intro l hfl _ _ p e ha hc hk s m args below hf hA hF happ hP
  obtain ⟨hcalls, hrest, hpre⟩ := hP
  obtain ⟨-, -, -, hnamed, -, -, -, hat⟩ := (Spec.applies_iff hf).mp happ
  obtain ⟨hg, hn⟩ := and_e (Cond.before_iff.mp (show (Jvm.Cond.and given_1 narrow_1).before args s = true from hpre))
  obtain ⟨y1, y2⟩ := and_e hg
  obtain ⟨y3, y4⟩ := and_e y2
  obtain ⟨y5, y6⟩ := and_e hn
  obtain ⟨y7, y8⟩ := and_e y6
  obtain ⟨y9, y10⟩ := and_e y8
  obtain ⟨y11, y12⟩ := and_e y10
  obtain ⟨y13, y14⟩ := and_e y12
  obtain ⟨y15, y16⟩ := and_e y14
  obtain ⟨y17, y18⟩ := and_e y16
  obtain ⟨y19, y20⟩ := and_e y18
  obtain ⟨y21, y22⟩ := and_e y20
  obtain ⟨y23, y24⟩ := and_e y22
  obtain ⟨y25, y26⟩ := and_e y24
  obtain ⟨w0, w1, rfl⟩ : ∃ w0 w1 : Value, args = #[w0, w1] := by
    have hs : args.size = 2 := by simpa [Cond.value, given_1] using y1
    obtain ⟨L⟩ := args
    match L, hs with
    | [w0, w1], _ => exact ⟨w0, w1, rfl⟩
  have hw := fun d (hd : d ∈ tables_1) => atoms_spec (ws := Jvm.Cond.code x code maxLocals ret :: tables_1) hat d (List.mem_cons_of_mem _ hd)
  have hfit : Fit s := fun {y c} hc i hi => by
    obtain ⟨ha, rfl⟩ := Array.getElem?_eq_some_iff.mp hc
    have q := List.all_eq_true.mp ((Array.all_eq_true_iff_forall_mem.mp hF) _ (Array.getElem_mem ha)) i (List.mem_range.mpr hi)
    simpa [Array.getElem?_eq_getElem hi] using q
  obtain ⟨i0, ei0⟩ := is_v y3
  obtain rfl : w0 = (.int i0) := Option.some.inj ei0
  obtain ⟨i1, ei1⟩ := is_v y4
  obtain rfl : w1 = (.int i1) := Option.some.inj ei1
  obtain ⟨a_ColumnType_TINYINT, ev_a_ColumnType_TINYINT⟩ := exa_v y5
  have EX_a_ColumnType_TINYINT : Exa s s.heap a_ColumnType_TINYINT "com/example/latch/latch/engine/ColumnType" := Exa.start ev_a_ColumnType_TINYINT y5
  have ST_a_ColumnType_TINYINT : Sta s s.heap "com/example/latch/latch/engine/ColumnType" "TINYINT" "Lcom/example/latch/latch/engine/ColumnType;" (.ref a_ColumnType_TINYINT) := Sta.start ev_a_ColumnType_TINYINT (Or.inr ⟨(hw _ (List.mem_of_getElem? (i := 2) rfl)), (hw _ (List.mem_of_getElem? (i := 3) rfl))⟩)
  obtain ⟨a_ColumnType_MEDIUMINT, ev_a_ColumnType_MEDIUMINT⟩ := exa_v y9
  have EX_a_ColumnType_MEDIUMINT : Exa s s.heap a_ColumnType_MEDIUMINT "com/example/latch/latch/engine/ColumnType" := Exa.start ev_a_ColumnType_MEDIUMINT y9
  have ST_a_ColumnType_MEDIUMINT : Sta s s.heap "com/example/latch/latch/engine/ColumnType" "MEDIUMINT" "Lcom/example/latch/latch/engine/ColumnType;" (.ref a_ColumnType_MEDIUMINT) := Sta.start ev_a_ColumnType_MEDIUMINT (Or.inr ⟨(hw _ (List.mem_of_getElem? (i := 2) rfl)), (hw _ (List.mem_of_getElem? (i := 13) rfl))⟩)
  obtain ⟨a_ColumnType_INTEGER, ev_a_ColumnType_INTEGER⟩ := exa_v y13
  have EX_a_ColumnType_INTEGER : Exa s s.heap a_ColumnType_INTEGER "com/example/latch/latch/engine/ColumnType" := Exa.start ev_a_ColumnType_INTEGER y13
  have ST_a_ColumnType_INTEGER : Sta s s.heap "com/example/latch/latch/engine/ColumnType" "INTEGER" "Lcom/example/latch/latch/engine/ColumnType;" (.ref a_ColumnType_INTEGER) := Sta.start ev_a_ColumnType_INTEGER (Or.inr ⟨(hw _ (List.mem_of_getElem? (i := 2) rfl)), (hw _ (List.mem_of_getElem? (i := 17) rfl))⟩)
  obtain ⟨a_ColumnType_SMALLINT, ev_a_ColumnType_SMALLINT⟩ := exa_v y17
  have EX_a_ColumnType_SMALLINT : Exa s s.heap a_ColumnType_SMALLINT "com/example/latch/latch/engine/ColumnType" := Exa.start ev_a_ColumnType_SMALLINT y17
  have ST_a_ColumnType_SMALLINT : Sta s s.heap "com/example/latch/latch/engine/ColumnType" "SMALLINT" "Lcom/example/latch/latch/engine/ColumnType;" (.ref a_ColumnType_SMALLINT) := Sta.start ev_a_ColumnType_SMALLINT (Or.inr ⟨(hw _ (List.mem_of_getElem? (i := 2) rfl)), (hw _ (List.mem_of_getElem? (i := 20) rfl))⟩)
  obtain ⟨a_ColumnType_BIGINT, ev_a_ColumnType_BIGINT⟩ := exa_v y21
  have EX_a_ColumnType_BIGINT : Exa s s.heap a_ColumnType_BIGINT "com/example/latch/latch/engine/ColumnType" := Exa.start ev_a_ColumnType_BIGINT y21
  have ST_a_ColumnType_BIGINT : Sta s s.heap "com/example/latch/latch/engine/ColumnType" "BIGINT" "Lcom/example/latch/latch/engine/ColumnType;" (.ref a_ColumnType_BIGINT) := Sta.start ev_a_ColumnType_BIGINT (Or.inr ⟨(hw _ (List.mem_of_getElem? (i := 2) rfl)), (hw _ (List.mem_of_getElem? (i := 24) rfl))⟩)
  obtain ⟨a_ColumnType_INT, ev_a_ColumnType_INT⟩ := exa_v y25
  have EX_a_ColumnType_INT : Exa s s.heap a_ColumnType_INT "com/example/latch/latch/engine/ColumnType" := Exa.start ev_a_ColumnType_INT y25
  have ST_a_ColumnType_INT : Sta s s.heap "com/example/latch/latch/engine/ColumnType" "INT" "Lcom/example/latch/latch/engine/ColumnType;" (.ref a_ColumnType_INT) := Sta.start ev_a_ColumnType_INT (Or.inr ⟨(hw _ (List.mem_of_getElem? (i := 2) rfl)), (hw _ (List.mem_of_getElem? (i := 28) rfl))⟩)
  have FL_a_ColumnType_TINYINT_m_bits : Fld s s.heap a_ColumnType_TINYINT "com/example/latch/latch/engine/ColumnType" "m_bits" "I" (.int 8) := Fld.start ((fld_at ev_a_ColumnType_TINYINT).symm.trans (own_eq_i y7))
  have FL_a_ColumnType_MEDIUMINT_m_bits : Fld s s.heap a_ColumnType_MEDIUMINT "com/example/latch/latch/engine/ColumnType" "m_bits" "I" (.int 24) := Fld.start ((fld_at ev_a_ColumnType_MEDIUMINT).symm.trans (own_eq_i y11))
  have FL_a_ColumnType_INTEGER_m_bits : Fld s s.heap a_ColumnType_INTEGER "com/example/latch/latch/engine/ColumnType" "m_bits" "I" (.int 32) := Fld.start ((fld_at ev_a_ColumnType_INTEGER).symm.trans (own_eq_i y15))
  have FL_a_ColumnType_SMALLINT_m_bits : Fld s s.heap a_ColumnType_SMALLINT "com/example/latch/latch/engine/ColumnType" "m_bits" "I" (.int 16) := Fld.start ((fld_at ev_a_ColumnType_SMALLINT).symm.trans (own_eq_i y19))
  have FL_a_ColumnType_BIGINT_m_bits : Fld s s.heap a_ColumnType_BIGINT "com/example/latch/latch/engine/ColumnType" "m_bits" "I" (.int 64) := Fld.start ((fld_at ev_a_ColumnType_BIGINT).symm.trans (own_eq_i y23))
  have FL_a_ColumnType_INT_m_bits : Fld s s.heap a_ColumnType_INT "com/example/latch/latch/engine/ColumnType" "m_bits" "I" (.int 32) := Fld.start ((fld_at ev_a_ColumnType_INT).symm.trans (own_eq_i y26))
  obtain ⟨n, o, h1, h2, h3, _, L, rfl, ⟨rfl, N⟩, hq⟩ := rm0 l s _ hw tables_1 i0 i1 a_ColumnType_TINYINT a_ColumnType_MEDIUMINT a_ColumnType_INTEGER a_ColumnType_SMALLINT a_ColumnType_BIGINT a_ColumnType_INT s.heap s.heap.size (Nat.le_refl _) ST_a_ColumnType_TINYINT EX_a_ColumnType_TINYINT ST_a_ColumnType_MEDIUMINT EX_a_ColumnType_MEDIUMINT ST_a_ColumnType_INTEGER EX_a_ColumnType_INTEGER ST_a_ColumnType_SMALLINT EX_a_ColumnType_SMALLINT ST_a_ColumnType_BIGINT EX_a_ColumnType_BIGINT ST_a_ColumnType_INT EX_a_ColumnType_INT FL_a_ColumnType_TINYINT_m_bits FL_a_ColumnType_MEDIUMINT_m_bits FL_a_ColumnType_INTEGER_m_bits FL_a_ColumnType_SMALLINT_m_bits FL_a_ColumnType_BIGINT_m_bits FL_a_ColumnType_INT_m_bits p e ha hc hk s m _ below hf ((Spec.applies_iff_loose hf).mp happ).1 ⟨rfl, State.Warmed39.refl s, rfl⟩ trivial
  refine ⟨n, _, h1, h2, h3, hpost _ _ _ _ _ _ ⟨Cond.after_iff.mpr rfl, Cond.after_iff.mpr (eq_i res_at (Term.int_eval (1)) rfl), trivial⟩ ⟨hq.1, hq.2.1, (hq.2.2.sift fun y hy => Or.inr (N y hy)).mono (by decide) (by decide)⟩⟩
theorem main_1_1 : Claimed_1_1 := comes_1 fun _ _ _ _ _ _ h hF => ⟨h.1, hF⟩
theorem main_1_2 : Claimed_1_2 := comes_1 fun _ _ _ _ _ _ h hF => ⟨h.2.1, hF⟩
end Jvm.Pilot.@@N@@
namespace Jvm.Pilot.@@N@@
open Jvm Jvm.ClassFile Sem Op Lib Jvm.Free Jvm.Stand Jvm.Pilot.@@N@@.Jvm.D
/-! MADE BY PROGRAM (witnessworld.py) out of the Statement's table words and the real class files: 12 classes; the members and pool entries that the words name. The judged class is class 1, her method 1. -/
namespace start1
open Jvm.ClassFile
def u (s : String) : CpInfo := .utf8 (stringToUtf16 s)
/-- a pool by its gaps: so many unusable entries, then the entry; so many at the end -/
def gap : Nat → List CpInfo → List CpInfo
  | 0, r => r
  | n + 1, r => .unusable :: gap n r
def poolList (es : List (Nat × CpInfo)) (last : Nat) : List CpInfo := es.foldr (fun e r => gap e.1 (e.2 :: r)) (gap last [])
def pool (es : List (Nat × CpInfo)) (last : Nat) : Array CpInfo := ⟨poolList es last⟩
def fileOf (pool : Array CpInfo) (this : Nat) (attrs : Array Attribute := #[]) (ms : Array MethodInfo := #[]) (fl : Nat := 33) (sup : Nat := 0) (ifs : Array Nat := #[]) (fds : Array FieldInfo := #[]) : ClassFile where
  minorVersion := 0
  majorVersion := 65
  constantPool := pool
  accessFlags := fl
  thisClass := this
  superClass := sup
  interfaces := ifs
  fields := fds
  methods := ms
  attributes := attrs
def plain (name : String) (sup : Option ClassId) : Class where
  name := name
  kind := .ordinary
  loader := none
  accessFlags := 33
  super := sup
  interfaces := #[]
  cf := none
  fields := #[]
  methods := #[]
  instanceTypes := #[]
  staticTypes := #[]
  resolved := #[]
  callSites := []
  init := .initialized
  statics := none
  mirror := none

def pool0 : Array CpInfo := pool [(5, u "<init>"), (0, u "()V"), (1, .class_ 10), (1, u "java/lang/Object")] 113

def k0m0 : Method := { name := "<init>", desc := "()V", sig := { parameters := [], returnType := none }, accessFlags := 1, code := none }
/-- java/lang/Object -/
def k0 : Class := { plain "java/lang/Object" none with
  accessFlags := 33
  interfaces := #[]
  cf := some (fileOf pool0 8 #[] #[{ accessFlags := 1, nameIndex := 5, descriptorIndex := 6, attributes := #[] }] 33 0 #[] #[])
  fields := #[]
  methods := #[k0m0]
  instanceTypes := #[]
  staticTypes := #[]
  resolved := Array.replicate 124 none
  statics := none }

def pool1 : Array CpInfo := pool [(2, .class_ 4), (1, u "java/lang/Object"), (0, u "<init>"), (0, u "()V"), (0, .integer 2147483647), (0, .fieldref 9 10), (0, .class_ 11), (0, .nameAndType 12 13), (0, u "com/example/latch/latch/engine/ColumnType"), (0, u "TINYINT"), (0, u "Lcom/example/latch/latch/engine/ColumnType;"), (0, .long 255), (1, .long 127), (1, .fieldref 9 19), (0, .nameAndType 20 13), (0, u "SMALLINT"), (0, .long 65535), (1, .long 32767), (1, .fieldref 9 26), (0, .nameAndType 27 13), (0, u "MEDIUMINT"), (0, .long 16777215), (1, .long 8388607), (1, .fieldref 9 33), (0, .nameAndType 34 13), (0, u "INT"), (0, .long 4294967295), (1, .long 2147483647), (1, .fieldref 9 40), (0, .nameAndType 41 13), (0, u "INTEGER"), (0, .fieldref 9 43), (0, .nameAndType 44 13), (0, u "BIGINT"), (0, .long 9223372036854775807), (1, .methodref 9 48), (0, .nameAndType 49 50), (0, u "maxValue"), (0, u "(Z)J"), (0, .class_ 52), (0, u "com/example/latch/latch/engine/ColumnTypeMaxValuePinLaw"), (2, u "law"), (0, u "(II)Z")] 3

def k1m0 : Method := { name := "<init>", desc := "()V", sig := { parameters := [], returnType := none }, accessFlags := 1, code := none }
def k1c1 : Code := { maxStack := 4, maxLocals := 7, code := code, exceptionTable := #[], attributes := #[] }
def k1m1 : Method := { name := "law", desc := "(II)Z", sig := { parameters := [.int, .int], returnType := some .boolean }, accessFlags := 9, code := some k1c1 }
/-- com/example/latch/latch/engine/ColumnTypeMaxValuePinLaw -/
def k1 : Class := { plain "com/example/latch/latch/engine/ColumnTypeMaxValuePinLaw" (some 0) with
  accessFlags := 49
  interfaces := #[]
  cf := some (fileOf pool1 51 #[] #[{ accessFlags := 1, nameIndex := 5, descriptorIndex := 6, attributes := #[] }, { accessFlags := 9, nameIndex := 55, descriptorIndex := 56, attributes := #[] }] 49 2 #[] #[])
  fields := #[]
  methods := #[k1m0, k1m1]
  instanceTypes := #[]
  staticTypes := #[]
  resolved := Array.replicate 60 none
  statics := none }

def pool2 : Array CpInfo := pool [(1, .class_ 2), (0, u "java/lang/constant/Constable"), (0, .class_ 4), (0, u "java/lang/Object")] 6

/-- java/lang/constant/Constable -/
def k2 : Class := { plain "java/lang/constant/Constable" (some 0) with
  accessFlags := 1537
  interfaces := #[]
  cf := some (fileOf pool2 1 #[] #[] 1537 3 #[] #[])
  fields := #[]
  methods := #[]
  instanceTypes := #[]
  staticTypes := #[]
  resolved := Array.replicate 11 none
  statics := none }

def pool3 : Array CpInfo := pool [(1, .class_ 2), (0, u "java/lang/Comparable"), (0, .class_ 4), (0, u "java/lang/Object")] 7

/-- java/lang/Comparable -/
def k3 : Class := { plain "java/lang/Comparable" (some 0) with
  accessFlags := 1537
  interfaces := #[]
  cf := some (fileOf pool3 1 #[] #[] 1537 3 #[] #[])
  fields := #[]
  methods := #[]
  instanceTypes := #[]
  staticTypes := #[]
  resolved := Array.replicate 12 none
  statics := none }

def pool4 : Array CpInfo := pool [(1, .class_ 2), (0, u "java/io/Serializable"), (0, .class_ 4), (0, u "java/lang/Object")] 2

/-- java/io/Serializable -/
def k4 : Class := { plain "java/io/Serializable" (some 0) with
  accessFlags := 1537
  interfaces := #[]
  cf := some (fileOf pool4 1 #[] #[] 1537 3 #[] #[])
  fields := #[]
  methods := #[]
  instanceTypes := #[]
  staticTypes := #[]
  resolved := Array.replicate 7 none
  statics := none }

def pool5 : Array CpInfo := pool [(2, .class_ 4), (1, u "java/lang/Enum"), (0, u "name"), (0, u "Ljava/lang/String;"), (2, u "ordinal"), (0, u "I"), (1, .class_ 14), (1, u "java/lang/Object"), (4, u "hash"), (86, .class_ 108), (1, u "java/lang/Enum$EnumDesc"), (2, .class_ 112), (0, u "java/lang/constant/Constable"), (0, .class_ 114), (0, u "java/lang/Comparable"), (0, .class_ 116), (0, u "java/io/Serializable")] 87

/-- java/lang/Enum -/
def k5 : Class := { plain "java/lang/Enum" (some 0) with
  accessFlags := 1057
  interfaces := #[2, 3, 4]
  cf := some (fileOf pool5 2 #[.nestMembers #[106]] #[] 1057 12 #[111, 113, 115] #[{ accessFlags := 18, nameIndex := 5, descriptorIndex := 6, attributes := #[] }, { accessFlags := 18, nameIndex := 9, descriptorIndex := 10, attributes := #[] }, { accessFlags := 2, nameIndex := 19, descriptorIndex := 10, attributes := #[] }])
  fields := #[{ name := "name", type := (.object "java/lang/String"), accessFlags := 18, slot := 0, constantValue := 0 }, { name := "ordinal", type := .int, accessFlags := 18, slot := 1, constantValue := 0 }, { name := "hash", type := .int, accessFlags := 2, slot := 2, constantValue := 0 }]
  methods := #[]
  instanceTypes := #[(.object "java/lang/String"), .int, .int]
  staticTypes := #[]
  resolved := Array.replicate 204 none
  statics := none }

def pool6 : Array CpInfo := pool [(1, .class_ 2), (0, u "com/example/latch/latch/engine/ColumnType"), (2, u "TINYINT"), (0, u "Lcom/example/latch/latch/engine/ColumnType;"), (2, u "SMALLINT"), (2, u "MEDIUMINT"), (2, u "INT"), (2, u "INTEGER"), (2, u "BIGINT"), (2, u "DECIMAL"), (2, u "DOUBLE"), (2, u "CHAR"), (2, u "VARCHAR"), (2, u "TEXT"), (2, u "BLOB"), (2, u "DATE"), (2, u "DATETIME"), (2, u "TIMESTAMP"), (2, u "$VALUES"), (0, u "[Lcom/example/latch/latch/engine/ColumnType;"), (6, .class_ 61), (1, u "java/lang/Enum"), (8, u "m_family"), (0, u "Lcom/example/latch/latch/engine/ColumnType$Family;"), (2, u "m_minParameters"), (0, u "I"), (2, u "m_maxParameters"), (2, u "m_sqlType"), (2, u "m_defaultPrecision"), (0, .fieldref 1 86), (0, .nameAndType 87 75), (0, u "m_bits"), (29, .class_ 119), (1, u "com/example/latch/latch/engine/ColumnType$Family"), (2, u "maxValue"), (0, u "(Z)J"), (42, .long 9223372036854775807), (31, u "MAX_DECIMAL_PRECISION"), (2, u "MAX_DECIMAL_SCALE")] 42

def k6c0 : Code := { maxStack := 4, maxLocals := 2, code := prog_48_method_14_code, exceptionTable := #[], attributes := #[] }
def k6m0 : Method := { name := "maxValue", desc := "(Z)J", sig := { parameters := [.boolean], returnType := some .long }, accessFlags := 0, code := some k6c0 }
/-- com/example/latch/latch/engine/ColumnType -/
def k6 : Class := { plain "com/example/latch/latch/engine/ColumnType" (some 5) with
  accessFlags := 16432
  interfaces := #[]
  cf := some (fileOf pool6 1 #[.nestMembers #[117]] #[{ accessFlags := 0, nameIndex := 122, descriptorIndex := 123, attributes := #[] }] 16432 59 #[] #[{ accessFlags := 16409, nameIndex := 5, descriptorIndex := 6, attributes := #[] }, { accessFlags := 16409, nameIndex := 9, descriptorIndex := 6, attributes := #[] }, { accessFlags := 16409, nameIndex := 12, descriptorIndex := 6, attributes := #[] }, { accessFlags := 16409, nameIndex := 15, descriptorIndex := 6, attributes := #[] }, { accessFlags := 16409, nameIndex := 18, descriptorIndex := 6, attributes := #[] }, { accessFlags := 16409, nameIndex := 21, descriptorIndex := 6, attributes := #[] }, { accessFlags := 16409, nameIndex := 24, descriptorIndex := 6, attributes := #[] }, { accessFlags := 16409, nameIndex := 27, descriptorIndex := 6, attributes := #[] }, { accessFlags := 16409, nameIndex := 30, descriptorIndex := 6, attributes := #[] }, { accessFlags := 16409, nameIndex := 33, descriptorIndex := 6, attributes := #[] }, { accessFlags := 16409, nameIndex := 36, descriptorIndex := 6, attributes := #[] }, { accessFlags := 16409, nameIndex := 39, descriptorIndex := 6, attributes := #[] }, { accessFlags := 16409, nameIndex := 42, descriptorIndex := 6, attributes := #[] }, { accessFlags := 16409, nameIndex := 45, descriptorIndex := 6, attributes := #[] }, { accessFlags := 16409, nameIndex := 48, descriptorIndex := 6, attributes := #[] }, { accessFlags := 24, nameIndex := 198, descriptorIndex := 75, attributes := #[] }, { accessFlags := 24, nameIndex := 201, descriptorIndex := 75, attributes := #[] }, { accessFlags := 18, nameIndex := 70, descriptorIndex := 71, attributes := #[] }, { accessFlags := 18, nameIndex := 74, descriptorIndex := 75, attributes := #[] }, { accessFlags := 18, nameIndex := 78, descriptorIndex := 75, attributes := #[] }, { accessFlags := 18, nameIndex := 81, descriptorIndex := 75, attributes := #[] }, { accessFlags := 18, nameIndex := 84, descriptorIndex := 75, attributes := #[] }, { accessFlags := 18, nameIndex := 87, descriptorIndex := 75, attributes := #[] }, { accessFlags := 4122, nameIndex := 51, descriptorIndex := 52, attributes := #[] }])
  fields := #[{ name := "TINYINT", type := (.object "com/example/latch/latch/engine/ColumnType"), accessFlags := 16409, slot := 0, constantValue := 0 }, { name := "SMALLINT", type := (.object "com/example/latch/latch/engine/ColumnType"), accessFlags := 16409, slot := 1, constantValue := 0 }, { name := "MEDIUMINT", type := (.object "com/example/latch/latch/engine/ColumnType"), accessFlags := 16409, slot := 2, constantValue := 0 }, { name := "INT", type := (.object "com/example/latch/latch/engine/ColumnType"), accessFlags := 16409, slot := 3, constantValue := 0 }, { name := "INTEGER", type := (.object "com/example/latch/latch/engine/ColumnType"), accessFlags := 16409, slot := 4, constantValue := 0 }, { name := "BIGINT", type := (.object "com/example/latch/latch/engine/ColumnType"), accessFlags := 16409, slot := 5, constantValue := 0 }, { name := "DECIMAL", type := (.object "com/example/latch/latch/engine/ColumnType"), accessFlags := 16409, slot := 6, constantValue := 0 }, { name := "DOUBLE", type := (.object "com/example/latch/latch/engine/ColumnType"), accessFlags := 16409, slot := 7, constantValue := 0 }, { name := "CHAR", type := (.object "com/example/latch/latch/engine/ColumnType"), accessFlags := 16409, slot := 8, constantValue := 0 }, { name := "VARCHAR", type := (.object "com/example/latch/latch/engine/ColumnType"), accessFlags := 16409, slot := 9, constantValue := 0 }, { name := "TEXT", type := (.object "com/example/latch/latch/engine/ColumnType"), accessFlags := 16409, slot := 10, constantValue := 0 }, { name := "BLOB", type := (.object "com/example/latch/latch/engine/ColumnType"), accessFlags := 16409, slot := 11, constantValue := 0 }, { name := "DATE", type := (.object "com/example/latch/latch/engine/ColumnType"), accessFlags := 16409, slot := 12, constantValue := 0 }, { name := "DATETIME", type := (.object "com/example/latch/latch/engine/ColumnType"), accessFlags := 16409, slot := 13, constantValue := 0 }, { name := "TIMESTAMP", type := (.object "com/example/latch/latch/engine/ColumnType"), accessFlags := 16409, slot := 14, constantValue := 0 }, { name := "MAX_DECIMAL_PRECISION", type := .int, accessFlags := 24, slot := 15, constantValue := 0 }, { name := "MAX_DECIMAL_SCALE", type := .int, accessFlags := 24, slot := 16, constantValue := 0 }, { name := "m_family", type := (.object "com/example/latch/latch/engine/ColumnType$Family"), accessFlags := 18, slot := 3, constantValue := 0 }, { name := "m_minParameters", type := .int, accessFlags := 18, slot := 4, constantValue := 0 }, { name := "m_maxParameters", type := .int, accessFlags := 18, slot := 5, constantValue := 0 }, { name := "m_sqlType", type := .int, accessFlags := 18, slot := 6, constantValue := 0 }, { name := "m_defaultPrecision", type := .int, accessFlags := 18, slot := 7, constantValue := 0 }, { name := "m_bits", type := .int, accessFlags := 18, slot := 8, constantValue := 0 }, { name := "$VALUES", type := (.array (.object "com/example/latch/latch/engine/ColumnType")), accessFlags := 4122, slot := 17, constantValue := 0 }]
  methods := #[k6m0]
  instanceTypes := #[(.object "java/lang/String"), .int, .int, (.object "com/example/latch/latch/engine/ColumnType$Family"), .int, .int, .int, .int, .int]
  staticTypes := #[(.object "com/example/latch/latch/engine/ColumnType"), (.object "com/example/latch/latch/engine/ColumnType"), (.object "com/example/latch/latch/engine/ColumnType"), (.object "com/example/latch/latch/engine/ColumnType"), (.object "com/example/latch/latch/engine/ColumnType"), (.object "com/example/latch/latch/engine/ColumnType"), (.object "com/example/latch/latch/engine/ColumnType"), (.object "com/example/latch/latch/engine/ColumnType"), (.object "com/example/latch/latch/engine/ColumnType"), (.object "com/example/latch/latch/engine/ColumnType"), (.object "com/example/latch/latch/engine/ColumnType"), (.object "com/example/latch/latch/engine/ColumnType"), (.object "com/example/latch/latch/engine/ColumnType"), (.object "com/example/latch/latch/engine/ColumnType"), (.object "com/example/latch/latch/engine/ColumnType"), .int, .int, (.array (.object "com/example/latch/latch/engine/ColumnType"))]
  resolved := Array.replicate 244 none
  statics := some 0 }

def pool7 : Array CpInfo := pool [(1, u "java/lang/Cloneable"), (0, .class_ 1), (0, u "java/lang/Object"), (0, .class_ 3)] 3

/-- java/lang/Cloneable -/
def k7 : Class := { plain "java/lang/Cloneable" (some 0) with
  accessFlags := 1537
  interfaces := #[]
  cf := some (fileOf pool7 2 #[] #[] 1537 4 #[] #[])
  fields := #[]
  methods := #[]
  instanceTypes := #[]
  staticTypes := #[]
  resolved := Array.replicate 8 none
  statics := none }

/-- the primitive byte -/
def k8 : Class := { plain "byte" none with kind := .primitive 'B', accessFlags := 0x411 }
/-- [B -/
def k9 : Class := { plain "[B" (some 0) with kind := .array 8 .byte, interfaces := #[7, 4], accessFlags := 1041 }

/-- the primitive int -/
def k10 : Class := { plain "int" none with kind := .primitive 'I', accessFlags := 0x411 }
/-- [I -/
def k11 : Class := { plain "[I" (some 0) with kind := .array 10 .int, interfaces := #[7, 4], accessFlags := 1041 }

def heap : Heap := #[{ cls := 6, slots := #[.ref 1, .ref 4, .ref 2, .ref 6, .ref 3, .ref 5, .null, .null, .null, .null, .null, .null, .null, .null, .null, .int 0, .int 0, .null], vm := .statics 6 },
  { cls := 6, slots := #[.null, .int 0, .int 0, .null, .int 0, .int 0, .int 0, .int 0, .int 8], vm := .none },
  { cls := 6, slots := #[.null, .int 0, .int 0, .null, .int 0, .int 0, .int 0, .int 0, .int 24], vm := .none },
  { cls := 6, slots := #[.null, .int 0, .int 0, .null, .int 0, .int 0, .int 0, .int 0, .int 32], vm := .none },
  { cls := 6, slots := #[.null, .int 0, .int 0, .null, .int 0, .int 0, .int 0, .int 0, .int 16], vm := .none },
  { cls := 6, slots := #[.null, .int 0, .int 0, .null, .int 0, .int 0, .int 0, .int 0, .int 64], vm := .none },
  { cls := 6, slots := #[.null, .int 0, .int 0, .null, .int 0, .int 0, .int 0, .int 0, .int 32], vm := .none }]
def classes : Array Class := #[k0, k1, k2, k3, k4, k5, k6, k7, k8, k9, k10, k11]
def interned : List (Array UInt16 × Addr) := []
def slotsUsed : Nat := 72
def theMethod : MethodId := ⟨1, 1⟩
def args0 : Array Value := #[.int 2, .int 1]
def aboutOver (below : List Frame) : State where
  vm := { classes := classes, interned := interned.toArray }
  heap := heap
  slotsUsed := slotsUsed
  threads := #[{ frames := .invoking theMethod args0 :: below }]
def below0 : List Frame := [.native { method := ⟨0, 0⟩, args := #[] }]
def about1 : State := aboutOver below0
def p0 : Program := .bare "" "" ""
def e0 : Env := launch0.env 0 0 0
theorem w_frames : about1.frames = Frame.invoking theMethod args0 :: below0 := rfl
set_option maxRecDepth 65536 in
theorem w_args : argsFit about1.vm theMethod args0 = true := by decide +kernel
set_option maxRecDepth 65536 in
theorem w_heap : heapFits about1 = true := by decide +kernel
set_option maxRecDepth 65536 in
theorem w_runnable : about1.curStatus? = some .runnable := by decide +kernel
set_option maxRecDepth 65536 in
theorem w_alone : about1.alone = true := by decide +kernel
set_option maxRecDepth 65536 in
theorem w_named : about1.methodNamed? x = some theMethod := by decide +kernel
set_option maxRecDepth 65536 in
theorem w_hears : about1.hears theMethod below0 = true := by decide +kernel
set_option maxRecDepth 65536 in
theorem w_ripe : about1.ripe theMethod args0 below0 = true := by decide +kernel
theorem w_running : about1.status = .running := rfl
set_option maxRecDepth 65536 in
theorem w_room : about1.hasRoom e0.platform room_1 = true :=
  launch0.hasRoom_least _ room_1 (by decide +kernel) (by decide +kernel) (by decide +kernel) (by decide +kernel) (by decide +kernel) (by decide +kernel)
theorem allAtoms_all (ts : List Jvm.Cond) (a : Array Jvm.Value) (st : Jvm.State) : (allAtoms ts).before a st = ts.all (fun c => c.before a st) := by
  induction ts with
  | nil => rfl
  | cons c t ih =>
    show (Jvm.Cond.and c (allAtoms t)).before a st = _
    rw [Jvm.Cond.before_and, ih, List.all_cons]
def words1 : List Jvm.Cond := Jvm.Cond.code x code maxLocals ret :: tables_1
/-- a 'code' word, met by the world's own term for the bytes: nothing is compared byte by byte -/
theorem code_word {y : MethodName} {bytes : ByteArray} {mx : Nat} {rt : Option FieldType} {a : Array Value} {s : State} {m : MethodId} {meth : Method} {c : Code} (h1 : s.methodNamed? y = some m) (h2 : s.vm.method? m = some meth) (h3 : meth.code = some c) (h4 : c.code = bytes)
    (h5 : (c.maxLocals == mx && c.exceptionTable.isEmpty && decide (c.maxStack ≤ mostOperands) && decide (meth.sig.returnType = rt) && !meth.locks && decide (parseMethodDescriptor y.desc = some meth.sig)) = true) : (Jvm.Cond.code y bytes mx rt).before a s = true := by
  simp only [Bool.and_eq_true, beq_iff_eq, Bool.not_eq_true', decide_eq_true_eq] at h5
  obtain ⟨⟨⟨⟨⟨g1, g2⟩, g3⟩, g4⟩, g5⟩, g6⟩ := h5
  simp [Cond.before, Cond.holds, Cond.value, h1, h2, h3, h4, g1, g2, g3, g4, g5, g6]
def isCode : Jvm.Cond → Bool
  | .code _ _ _ _ => true
  | _ => false
theorem all_split {L : List Jvm.Cond} {P : Jvm.Cond → Bool} (h1 : L.all (fun c => isCode c || P c) = true) (h2 : ∀ c ∈ L.filter isCode, P c = true) : L.all P = true := by
  refine List.all_eq_true.mpr fun c hc => ?_
  have h := List.all_eq_true.mp h1 c hc
  rcases Bool.eq_false_or_eq_true (isCode c) with hi | hi
  · exact h2 c (List.mem_filter.mpr ⟨hc, hi⟩)
  · simpa [hi] using h
set_option maxRecDepth 65536 in
theorem w_c0 : (Jvm.Cond.code x code maxLocals ret).before args0 about1 = true := code_word (m := ⟨1, 1⟩) (meth := k1m1) (c := k1c1) (by decide +kernel) rfl rfl rfl (by decide +kernel)
set_option maxRecDepth 65536 in
theorem w_c1 : (Jvm.Cond.code ({ cls := "com/example/latch/latch/engine/ColumnType", name := "maxValue", desc := "(Z)J" } : Jvm.MethodName) prog_48_method_14_code (2 : Nat) (Option.some Jvm.ClassFile.FieldType.long)).before args0 about1 = true := code_word (m := ⟨6, 0⟩) (meth := k6m0) (c := k6c0) (by decide +kernel) rfl rfl rfl (by decide +kernel)
def codes1 : List Jvm.Cond := [Jvm.Cond.code x code maxLocals ret, Jvm.Cond.code ({ cls := "com/example/latch/latch/engine/ColumnType", name := "maxValue", desc := "(Z)J" } : Jvm.MethodName) prog_48_method_14_code (2 : Nat) (Option.some Jvm.ClassFile.FieldType.long)]
set_option maxRecDepth 65536 in
theorem codes_eq : words1.filter isCode = codes1 := rfl
theorem w_codes : ∀ c ∈ words1.filter isCode, c.before args0 about1 = true := by
  rw [codes_eq]
  intro c hc
  simp only [codes1, List.mem_cons, List.not_mem_nil, or_false] at hc
  rcases hc with rfl | rfl
  · exact w_c0
  · exact w_c1
set_option maxRecDepth 65536 in
theorem w_t1 : (words1.take 24).all (fun c => isCode c || c.before args0 about1) = true := by decide +kernel
set_option maxRecDepth 65536 in
theorem w_t2 : (words1.drop 24).all (fun c => isCode c || c.before args0 about1) = true := by decide +kernel
theorem w_tables : (allAtoms (Jvm.Cond.code x code maxLocals ret :: tables_1)).before args0 about1 = true := by
  rw [allAtoms_all]
  show words1.all (fun c => c.before args0 about1) = true
  refine all_split ?_ w_codes
  rw [← List.take_append_drop 24 words1, List.all_append, w_t1, w_t2]
  rfl
set_option maxRecDepth 65536 in
theorem w_case : (Jvm.Cond.and given_1 narrow_1).before args0 about1 = true := by decide +kernel
theorem w_applies : (headSpec (Jvm.Cond.code x code maxLocals ret :: tables_1) room_1).applies x e0.platform about1 = true :=
  (Spec.applies_iff w_frames).mpr ⟨w_running, w_runnable, w_alone, w_named, w_hears, w_ripe, w_room, w_tables⟩
theorem atStart : AtStart classFile x code maxLocals ret World_1 tables_1 room_1 Calls_1 rest_1 Pre_1 launch0 p0 e0 about1 theMethod args0 below0 :=
  ⟨lists_1, trivial, launch0.admits_env _ _ _, launch0.least_env, fairChoices_fair.cas, fairChoices_fair.clock, w_frames, w_args, w_heap, w_applies, trivial, trivial, w_case⟩
end start1
theorem witness_1 : WitnessClaimed_1 := ⟨start1.p0, start1.e0, start1.about1, start1.theMethod, start1.args0, start1.below0, start1.atStart⟩
end Jvm.Pilot.@@N@@
