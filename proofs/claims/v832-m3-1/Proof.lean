import JvmDerived
import JvmDerived.Pilot.@@N@@Statement
import JvmDerived.Pilot.@@N@@Code
set_option linter.unusedVariables false
set_option linter.unusedSimpArgs false
namespace Jvm.Pilot.@@N@@
open Jvm Jvm.ClassFile Sem Op Lib Jvm.Free Jvm.Stand Jvm.LawKit Jvm.RoadKit Bundle Jvm.Pilot.@@N@@.Jvm.D
section Own
variable {p : Program} {l : Launch} {e : Env} {R : Room} {s : State} {m : MethodId} {args : Array Value} {below : List Frame} {meth : Method} {c : Code} {T : State} {locs : List Loc} {cells slots : Nat} {P : Option Value → Heap → List Loc → Prop} {kk nn : Nat}
/-- from U a run comes to an end at which P holds, within kk cells and nn slots -/
def Go (p : Program) (e : Env) (below : List Frame) (s : State) (P : Option Value → Heap → List Loc → Prop) (kk nn : Nat) (U : State) : Prop :=
  ∃ s₂ o, Steps p.tables e below U s₂ ∧ s₂.status = .running ∧ Ended s₂ below o ∧ ∃ v L, o = .returned v ∧ P v s₂.heap L ∧ FrameEnd s o s₂ L kk nn
theorem Go.pull {U V : State} (h : ∀ t, Steps p.tables e below V t → Steps p.tables e below U t) (g : Go p e below s P kk nn V) : Go p e below s P kk nn U := by
  obtain ⟨s2, o, h1, h2⟩ := g
  exact ⟨s2, o, h _ h1, h2⟩
theorem Go.fin (X : Stand p l e R s m args below meth c T locs cells slots) {f : JFrame} {v : Option Value} (hlk : meth.locks = false) (hv : meth.sig.returnType = none → v = none)
    (hs : ∀ fs, (∀ (f : JFrame) (acts : List Action), f.method = m → f.locked = none → f.entered = [] → (doReturn e (T.setTop f) acts v).1 = T.setFrames fs) → Steps p.tables e below (T.setTop f) (T.setFrames fs))
    (hP : P v T.heap locs) (hk : cells ≤ kk) (hn : slots ≤ nn) : Go p e below s P kk nn (T.setTop f) := by
  obtain ⟨fs, hr, hrun, hended, hW, hsame⟩ := X.leave (v := v) hv hlk
  exact ⟨_, _, hs fs hr, hrun, hended, _, _, rfl, hP, ⟨_, rfl⟩, hW, hsame.mono hk hn⟩
theorem Go.retN (X : Stand p l e R s m args below meth c T locs cells slots) (hx : p.tables.exec = Jvm.exec) (hlk : meth.locks = false) {pc : Nat} {Ls : Array Slot} {z : Int32} {t : FieldType} {rest : List Value} (hret : meth.sig.returnType = some t) (ht : t = .boolean ∨ t = .byte ∨ t = .char ∨ t = .short)
    (hd : decode c.code pc = .ok (.ireturn, 1)) (hP : P (some (.int (nar t z))) T.heap locs) (hk : cells ≤ kk) (hn : slots ≤ nn) : Go p e below s P kk nn (T.setTop (mkF m pc Ls (.int z :: rest))) :=
  Go.fin X hlk (fun h => by rw [hret] at h; cases h) (fun fs hr => RoadKit.retN X hx hret ht hd hr) hP hk hn
theorem Go.retI (X : Stand p l e R s m args below meth c T locs cells slots) (hx : p.tables.exec = Jvm.exec) (hlk : meth.locks = false) {pc : Nat} {Ls : Array Slot} {z : Int32} {rest : List Value} (hret : meth.sig.returnType = some .int)
    (hd : decode c.code pc = .ok (.ireturn, 1)) (hP : P (some (.int z)) T.heap locs) (hk : cells ≤ kk) (hn : slots ≤ nn) : Go p e below s P kk nn (T.setTop (mkF m pc Ls (.int z :: rest))) :=
  Go.fin X hlk (fun h => by rw [hret] at h; cases h) (fun fs hr => retOut X hx hret rfl (Or.inl ⟨rfl, Or.inl rfl, z, rfl⟩) hd hr) hP hk hn
theorem Go.retJ (X : Stand p l e R s m args below meth c T locs cells slots) (hx : p.tables.exec = Jvm.exec) (hlk : meth.locks = false) {pc : Nat} {Ls : Array Slot} {z : Int64} {rest : List Value} (hret : meth.sig.returnType = some .long)
    (hd : decode c.code pc = .ok (.lreturn, 1)) (hP : P (some (.long z)) T.heap locs) (hk : cells ≤ kk) (hn : slots ≤ nn) : Go p e below s P kk nn (T.setTop (mkF m pc Ls (.long z :: rest))) :=
  Go.fin X hlk (fun h => by rw [hret] at h; cases h) (fun fs hr => retOut X hx hret rfl (Or.inr (Or.inl ⟨rfl, rfl, z, rfl⟩)) hd hr) hP hk hn
theorem Go.retR (X : Stand p l e R s m args below meth c T locs cells slots) (hx : p.tables.exec = Jvm.exec) (hlk : meth.locks = false) {pc : Nat} {Ls : Array Slot} {w : Value} {t : FieldType} {rest : List Value} (hret : meth.sig.returnType = some t) (hna : narrow t w = w) (ht : t.isReference = true) (hw : w.isRef = true)
    (hd : decode c.code pc = .ok (.areturn, 1)) (hP : P (some w) T.heap locs) (hk : cells ≤ kk) (hn : slots ≤ nn) : Go p e below s P kk nn (T.setTop (mkF m pc Ls (w :: rest))) :=
  Go.fin X hlk (fun h => by rw [hret] at h; cases h) (fun fs hr => retOut X hx hret hna (Or.inr (Or.inr (Or.inr (Or.inr ⟨rfl, ht, hw⟩)))) hd hr) hP hk hn
theorem Go.ret0 (X : Stand p l e R s m args below meth c T locs cells slots) (hx : p.tables.exec = Jvm.exec) (hlk : meth.locks = false) {pc : Nat} {Ls : Array Slot} (hret : meth.sig.returnType = none)
    (hd : decode c.code pc = .ok (.return_, 1)) (hP : P none T.heap locs) (hk : cells ≤ kk) (hn : slots ≤ nn) : Go p e below s P kk nn (T.setTop (mkF m pc Ls [])) :=
  Go.fin X hlk (fun _ => rfl) (fun fs hr => X.returnOut hx hret hd hr) hP hk hn
theorem own_lsw {tb : Tables} [Ours tb] {e : Env} {below : List Frame} {T target : State} {m : MethodId} {c : Code} {g : JFrame} (h : At T m c below) (hx : tb.exec = Jvm.exec) (hg : g.method = m) {dflt : Int} {prs : Array (Int × Int)} {len : Nat} {o : Int} {pc0 pc' : Nat} (hpc : g.pc = pc0)
    (hd : decode c.code g.pc = .ok (.lookupswitch dflt prs, len)) {i : Int32} {rest : List Value} (hs : g.stack = .int i :: rest) (hord : (prs.toList.zip (prs.toList.drop 1)).all (fun (a, next) => a.1 < next.1) = true) (hoff : lookupswitch.offset prs.toList dflt i.toInt = o)
    (ho : 0 ≤ (pc0 : Int) + o) (hp : ((pc0 : Int) + o).toNat = pc') (hr : Steps tb e below (T.setTop { g with pc := pc', stack := rest }) target) : Steps tb e below (T.setTop g) target := by
  subst hg hpc hp hoff
  jvm_step h [h.top, hx, hd, hs, ho, lookupswitch.wp_chain]
  exact ⟨by simpa using hord, hr⟩
theorem own_eq_i {t : Term} {n : Int32} {first : State} {o : Option Outcome} {idx : List Nat} (h : (Cond.eq t (.int n)).value args first o s idx = some true) : t.eval args first o idx s = some (.int n) := by
  obtain ⟨x, y, e1, e2, k1, k2⟩ := cmp_v (Or.inl h)
  cases (Term.int_eval n).symm.trans e2
  obtain ⟨z, rfl⟩ : ∃ z, x = .int z := k2
  rw [e1, gotT (Cond.eq_ints e1 e2) h]
theorem own_eq_l {t : Term} {n : Int64} {first : State} {o : Option Outcome} {idx : List Nat} (h : (Cond.eq t (.long n)).value args first o s idx = some true) : t.eval args first o idx s = some (.long n) := by
  obtain ⟨x, y, e1, e2, k1, k2⟩ := cmp_v (Or.inl h)
  have e3 : (Term.long n).eval args first o idx s = some (.long n) := rfl
  cases e3.symm.trans e2
  obtain ⟨z, rfl⟩ : ∃ z, x = .long z := k2
  rw [e1, gotT (eq_L e1 e2) h]
theorem own_eq_r {t u : Term} {a : Addr} {first : State} {o : Option Outcome} {idx : List Nat} (hu : u.eval args first o idx s = some (.ref a)) (h : (Cond.eq t u).value args first o s idx = some true) : t.eval args first o idx s = some (.ref a) := by
  obtain ⟨x, y, e1, e2, k1, k2⟩ := cmp_v (Or.inl h)
  cases hu.symm.trans e2
  have k3 : (Value.ref a).isRef = true ∧ x.isRef = true := k2
  rw [e1, gotT (eq_R e1 e2 k3.2 rfl) h]
theorem own_sta_keep {Z : State} {h h' : Heap} {C n d : String} {w : Value} {ws : List Addr} (F : Sta Z h C n d w) (K : Keep h h' ws) (q : ∀ x ∈ ws, ∃ c : Cell, h[x]? = some c ∧ ∀ q, c.vm ≠ .statics q) : Sta Z h' C n d w := by
  obtain ⟨cf, i, k, f, st, cell, h1, h2, h3, h4, h5, h6, h7⟩ := F
  refine ⟨cf, i, k, f, st, cell, h1, h2, h3, h4, K.2.1 st cell h5 (fun hm => ?_), h6, h7⟩
  obtain ⟨c, hc, hq⟩ := q st hm
  cases h5.symm.trans hc
  cases hv : cell.vm with
  | statics r => exact hq r hv
  | _ => rw [hv] at h6; cases h6
end Own
theorem pd_0 : parseMethodDescriptor "(I)Lcom/example/tagwire/tagwire/WireType;" = some ⟨[.int], some (.object "com/example/tagwire/tagwire/WireType")⟩ := by decide +kernel
theorem pd_1 : parseMethodDescriptor "()I" = some ⟨[], some .int⟩ := by decide +kernel
def own_of (r_WireType_VARINT r_WireType_FIXED64 r_WireType_LENGTH_DELIMITED r_WireType_START_GROUP r_WireType_END_GROUP r_WireType_FIXED32 : Addr) (pn : Int32) : Value := if pn = 0 then .ref r_WireType_VARINT else if pn = 1 then .ref r_WireType_FIXED64 else if pn = 2 then .ref r_WireType_LENGTH_DELIMITED else if pn = 3 then .ref r_WireType_START_GROUP else if pn = 4 then .ref r_WireType_END_GROUP else if pn = 5 then .ref r_WireType_FIXED32 else .null
theorem own_and7 (x : Int32) {v : Int32} (h : (x &&& (7 : Int32)) = v) : v = 0 ∨ v = 1 ∨ v = 2 ∨ v = 3 ∨ v = 4 ∨ v = 5 ∨ v = 6 ∨ v = 7 := by
  subst h
  have h1 : (x &&& (7 : Int32)).toInt = x.toInt % (2 ^ 3 : Nat) := c_mask x 7 3 (by decide) (by decide)
  have h2 : x.toInt % (2 ^ 3 : Nat) = 0 ∨ x.toInt % (2 ^ 3 : Nat) = 1 ∨ x.toInt % (2 ^ 3 : Nat) = 2 ∨ x.toInt % (2 ^ 3 : Nat) = 3 ∨ x.toInt % (2 ^ 3 : Nat) = 4 ∨ x.toInt % (2 ^ 3 : Nat) = 5 ∨ x.toInt % (2 ^ 3 : Nat) = 6 ∨ x.toInt % (2 ^ 3 : Nat) = 7 := by omega
  rcases h2 with h2 | h2 | h2 | h2 | h2 | h2 | h2 | h2
  · exact (Or.inl (Int32.toInt_inj.mp (by rw [h1, h2] <;> rfl)))
  · exact (Or.inr (Or.inl (Int32.toInt_inj.mp (by rw [h1, h2] <;> rfl))))
  · exact (Or.inr (Or.inr (Or.inl (Int32.toInt_inj.mp (by rw [h1, h2] <;> rfl)))))
  · exact (Or.inr (Or.inr (Or.inr (Or.inl (Int32.toInt_inj.mp (by rw [h1, h2] <;> rfl))))))
  · exact (Or.inr (Or.inr (Or.inr (Or.inr (Or.inl (Int32.toInt_inj.mp (by rw [h1, h2] <;> rfl)))))))
  · exact (Or.inr (Or.inr (Or.inr (Or.inr (Or.inr (Or.inl (Int32.toInt_inj.mp (by rw [h1, h2] <;> rfl))))))))
  · exact (Or.inr (Or.inr (Or.inr (Or.inr (Or.inr (Or.inr (Or.inl (Int32.toInt_inj.mp (by rw [h1, h2] <;> rfl)))))))))
  · exact (Or.inr (Or.inr (Or.inr (Or.inr (Or.inr (Or.inr (Or.inr (Int32.toInt_inj.mp (by rw [h1, h2] <;> rfl)))))))))
theorem dA_0 : decode prog_78_method_5_code 0 = .ok (.aconst_null, 1) := by decide +kernel
theorem dA_1 : decode prog_78_method_5_code 1 = .ok (.astore_n 1, 1) := by decide +kernel
theorem dA_2 : decode prog_78_method_5_code 2 = .ok (.iload_n 0, 1) := by decide +kernel
theorem dA_3 : decode prog_78_method_5_code 3 = .ok (.getstatic 45, 3) := by decide +kernel
theorem dA_6 : decode prog_78_method_5_code 6 = .ok (.arraylength, 1) := by decide +kernel
theorem dA_7 : decode prog_78_method_5_code 7 = .ok (.if_icmp .ge 9, 3) := by decide +kernel
theorem dA_10 : decode prog_78_method_5_code 10 = .ok (.getstatic 45, 3) := by decide +kernel
theorem dA_13 : decode prog_78_method_5_code 13 = .ok (.iload_n 0, 1) := by decide +kernel
theorem dA_14 : decode prog_78_method_5_code 14 = .ok (.aaload, 1) := by decide +kernel
theorem dA_15 : decode prog_78_method_5_code 15 = .ok (.astore_n 1, 1) := by decide +kernel
theorem dA_16 : decode prog_78_method_5_code 16 = .ok (.aload_n 1, 1) := by decide +kernel
theorem dA_17 : decode prog_78_method_5_code 17 = .ok (.areturn, 1) := by decide +kernel
theorem efA (m : MethodId) (x0 : Int32) : entryFrame m #[(.int x0)] 2 = mkF m 0 #[iv x0, .unset] [] := by first | (simp [entryFrame, mkF, argsToLocals, Value.category]; done) | rfl
theorem pn_com_example_tagwire_tagwire_WireType : plainName "com/example/tagwire/tagwire/WireType" = true := by first | (simp [plainName, overriddenIn]; done) | decide +kernel
def QA (Z : State) (pn : Int32) (r_WireType_BY_NUMBER : Addr) (k_r_WireType_BY_NUMBER : ClassId) (r_WireType_VARINT : Addr) (r_WireType_FIXED64 : Addr) (r_WireType_LENGTH_DELIMITED : Addr) (r_WireType_START_GROUP : Addr) (r_WireType_END_GROUP : Addr) (r_WireType_FIXED32 : Addr) (h0 : Heap) (n0 : Nat) (v : Option Value) (h : Heap) (L : List Loc) : Prop := v = some (own_of r_WireType_VARINT r_WireType_FIXED64 r_WireType_LENGTH_DELIMITED r_WireType_START_GROUP r_WireType_END_GROUP r_WireType_FIXED32 pn) ∧ Fr n0 L ∧ h = h0
set_option maxRecDepth 65536 in
set_option maxHeartbeats 40000000 in
theorem rmA (l : Launch) (Z : State) (a0 : Array Value) (hw : ∀ d ∈ tables_1, d.before a0 Z = true) (ws : List Jvm.Cond) (pn : Int32) (r_WireType_BY_NUMBER : Addr) (k_r_WireType_BY_NUMBER : ClassId) (r_WireType_VARINT : Addr) (r_WireType_FIXED64 : Addr) (r_WireType_LENGTH_DELIMITED : Addr) (r_WireType_START_GROUP : Addr) (r_WireType_END_GROUP : Addr) (r_WireType_FIXED32 : Addr) (h0 : Heap) (n0 : Nat) (S_r_WireType_BY_NUMBER : Sta Z h0 "com/example/tagwire/tagwire/WireType" "BY_NUMBER" "[Lcom/example/tagwire/tagwire/WireType;" (.ref r_WireType_BY_NUMBER)) (V_r_WireType_BY_NUMBER : Arv Z h0 r_WireType_BY_NUMBER k_r_WireType_BY_NUMBER (.object "com/example/tagwire/tagwire/WireType") (6 : Int32) [(.ref r_WireType_VARINT), (.ref r_WireType_FIXED64), (.ref r_WireType_LENGTH_DELIMITED), (.ref r_WireType_START_GROUP), (.ref r_WireType_END_GROUP), (.ref r_WireType_FIXED32)] .null) (hpn : pn = 0 ∨ pn = 1 ∨ pn = 2 ∨ pn = 3 ∨ pn = 4 ∨ pn = 5 ∨ pn = 6 ∨ pn = 7) :
    MetFree l (⟨"com/example/tagwire/tagwire/WireType", "ofNumber", "(I)Lcom/example/tagwire/tagwire/WireType;"⟩ : MethodName) (head1 (Jvm.Cond.code (⟨"com/example/tagwire/tagwire/WireType", "ofNumber", "(I)Lcom/example/tagwire/tagwire/WireType;"⟩ : MethodName) prog_78_method_5_code 2 (some (.object "com/example/tagwire/tagwire/WireType")) :: ws) ({ frames := 0, cells := 0, slots := 0, locals := 0 } : Room)) (fun as' U => as' = #[(.int pn)] ∧ Z.Warmed39 U.vm ∧ U.heap = h0) (fun _ _ _ _ _ => True) (fun _ U o U' => ∃ v L, o = .returned v ∧ QA Z pn r_WireType_BY_NUMBER k_r_WireType_BY_NUMBER r_WireType_VARINT r_WireType_FIXED64 r_WireType_LENGTH_DELIMITED r_WireType_START_GROUP r_WireType_END_GROUP r_WireType_FIXED32 h0 n0 v U'.heap L ∧ FrameEnd U o U' L ({ frames := 0, cells := 0, slots := 0, locals := 0 } : Room).cells ({ frames := 0, cells := 0, slots := 0, locals := 0 } : Room).slots) := by
  refine MetFree.of_bodySF (plainFor_of_name pn_com_example_tagwire_tagwire_WireType) hisR ?_
  intro p e s m args below meth c s₁ Bd hml0 hP hK
  obtain ⟨rfl, hZ, hh⟩ := hP
  have hx := Bd.exec
  have hby := Bd.bytes
  have hml : c.maxLocals = 2 := hml0
  have hown : s.vm.findClass "com/example/tagwire/tagwire/WireType" = some m.cls := findClass_of_methodNamed Bd.named
  have hnm := (name_of_methodNamed Bd.named Bd.method).1
  have X0 : Stand p l e ({ frames := 0, cells := 0, slots := 0, locals := 0 } : Room) s m #[(.int pn)] below meth c s₁ [] 0 0 := Stand.of_body Bd
  have e0 : s₁.heap = h0 := by rw [← hh, Bd.state]; rfl
  have N0 := Fr.nil n0
  show Go p e below s (fun v h L => QA Z pn r_WireType_BY_NUMBER k_r_WireType_BY_NUMBER r_WireType_VARINT r_WireType_FIXED64 r_WireType_LENGTH_DELIMITED r_WireType_START_GROUP r_WireType_END_GROUP r_WireType_FIXED32 h0 n0 v h L) 0 0 _
  refine Go.pull (V := s₁.setTop (mkF m 0 #[iv pn, .unset] [])) (fun t k => castTop (efA m pn) k) ?_
  rcases hpn with rfl | rfl | rfl | rfl | rfl | rfl | rfl | rfl
  · skip
    refine Go.pull (V := s₁.setTop (mkF m 1 #[iv 0, .unset] [.null])) (fun t k => XS.aconstNull X0.here hx rfl (hb hby dA_0) k) ?_
    refine Go.pull (V := s₁.setTop (mkF m 2 #[iv 0, .val .null] [])) (fun t k => XS.astoreN X0.here hx rfl (hb hby dA_1) rfl rfl (l' := #[iv 0, .val .null]) rfl k) ?_
    refine Go.pull (V := s₁.setTop (mkF m 3 #[iv 0, .val .null] [(.int 0)])) (fun t k => XS.iloadN X0.here hx rfl (hb hby dA_2) rfl  k) ?_
    obtain ⟨T1, X1, e1, st1⟩ := getS2 X0 hx hZ hown (host := "") (Or.inl (hw _ (List.mem_of_getElem? (i := 4) rfl))) Via.refl e0 S_r_WireType_BY_NUMBER (g := (mkF m 3 #[iv 0, .val .null] [(.int 0)])) rfl (hb hby dA_3)
    refine Go.pull (V := T1.setTop (mkF m 6 #[iv 0, .val .null] [(.ref r_WireType_BY_NUMBER), (.int 0)])) st1 ?_
    obtain ⟨cl2, Ar2, q2, S2, M2, Hs2, G2⟩ := id V_r_WireType_BY_NUMBER
    refine Go.pull (V := T1.setTop (mkF m 7 #[iv 0, .val .null] [(.int 6), (.int 0)])) (fun t k => X1.arraylength hx (by rw [e1]; exact Ar2.1) (State.isArrayOf_alike hZ.alike Ar2.2.1) (g := (mkF m 6 #[iv 0, .val .null] [(.ref r_WireType_BY_NUMBER), (.int 0)])) rfl rfl (hb hby dA_6) _ (by rw [len_of S2 M2]; exact k)) ?_
    refine Go.pull (V := T1.setTop (mkF m 10 #[iv 0, .val .null] [])) (fun t k => XS.icmpNo X1.here hx rfl (hb hby dA_7) rfl (XT.ii_ge_f (by decide)) k) ?_
    obtain ⟨T3, X3, e3, st3⟩ := getS2 X1 hx hZ hown (host := "") (Or.inl (hw _ (List.mem_of_getElem? (i := 4) rfl))) Via.refl e1 S_r_WireType_BY_NUMBER (g := (mkF m 10 #[iv 0, .val .null] [])) rfl (hb hby dA_10)
    refine Go.pull (V := T3.setTop (mkF m 13 #[iv 0, .val .null] [(.ref r_WireType_BY_NUMBER)])) st3 ?_
    refine Go.pull (V := T3.setTop (mkF m 14 #[iv 0, .val .null] [(.int 0), (.ref r_WireType_BY_NUMBER)])) (fun t k => XS.iloadN X3.here hx rfl (hb hby dA_13) rfl  k) ?_
    obtain ⟨cl4, Ar4, q4, S4, M4, Hs4, G4⟩ := id V_r_WireType_BY_NUMBER
    have hin4 : ¬ ((0 : Int32) < 0 ∨ cl4.slots.size ≤ ((0 : Int32)).toNatClampNeg) := inb_of S4 ⟨by decide, by decide⟩
    have hat4 : cl4.slots[((0 : Int32)).toNatClampNeg]? = some (.ref r_WireType_VARINT) := Has.at Hs4 hin4 rfl
    refine Go.pull (V := T3.setTop (mkF m 15 #[iv 0, .val .null] [(.ref r_WireType_VARINT)])) (fun t k => X3.aaload hx (j := (0 : Int32)) (v := (.ref r_WireType_VARINT)) (by rw [e3]; exact Ar4.1) (State.isArrayOf_alike hZ.alike Ar4.2.1) rfl Ar4.2.2 hin4 hat4 (g := (mkF m 14 #[iv 0, .val .null] [(.int 0), (.ref r_WireType_BY_NUMBER)])) rfl rfl (hb hby dA_14) _ k) ?_
    refine Go.pull (V := T3.setTop (mkF m 16 #[iv 0, rv r_WireType_VARINT] [])) (fun t k => XS.astoreN X3.here hx rfl (hb hby dA_15) rfl rfl (l' := #[iv 0, rv r_WireType_VARINT]) rfl k) ?_
    refine Go.pull (V := T3.setTop (mkF m 17 #[iv 0, rv r_WireType_VARINT] [(.ref r_WireType_VARINT)])) (fun t k => XS.aloadN X3.here hx rfl (hb hby dA_16) rfl rfl k) ?_
    exact Go.retR X3 hx Bd.notSynchronized Bd.returns rfl rfl rfl (hb hby dA_17) ⟨rfl, N0, e3⟩ (by decide) (by decide)
  · skip
    refine Go.pull (V := s₁.setTop (mkF m 1 #[iv 1, .unset] [.null])) (fun t k => XS.aconstNull X0.here hx rfl (hb hby dA_0) k) ?_
    refine Go.pull (V := s₁.setTop (mkF m 2 #[iv 1, .val .null] [])) (fun t k => XS.astoreN X0.here hx rfl (hb hby dA_1) rfl rfl (l' := #[iv 1, .val .null]) rfl k) ?_
    refine Go.pull (V := s₁.setTop (mkF m 3 #[iv 1, .val .null] [(.int 1)])) (fun t k => XS.iloadN X0.here hx rfl (hb hby dA_2) rfl  k) ?_
    obtain ⟨T5, X5, e5, st5⟩ := getS2 X0 hx hZ hown (host := "") (Or.inl (hw _ (List.mem_of_getElem? (i := 4) rfl))) Via.refl e0 S_r_WireType_BY_NUMBER (g := (mkF m 3 #[iv 1, .val .null] [(.int 1)])) rfl (hb hby dA_3)
    refine Go.pull (V := T5.setTop (mkF m 6 #[iv 1, .val .null] [(.ref r_WireType_BY_NUMBER), (.int 1)])) st5 ?_
    obtain ⟨cl6, Ar6, q6, S6, M6, Hs6, G6⟩ := id V_r_WireType_BY_NUMBER
    refine Go.pull (V := T5.setTop (mkF m 7 #[iv 1, .val .null] [(.int 6), (.int 1)])) (fun t k => X5.arraylength hx (by rw [e5]; exact Ar6.1) (State.isArrayOf_alike hZ.alike Ar6.2.1) (g := (mkF m 6 #[iv 1, .val .null] [(.ref r_WireType_BY_NUMBER), (.int 1)])) rfl rfl (hb hby dA_6) _ (by rw [len_of S6 M6]; exact k)) ?_
    refine Go.pull (V := T5.setTop (mkF m 10 #[iv 1, .val .null] [])) (fun t k => XS.icmpNo X5.here hx rfl (hb hby dA_7) rfl (XT.ii_ge_f (by decide)) k) ?_
    obtain ⟨T7, X7, e7, st7⟩ := getS2 X5 hx hZ hown (host := "") (Or.inl (hw _ (List.mem_of_getElem? (i := 4) rfl))) Via.refl e5 S_r_WireType_BY_NUMBER (g := (mkF m 10 #[iv 1, .val .null] [])) rfl (hb hby dA_10)
    refine Go.pull (V := T7.setTop (mkF m 13 #[iv 1, .val .null] [(.ref r_WireType_BY_NUMBER)])) st7 ?_
    refine Go.pull (V := T7.setTop (mkF m 14 #[iv 1, .val .null] [(.int 1), (.ref r_WireType_BY_NUMBER)])) (fun t k => XS.iloadN X7.here hx rfl (hb hby dA_13) rfl  k) ?_
    obtain ⟨cl8, Ar8, q8, S8, M8, Hs8, G8⟩ := id V_r_WireType_BY_NUMBER
    have hin8 : ¬ ((1 : Int32) < 0 ∨ cl8.slots.size ≤ ((1 : Int32)).toNatClampNeg) := inb_of S8 ⟨by decide, by decide⟩
    have hat8 : cl8.slots[((1 : Int32)).toNatClampNeg]? = some (.ref r_WireType_FIXED64) := Has.at Hs8 hin8 rfl
    refine Go.pull (V := T7.setTop (mkF m 15 #[iv 1, .val .null] [(.ref r_WireType_FIXED64)])) (fun t k => X7.aaload hx (j := (1 : Int32)) (v := (.ref r_WireType_FIXED64)) (by rw [e7]; exact Ar8.1) (State.isArrayOf_alike hZ.alike Ar8.2.1) rfl Ar8.2.2 hin8 hat8 (g := (mkF m 14 #[iv 1, .val .null] [(.int 1), (.ref r_WireType_BY_NUMBER)])) rfl rfl (hb hby dA_14) _ k) ?_
    refine Go.pull (V := T7.setTop (mkF m 16 #[iv 1, rv r_WireType_FIXED64] [])) (fun t k => XS.astoreN X7.here hx rfl (hb hby dA_15) rfl rfl (l' := #[iv 1, rv r_WireType_FIXED64]) rfl k) ?_
    refine Go.pull (V := T7.setTop (mkF m 17 #[iv 1, rv r_WireType_FIXED64] [(.ref r_WireType_FIXED64)])) (fun t k => XS.aloadN X7.here hx rfl (hb hby dA_16) rfl rfl k) ?_
    exact Go.retR X7 hx Bd.notSynchronized Bd.returns rfl rfl rfl (hb hby dA_17) ⟨rfl, N0, e7⟩ (by decide) (by decide)
  · skip
    refine Go.pull (V := s₁.setTop (mkF m 1 #[iv 2, .unset] [.null])) (fun t k => XS.aconstNull X0.here hx rfl (hb hby dA_0) k) ?_
    refine Go.pull (V := s₁.setTop (mkF m 2 #[iv 2, .val .null] [])) (fun t k => XS.astoreN X0.here hx rfl (hb hby dA_1) rfl rfl (l' := #[iv 2, .val .null]) rfl k) ?_
    refine Go.pull (V := s₁.setTop (mkF m 3 #[iv 2, .val .null] [(.int 2)])) (fun t k => XS.iloadN X0.here hx rfl (hb hby dA_2) rfl  k) ?_
    obtain ⟨T9, X9, e9, st9⟩ := getS2 X0 hx hZ hown (host := "") (Or.inl (hw _ (List.mem_of_getElem? (i := 4) rfl))) Via.refl e0 S_r_WireType_BY_NUMBER (g := (mkF m 3 #[iv 2, .val .null] [(.int 2)])) rfl (hb hby dA_3)
    refine Go.pull (V := T9.setTop (mkF m 6 #[iv 2, .val .null] [(.ref r_WireType_BY_NUMBER), (.int 2)])) st9 ?_
    obtain ⟨cl10, Ar10, q10, S10, M10, Hs10, G10⟩ := id V_r_WireType_BY_NUMBER
    refine Go.pull (V := T9.setTop (mkF m 7 #[iv 2, .val .null] [(.int 6), (.int 2)])) (fun t k => X9.arraylength hx (by rw [e9]; exact Ar10.1) (State.isArrayOf_alike hZ.alike Ar10.2.1) (g := (mkF m 6 #[iv 2, .val .null] [(.ref r_WireType_BY_NUMBER), (.int 2)])) rfl rfl (hb hby dA_6) _ (by rw [len_of S10 M10]; exact k)) ?_
    refine Go.pull (V := T9.setTop (mkF m 10 #[iv 2, .val .null] [])) (fun t k => XS.icmpNo X9.here hx rfl (hb hby dA_7) rfl (XT.ii_ge_f (by decide)) k) ?_
    obtain ⟨T11, X11, e11, st11⟩ := getS2 X9 hx hZ hown (host := "") (Or.inl (hw _ (List.mem_of_getElem? (i := 4) rfl))) Via.refl e9 S_r_WireType_BY_NUMBER (g := (mkF m 10 #[iv 2, .val .null] [])) rfl (hb hby dA_10)
    refine Go.pull (V := T11.setTop (mkF m 13 #[iv 2, .val .null] [(.ref r_WireType_BY_NUMBER)])) st11 ?_
    refine Go.pull (V := T11.setTop (mkF m 14 #[iv 2, .val .null] [(.int 2), (.ref r_WireType_BY_NUMBER)])) (fun t k => XS.iloadN X11.here hx rfl (hb hby dA_13) rfl  k) ?_
    obtain ⟨cl12, Ar12, q12, S12, M12, Hs12, G12⟩ := id V_r_WireType_BY_NUMBER
    have hin12 : ¬ ((2 : Int32) < 0 ∨ cl12.slots.size ≤ ((2 : Int32)).toNatClampNeg) := inb_of S12 ⟨by decide, by decide⟩
    have hat12 : cl12.slots[((2 : Int32)).toNatClampNeg]? = some (.ref r_WireType_LENGTH_DELIMITED) := Has.at Hs12 hin12 rfl
    refine Go.pull (V := T11.setTop (mkF m 15 #[iv 2, .val .null] [(.ref r_WireType_LENGTH_DELIMITED)])) (fun t k => X11.aaload hx (j := (2 : Int32)) (v := (.ref r_WireType_LENGTH_DELIMITED)) (by rw [e11]; exact Ar12.1) (State.isArrayOf_alike hZ.alike Ar12.2.1) rfl Ar12.2.2 hin12 hat12 (g := (mkF m 14 #[iv 2, .val .null] [(.int 2), (.ref r_WireType_BY_NUMBER)])) rfl rfl (hb hby dA_14) _ k) ?_
    refine Go.pull (V := T11.setTop (mkF m 16 #[iv 2, rv r_WireType_LENGTH_DELIMITED] [])) (fun t k => XS.astoreN X11.here hx rfl (hb hby dA_15) rfl rfl (l' := #[iv 2, rv r_WireType_LENGTH_DELIMITED]) rfl k) ?_
    refine Go.pull (V := T11.setTop (mkF m 17 #[iv 2, rv r_WireType_LENGTH_DELIMITED] [(.ref r_WireType_LENGTH_DELIMITED)])) (fun t k => XS.aloadN X11.here hx rfl (hb hby dA_16) rfl rfl k) ?_
    exact Go.retR X11 hx Bd.notSynchronized Bd.returns rfl rfl rfl (hb hby dA_17) ⟨rfl, N0, e11⟩ (by decide) (by decide)
  · skip
    refine Go.pull (V := s₁.setTop (mkF m 1 #[iv 3, .unset] [.null])) (fun t k => XS.aconstNull X0.here hx rfl (hb hby dA_0) k) ?_
    refine Go.pull (V := s₁.setTop (mkF m 2 #[iv 3, .val .null] [])) (fun t k => XS.astoreN X0.here hx rfl (hb hby dA_1) rfl rfl (l' := #[iv 3, .val .null]) rfl k) ?_
    refine Go.pull (V := s₁.setTop (mkF m 3 #[iv 3, .val .null] [(.int 3)])) (fun t k => XS.iloadN X0.here hx rfl (hb hby dA_2) rfl  k) ?_
    obtain ⟨T13, X13, e13, st13⟩ := getS2 X0 hx hZ hown (host := "") (Or.inl (hw _ (List.mem_of_getElem? (i := 4) rfl))) Via.refl e0 S_r_WireType_BY_NUMBER (g := (mkF m 3 #[iv 3, .val .null] [(.int 3)])) rfl (hb hby dA_3)
    refine Go.pull (V := T13.setTop (mkF m 6 #[iv 3, .val .null] [(.ref r_WireType_BY_NUMBER), (.int 3)])) st13 ?_
    obtain ⟨cl14, Ar14, q14, S14, M14, Hs14, G14⟩ := id V_r_WireType_BY_NUMBER
    refine Go.pull (V := T13.setTop (mkF m 7 #[iv 3, .val .null] [(.int 6), (.int 3)])) (fun t k => X13.arraylength hx (by rw [e13]; exact Ar14.1) (State.isArrayOf_alike hZ.alike Ar14.2.1) (g := (mkF m 6 #[iv 3, .val .null] [(.ref r_WireType_BY_NUMBER), (.int 3)])) rfl rfl (hb hby dA_6) _ (by rw [len_of S14 M14]; exact k)) ?_
    refine Go.pull (V := T13.setTop (mkF m 10 #[iv 3, .val .null] [])) (fun t k => XS.icmpNo X13.here hx rfl (hb hby dA_7) rfl (XT.ii_ge_f (by decide)) k) ?_
    obtain ⟨T15, X15, e15, st15⟩ := getS2 X13 hx hZ hown (host := "") (Or.inl (hw _ (List.mem_of_getElem? (i := 4) rfl))) Via.refl e13 S_r_WireType_BY_NUMBER (g := (mkF m 10 #[iv 3, .val .null] [])) rfl (hb hby dA_10)
    refine Go.pull (V := T15.setTop (mkF m 13 #[iv 3, .val .null] [(.ref r_WireType_BY_NUMBER)])) st15 ?_
    refine Go.pull (V := T15.setTop (mkF m 14 #[iv 3, .val .null] [(.int 3), (.ref r_WireType_BY_NUMBER)])) (fun t k => XS.iloadN X15.here hx rfl (hb hby dA_13) rfl  k) ?_
    obtain ⟨cl16, Ar16, q16, S16, M16, Hs16, G16⟩ := id V_r_WireType_BY_NUMBER
    have hin16 : ¬ ((3 : Int32) < 0 ∨ cl16.slots.size ≤ ((3 : Int32)).toNatClampNeg) := inb_of S16 ⟨by decide, by decide⟩
    have hat16 : cl16.slots[((3 : Int32)).toNatClampNeg]? = some (.ref r_WireType_START_GROUP) := Has.at Hs16 hin16 rfl
    refine Go.pull (V := T15.setTop (mkF m 15 #[iv 3, .val .null] [(.ref r_WireType_START_GROUP)])) (fun t k => X15.aaload hx (j := (3 : Int32)) (v := (.ref r_WireType_START_GROUP)) (by rw [e15]; exact Ar16.1) (State.isArrayOf_alike hZ.alike Ar16.2.1) rfl Ar16.2.2 hin16 hat16 (g := (mkF m 14 #[iv 3, .val .null] [(.int 3), (.ref r_WireType_BY_NUMBER)])) rfl rfl (hb hby dA_14) _ k) ?_
    refine Go.pull (V := T15.setTop (mkF m 16 #[iv 3, rv r_WireType_START_GROUP] [])) (fun t k => XS.astoreN X15.here hx rfl (hb hby dA_15) rfl rfl (l' := #[iv 3, rv r_WireType_START_GROUP]) rfl k) ?_
    refine Go.pull (V := T15.setTop (mkF m 17 #[iv 3, rv r_WireType_START_GROUP] [(.ref r_WireType_START_GROUP)])) (fun t k => XS.aloadN X15.here hx rfl (hb hby dA_16) rfl rfl k) ?_
    exact Go.retR X15 hx Bd.notSynchronized Bd.returns rfl rfl rfl (hb hby dA_17) ⟨rfl, N0, e15⟩ (by decide) (by decide)
  · skip
    refine Go.pull (V := s₁.setTop (mkF m 1 #[iv 4, .unset] [.null])) (fun t k => XS.aconstNull X0.here hx rfl (hb hby dA_0) k) ?_
    refine Go.pull (V := s₁.setTop (mkF m 2 #[iv 4, .val .null] [])) (fun t k => XS.astoreN X0.here hx rfl (hb hby dA_1) rfl rfl (l' := #[iv 4, .val .null]) rfl k) ?_
    refine Go.pull (V := s₁.setTop (mkF m 3 #[iv 4, .val .null] [(.int 4)])) (fun t k => XS.iloadN X0.here hx rfl (hb hby dA_2) rfl  k) ?_
    obtain ⟨T17, X17, e17, st17⟩ := getS2 X0 hx hZ hown (host := "") (Or.inl (hw _ (List.mem_of_getElem? (i := 4) rfl))) Via.refl e0 S_r_WireType_BY_NUMBER (g := (mkF m 3 #[iv 4, .val .null] [(.int 4)])) rfl (hb hby dA_3)
    refine Go.pull (V := T17.setTop (mkF m 6 #[iv 4, .val .null] [(.ref r_WireType_BY_NUMBER), (.int 4)])) st17 ?_
    obtain ⟨cl18, Ar18, q18, S18, M18, Hs18, G18⟩ := id V_r_WireType_BY_NUMBER
    refine Go.pull (V := T17.setTop (mkF m 7 #[iv 4, .val .null] [(.int 6), (.int 4)])) (fun t k => X17.arraylength hx (by rw [e17]; exact Ar18.1) (State.isArrayOf_alike hZ.alike Ar18.2.1) (g := (mkF m 6 #[iv 4, .val .null] [(.ref r_WireType_BY_NUMBER), (.int 4)])) rfl rfl (hb hby dA_6) _ (by rw [len_of S18 M18]; exact k)) ?_
    refine Go.pull (V := T17.setTop (mkF m 10 #[iv 4, .val .null] [])) (fun t k => XS.icmpNo X17.here hx rfl (hb hby dA_7) rfl (XT.ii_ge_f (by decide)) k) ?_
    obtain ⟨T19, X19, e19, st19⟩ := getS2 X17 hx hZ hown (host := "") (Or.inl (hw _ (List.mem_of_getElem? (i := 4) rfl))) Via.refl e17 S_r_WireType_BY_NUMBER (g := (mkF m 10 #[iv 4, .val .null] [])) rfl (hb hby dA_10)
    refine Go.pull (V := T19.setTop (mkF m 13 #[iv 4, .val .null] [(.ref r_WireType_BY_NUMBER)])) st19 ?_
    refine Go.pull (V := T19.setTop (mkF m 14 #[iv 4, .val .null] [(.int 4), (.ref r_WireType_BY_NUMBER)])) (fun t k => XS.iloadN X19.here hx rfl (hb hby dA_13) rfl  k) ?_
    obtain ⟨cl20, Ar20, q20, S20, M20, Hs20, G20⟩ := id V_r_WireType_BY_NUMBER
    have hin20 : ¬ ((4 : Int32) < 0 ∨ cl20.slots.size ≤ ((4 : Int32)).toNatClampNeg) := inb_of S20 ⟨by decide, by decide⟩
    have hat20 : cl20.slots[((4 : Int32)).toNatClampNeg]? = some (.ref r_WireType_END_GROUP) := Has.at Hs20 hin20 rfl
    refine Go.pull (V := T19.setTop (mkF m 15 #[iv 4, .val .null] [(.ref r_WireType_END_GROUP)])) (fun t k => X19.aaload hx (j := (4 : Int32)) (v := (.ref r_WireType_END_GROUP)) (by rw [e19]; exact Ar20.1) (State.isArrayOf_alike hZ.alike Ar20.2.1) rfl Ar20.2.2 hin20 hat20 (g := (mkF m 14 #[iv 4, .val .null] [(.int 4), (.ref r_WireType_BY_NUMBER)])) rfl rfl (hb hby dA_14) _ k) ?_
    refine Go.pull (V := T19.setTop (mkF m 16 #[iv 4, rv r_WireType_END_GROUP] [])) (fun t k => XS.astoreN X19.here hx rfl (hb hby dA_15) rfl rfl (l' := #[iv 4, rv r_WireType_END_GROUP]) rfl k) ?_
    refine Go.pull (V := T19.setTop (mkF m 17 #[iv 4, rv r_WireType_END_GROUP] [(.ref r_WireType_END_GROUP)])) (fun t k => XS.aloadN X19.here hx rfl (hb hby dA_16) rfl rfl k) ?_
    exact Go.retR X19 hx Bd.notSynchronized Bd.returns rfl rfl rfl (hb hby dA_17) ⟨rfl, N0, e19⟩ (by decide) (by decide)
  · skip
    refine Go.pull (V := s₁.setTop (mkF m 1 #[iv 5, .unset] [.null])) (fun t k => XS.aconstNull X0.here hx rfl (hb hby dA_0) k) ?_
    refine Go.pull (V := s₁.setTop (mkF m 2 #[iv 5, .val .null] [])) (fun t k => XS.astoreN X0.here hx rfl (hb hby dA_1) rfl rfl (l' := #[iv 5, .val .null]) rfl k) ?_
    refine Go.pull (V := s₁.setTop (mkF m 3 #[iv 5, .val .null] [(.int 5)])) (fun t k => XS.iloadN X0.here hx rfl (hb hby dA_2) rfl  k) ?_
    obtain ⟨T21, X21, e21, st21⟩ := getS2 X0 hx hZ hown (host := "") (Or.inl (hw _ (List.mem_of_getElem? (i := 4) rfl))) Via.refl e0 S_r_WireType_BY_NUMBER (g := (mkF m 3 #[iv 5, .val .null] [(.int 5)])) rfl (hb hby dA_3)
    refine Go.pull (V := T21.setTop (mkF m 6 #[iv 5, .val .null] [(.ref r_WireType_BY_NUMBER), (.int 5)])) st21 ?_
    obtain ⟨cl22, Ar22, q22, S22, M22, Hs22, G22⟩ := id V_r_WireType_BY_NUMBER
    refine Go.pull (V := T21.setTop (mkF m 7 #[iv 5, .val .null] [(.int 6), (.int 5)])) (fun t k => X21.arraylength hx (by rw [e21]; exact Ar22.1) (State.isArrayOf_alike hZ.alike Ar22.2.1) (g := (mkF m 6 #[iv 5, .val .null] [(.ref r_WireType_BY_NUMBER), (.int 5)])) rfl rfl (hb hby dA_6) _ (by rw [len_of S22 M22]; exact k)) ?_
    refine Go.pull (V := T21.setTop (mkF m 10 #[iv 5, .val .null] [])) (fun t k => XS.icmpNo X21.here hx rfl (hb hby dA_7) rfl (XT.ii_ge_f (by decide)) k) ?_
    obtain ⟨T23, X23, e23, st23⟩ := getS2 X21 hx hZ hown (host := "") (Or.inl (hw _ (List.mem_of_getElem? (i := 4) rfl))) Via.refl e21 S_r_WireType_BY_NUMBER (g := (mkF m 10 #[iv 5, .val .null] [])) rfl (hb hby dA_10)
    refine Go.pull (V := T23.setTop (mkF m 13 #[iv 5, .val .null] [(.ref r_WireType_BY_NUMBER)])) st23 ?_
    refine Go.pull (V := T23.setTop (mkF m 14 #[iv 5, .val .null] [(.int 5), (.ref r_WireType_BY_NUMBER)])) (fun t k => XS.iloadN X23.here hx rfl (hb hby dA_13) rfl  k) ?_
    obtain ⟨cl24, Ar24, q24, S24, M24, Hs24, G24⟩ := id V_r_WireType_BY_NUMBER
    have hin24 : ¬ ((5 : Int32) < 0 ∨ cl24.slots.size ≤ ((5 : Int32)).toNatClampNeg) := inb_of S24 ⟨by decide, by decide⟩
    have hat24 : cl24.slots[((5 : Int32)).toNatClampNeg]? = some (.ref r_WireType_FIXED32) := Has.at Hs24 hin24 rfl
    refine Go.pull (V := T23.setTop (mkF m 15 #[iv 5, .val .null] [(.ref r_WireType_FIXED32)])) (fun t k => X23.aaload hx (j := (5 : Int32)) (v := (.ref r_WireType_FIXED32)) (by rw [e23]; exact Ar24.1) (State.isArrayOf_alike hZ.alike Ar24.2.1) rfl Ar24.2.2 hin24 hat24 (g := (mkF m 14 #[iv 5, .val .null] [(.int 5), (.ref r_WireType_BY_NUMBER)])) rfl rfl (hb hby dA_14) _ k) ?_
    refine Go.pull (V := T23.setTop (mkF m 16 #[iv 5, rv r_WireType_FIXED32] [])) (fun t k => XS.astoreN X23.here hx rfl (hb hby dA_15) rfl rfl (l' := #[iv 5, rv r_WireType_FIXED32]) rfl k) ?_
    refine Go.pull (V := T23.setTop (mkF m 17 #[iv 5, rv r_WireType_FIXED32] [(.ref r_WireType_FIXED32)])) (fun t k => XS.aloadN X23.here hx rfl (hb hby dA_16) rfl rfl k) ?_
    exact Go.retR X23 hx Bd.notSynchronized Bd.returns rfl rfl rfl (hb hby dA_17) ⟨rfl, N0, e23⟩ (by decide) (by decide)
  · skip
    refine Go.pull (V := s₁.setTop (mkF m 1 #[iv 6, .unset] [.null])) (fun t k => XS.aconstNull X0.here hx rfl (hb hby dA_0) k) ?_
    refine Go.pull (V := s₁.setTop (mkF m 2 #[iv 6, .val .null] [])) (fun t k => XS.astoreN X0.here hx rfl (hb hby dA_1) rfl rfl (l' := #[iv 6, .val .null]) rfl k) ?_
    refine Go.pull (V := s₁.setTop (mkF m 3 #[iv 6, .val .null] [(.int 6)])) (fun t k => XS.iloadN X0.here hx rfl (hb hby dA_2) rfl  k) ?_
    obtain ⟨T25, X25, e25, st25⟩ := getS2 X0 hx hZ hown (host := "") (Or.inl (hw _ (List.mem_of_getElem? (i := 4) rfl))) Via.refl e0 S_r_WireType_BY_NUMBER (g := (mkF m 3 #[iv 6, .val .null] [(.int 6)])) rfl (hb hby dA_3)
    refine Go.pull (V := T25.setTop (mkF m 6 #[iv 6, .val .null] [(.ref r_WireType_BY_NUMBER), (.int 6)])) st25 ?_
    obtain ⟨cl26, Ar26, q26, S26, M26, Hs26, G26⟩ := id V_r_WireType_BY_NUMBER
    refine Go.pull (V := T25.setTop (mkF m 7 #[iv 6, .val .null] [(.int 6), (.int 6)])) (fun t k => X25.arraylength hx (by rw [e25]; exact Ar26.1) (State.isArrayOf_alike hZ.alike Ar26.2.1) (g := (mkF m 6 #[iv 6, .val .null] [(.ref r_WireType_BY_NUMBER), (.int 6)])) rfl rfl (hb hby dA_6) _ (by rw [len_of S26 M26]; exact k)) ?_
    refine Go.pull (V := T25.setTop (mkF m 16 #[iv 6, .val .null] [])) (fun t k => XS.icmpYes X25.here hx rfl (pc0 := 7) (pc' := 16) rfl (hb hby dA_7) rfl (XT.ii_ge_t (by decide)) (by decide) (by decide) k) ?_
    refine Go.pull (V := T25.setTop (mkF m 17 #[iv 6, .val .null] [.null])) (fun t k => XS.aloadN X25.here hx rfl (hb hby dA_16) rfl rfl k) ?_
    exact Go.retR X25 hx Bd.notSynchronized Bd.returns rfl rfl rfl (hb hby dA_17) ⟨rfl, N0, e25⟩ (by decide) (by decide)
  · skip
    refine Go.pull (V := s₁.setTop (mkF m 1 #[iv 7, .unset] [.null])) (fun t k => XS.aconstNull X0.here hx rfl (hb hby dA_0) k) ?_
    refine Go.pull (V := s₁.setTop (mkF m 2 #[iv 7, .val .null] [])) (fun t k => XS.astoreN X0.here hx rfl (hb hby dA_1) rfl rfl (l' := #[iv 7, .val .null]) rfl k) ?_
    refine Go.pull (V := s₁.setTop (mkF m 3 #[iv 7, .val .null] [(.int 7)])) (fun t k => XS.iloadN X0.here hx rfl (hb hby dA_2) rfl  k) ?_
    obtain ⟨T27, X27, e27, st27⟩ := getS2 X0 hx hZ hown (host := "") (Or.inl (hw _ (List.mem_of_getElem? (i := 4) rfl))) Via.refl e0 S_r_WireType_BY_NUMBER (g := (mkF m 3 #[iv 7, .val .null] [(.int 7)])) rfl (hb hby dA_3)
    refine Go.pull (V := T27.setTop (mkF m 6 #[iv 7, .val .null] [(.ref r_WireType_BY_NUMBER), (.int 7)])) st27 ?_
    obtain ⟨cl28, Ar28, q28, S28, M28, Hs28, G28⟩ := id V_r_WireType_BY_NUMBER
    refine Go.pull (V := T27.setTop (mkF m 7 #[iv 7, .val .null] [(.int 6), (.int 7)])) (fun t k => X27.arraylength hx (by rw [e27]; exact Ar28.1) (State.isArrayOf_alike hZ.alike Ar28.2.1) (g := (mkF m 6 #[iv 7, .val .null] [(.ref r_WireType_BY_NUMBER), (.int 7)])) rfl rfl (hb hby dA_6) _ (by rw [len_of S28 M28]; exact k)) ?_
    refine Go.pull (V := T27.setTop (mkF m 16 #[iv 7, .val .null] [])) (fun t k => XS.icmpYes X27.here hx rfl (pc0 := 7) (pc' := 16) rfl (hb hby dA_7) rfl (XT.ii_ge_t (by decide)) (by decide) (by decide) k) ?_
    refine Go.pull (V := T27.setTop (mkF m 17 #[iv 7, .val .null] [.null])) (fun t k => XS.aloadN X27.here hx rfl (hb hby dA_16) rfl rfl k) ?_
    exact Go.retR X27 hx Bd.notSynchronized Bd.returns rfl rfl rfl (hb hby dA_17) ⟨rfl, N0, e27⟩ (by decide) (by decide)
theorem dB_0 : decode method_2_code 0 = .ok (.iload_n 0, 1) := by decide +kernel
theorem dB_1 : decode method_2_code 1 = .ok (.ifCond .ne 7, 3) := by decide +kernel
theorem dB_4 : decode method_2_code 4 = .ok (.getstatic 7, 3) := by decide +kernel
theorem dB_7 : decode method_2_code 7 = .ok (.areturn, 1) := by decide +kernel
theorem dB_8 : decode method_2_code 8 = .ok (.iload_n 0, 1) := by decide +kernel
theorem dB_9 : decode method_2_code 9 = .ok (.iconst 1, 1) := by decide +kernel
theorem dB_10 : decode method_2_code 10 = .ok (.if_icmp .ne 7, 3) := by decide +kernel
theorem dB_13 : decode method_2_code 13 = .ok (.getstatic 13, 3) := by decide +kernel
theorem dB_16 : decode method_2_code 16 = .ok (.areturn, 1) := by decide +kernel
theorem dB_17 : decode method_2_code 17 = .ok (.iload_n 0, 1) := by decide +kernel
theorem dB_18 : decode method_2_code 18 = .ok (.iconst 2, 1) := by decide +kernel
theorem dB_19 : decode method_2_code 19 = .ok (.if_icmp .ne 7, 3) := by decide +kernel
theorem dB_22 : decode method_2_code 22 = .ok (.getstatic 16, 3) := by decide +kernel
theorem dB_25 : decode method_2_code 25 = .ok (.areturn, 1) := by decide +kernel
theorem dB_26 : decode method_2_code 26 = .ok (.iload_n 0, 1) := by decide +kernel
theorem dB_27 : decode method_2_code 27 = .ok (.iconst 3, 1) := by decide +kernel
theorem dB_28 : decode method_2_code 28 = .ok (.if_icmp .ne 7, 3) := by decide +kernel
theorem dB_31 : decode method_2_code 31 = .ok (.getstatic 19, 3) := by decide +kernel
theorem dB_34 : decode method_2_code 34 = .ok (.areturn, 1) := by decide +kernel
theorem dB_35 : decode method_2_code 35 = .ok (.iload_n 0, 1) := by decide +kernel
theorem dB_36 : decode method_2_code 36 = .ok (.iconst 4, 1) := by decide +kernel
theorem dB_37 : decode method_2_code 37 = .ok (.if_icmp .ne 7, 3) := by decide +kernel
theorem dB_40 : decode method_2_code 40 = .ok (.getstatic 22, 3) := by decide +kernel
theorem dB_43 : decode method_2_code 43 = .ok (.areturn, 1) := by decide +kernel
theorem dB_44 : decode method_2_code 44 = .ok (.iload_n 0, 1) := by decide +kernel
theorem dB_45 : decode method_2_code 45 = .ok (.iconst 5, 1) := by decide +kernel
theorem dB_46 : decode method_2_code 46 = .ok (.if_icmp .ne 7, 3) := by decide +kernel
theorem dB_49 : decode method_2_code 49 = .ok (.getstatic 25, 3) := by decide +kernel
theorem dB_52 : decode method_2_code 52 = .ok (.areturn, 1) := by decide +kernel
theorem dB_53 : decode method_2_code 53 = .ok (.aconst_null, 1) := by decide +kernel
theorem dB_54 : decode method_2_code 54 = .ok (.areturn, 1) := by decide +kernel
theorem efB (m : MethodId) (x0 : Int32) : entryFrame m #[(.int x0)] 1 = mkF m 0 #[iv x0] [] := by first | (simp [entryFrame, mkF, argsToLocals, Value.category]; done) | rfl
theorem pn_com_example_tagwire_tagwire_WireTypeOfNumberPinLaw : plainName "com/example/tagwire/tagwire/WireTypeOfNumberPinLaw" = true := by first | (simp [plainName, overriddenIn]; done) | decide +kernel
def QB (Z : State) (pn : Int32) (r_WireType_VARINT : Addr) (r_WireType_FIXED64 : Addr) (r_WireType_LENGTH_DELIMITED : Addr) (r_WireType_START_GROUP : Addr) (r_WireType_END_GROUP : Addr) (r_WireType_FIXED32 : Addr) (h0 : Heap) (n0 : Nat) (v : Option Value) (h : Heap) (L : List Loc) : Prop := v = some (own_of r_WireType_VARINT r_WireType_FIXED64 r_WireType_LENGTH_DELIMITED r_WireType_START_GROUP r_WireType_END_GROUP r_WireType_FIXED32 pn) ∧ Fr n0 L ∧ h = h0
set_option maxRecDepth 65536 in
set_option maxHeartbeats 40000000 in
theorem rmB (l : Launch) (Z : State) (a0 : Array Value) (hw : ∀ d ∈ tables_1, d.before a0 Z = true) (ws : List Jvm.Cond) (pn : Int32) (r_WireType_VARINT : Addr) (r_WireType_FIXED64 : Addr) (r_WireType_LENGTH_DELIMITED : Addr) (r_WireType_START_GROUP : Addr) (r_WireType_END_GROUP : Addr) (r_WireType_FIXED32 : Addr) (h0 : Heap) (n0 : Nat) (S_r_WireType_VARINT : Sta Z h0 "com/example/tagwire/tagwire/WireType" "VARINT" "Lcom/example/tagwire/tagwire/WireType;" (.ref r_WireType_VARINT)) (S_r_WireType_FIXED64 : Sta Z h0 "com/example/tagwire/tagwire/WireType" "FIXED64" "Lcom/example/tagwire/tagwire/WireType;" (.ref r_WireType_FIXED64)) (S_r_WireType_LENGTH_DELIMITED : Sta Z h0 "com/example/tagwire/tagwire/WireType" "LENGTH_DELIMITED" "Lcom/example/tagwire/tagwire/WireType;" (.ref r_WireType_LENGTH_DELIMITED)) (S_r_WireType_START_GROUP : Sta Z h0 "com/example/tagwire/tagwire/WireType" "START_GROUP" "Lcom/example/tagwire/tagwire/WireType;" (.ref r_WireType_START_GROUP)) (S_r_WireType_END_GROUP : Sta Z h0 "com/example/tagwire/tagwire/WireType" "END_GROUP" "Lcom/example/tagwire/tagwire/WireType;" (.ref r_WireType_END_GROUP)) (S_r_WireType_FIXED32 : Sta Z h0 "com/example/tagwire/tagwire/WireType" "FIXED32" "Lcom/example/tagwire/tagwire/WireType;" (.ref r_WireType_FIXED32)) (hpn : pn = 0 ∨ pn = 1 ∨ pn = 2 ∨ pn = 3 ∨ pn = 4 ∨ pn = 5 ∨ pn = 6 ∨ pn = 7) :
    MetFree l (⟨"com/example/tagwire/tagwire/WireTypeOfNumberPinLaw", "expected", "(I)Lcom/example/tagwire/tagwire/WireType;"⟩ : MethodName) (head1 (Jvm.Cond.code (⟨"com/example/tagwire/tagwire/WireTypeOfNumberPinLaw", "expected", "(I)Lcom/example/tagwire/tagwire/WireType;"⟩ : MethodName) method_2_code 1 (some (.object "com/example/tagwire/tagwire/WireType")) :: ws) ({ frames := 0, cells := 0, slots := 0, locals := 0 } : Room)) (fun as' U => as' = #[(.int pn)] ∧ Z.Warmed39 U.vm ∧ U.heap = h0) (fun _ _ _ _ _ => True) (fun _ U o U' => ∃ v L, o = .returned v ∧ QB Z pn r_WireType_VARINT r_WireType_FIXED64 r_WireType_LENGTH_DELIMITED r_WireType_START_GROUP r_WireType_END_GROUP r_WireType_FIXED32 h0 n0 v U'.heap L ∧ FrameEnd U o U' L ({ frames := 0, cells := 0, slots := 0, locals := 0 } : Room).cells ({ frames := 0, cells := 0, slots := 0, locals := 0 } : Room).slots) := by
  refine MetFree.of_bodySF (plainFor_of_name pn_com_example_tagwire_tagwire_WireTypeOfNumberPinLaw) hisR ?_
  intro p e s m args below meth c s₁ Bd hml0 hP hK
  obtain ⟨rfl, hZ, hh⟩ := hP
  have hx := Bd.exec
  have hby := Bd.bytes
  have hml : c.maxLocals = 1 := hml0
  have hown : s.vm.findClass "com/example/tagwire/tagwire/WireTypeOfNumberPinLaw" = some m.cls := findClass_of_methodNamed Bd.named
  have hnm := (name_of_methodNamed Bd.named Bd.method).1
  have X0 : Stand p l e ({ frames := 0, cells := 0, slots := 0, locals := 0 } : Room) s m #[(.int pn)] below meth c s₁ [] 0 0 := Stand.of_body Bd
  have e0 : s₁.heap = h0 := by rw [← hh, Bd.state]; rfl
  have N0 := Fr.nil n0
  show Go p e below s (fun v h L => QB Z pn r_WireType_VARINT r_WireType_FIXED64 r_WireType_LENGTH_DELIMITED r_WireType_START_GROUP r_WireType_END_GROUP r_WireType_FIXED32 h0 n0 v h L) 0 0 _
  refine Go.pull (V := s₁.setTop (mkF m 0 #[iv pn] [])) (fun t k => castTop (efB m pn) k) ?_
  rcases hpn with rfl | rfl | rfl | rfl | rfl | rfl | rfl | rfl
  · skip
    refine Go.pull (V := s₁.setTop (mkF m 1 #[iv 0] [(.int 0)])) (fun t k => XS.iloadN X0.here hx rfl (hb hby dB_0) rfl  k) ?_
    refine Go.pull (V := s₁.setTop (mkF m 4 #[iv 0] [])) (fun t k => XS.ifNo X0.here hx rfl (hb hby dB_1) rfl (XT.i0_ne_f (by decide)) k) ?_
    obtain ⟨T1, X1, e1, st1⟩ := getS2 X0 hx hZ hown (host := "") (Or.inl (hw _ (List.mem_of_getElem? (i := 11) rfl))) Via.refl e0 S_r_WireType_VARINT (g := (mkF m 4 #[iv 0] [])) rfl (hb hby dB_4)
    refine Go.pull (V := T1.setTop (mkF m 7 #[iv 0] [(.ref r_WireType_VARINT)])) st1 ?_
    exact Go.retR X1 hx Bd.notSynchronized Bd.returns rfl rfl rfl (hb hby dB_7) ⟨rfl, N0, e1⟩ (by decide) (by decide)
  · skip
    refine Go.pull (V := s₁.setTop (mkF m 1 #[iv 1] [(.int 1)])) (fun t k => XS.iloadN X0.here hx rfl (hb hby dB_0) rfl  k) ?_
    refine Go.pull (V := s₁.setTop (mkF m 8 #[iv 1] [])) (fun t k => XS.ifYes X0.here hx rfl (pc0 := 1) (pc' := 8) rfl (hb hby dB_1) rfl (XT.i0_ne_t (by decide)) (by decide) (by decide) k) ?_
    refine Go.pull (V := s₁.setTop (mkF m 9 #[iv 1] [(.int 1)])) (fun t k => XS.iloadN X0.here hx rfl (hb hby dB_8) rfl  k) ?_
    refine Go.pull (V := s₁.setTop (mkF m 10 #[iv 1] [(.int 1), (.int 1)])) (fun t k => XS.iconst X0.here hx rfl (hb hby dB_9) k) ?_
    refine Go.pull (V := s₁.setTop (mkF m 13 #[iv 1] [])) (fun t k => XS.icmpNo X0.here hx rfl (hb hby dB_10) rfl (XT.ii_ne_f (by decide)) k) ?_
    obtain ⟨T2, X2, e2, st2⟩ := getS2 X0 hx hZ hown (host := "") (Or.inl (hw _ (List.mem_of_getElem? (i := 24) rfl))) Via.refl e0 S_r_WireType_FIXED64 (g := (mkF m 13 #[iv 1] [])) rfl (hb hby dB_13)
    refine Go.pull (V := T2.setTop (mkF m 16 #[iv 1] [(.ref r_WireType_FIXED64)])) st2 ?_
    exact Go.retR X2 hx Bd.notSynchronized Bd.returns rfl rfl rfl (hb hby dB_16) ⟨rfl, N0, e2⟩ (by decide) (by decide)
  · skip
    refine Go.pull (V := s₁.setTop (mkF m 1 #[iv 2] [(.int 2)])) (fun t k => XS.iloadN X0.here hx rfl (hb hby dB_0) rfl  k) ?_
    refine Go.pull (V := s₁.setTop (mkF m 8 #[iv 2] [])) (fun t k => XS.ifYes X0.here hx rfl (pc0 := 1) (pc' := 8) rfl (hb hby dB_1) rfl (XT.i0_ne_t (by decide)) (by decide) (by decide) k) ?_
    refine Go.pull (V := s₁.setTop (mkF m 9 #[iv 2] [(.int 2)])) (fun t k => XS.iloadN X0.here hx rfl (hb hby dB_8) rfl  k) ?_
    refine Go.pull (V := s₁.setTop (mkF m 10 #[iv 2] [(.int 1), (.int 2)])) (fun t k => XS.iconst X0.here hx rfl (hb hby dB_9) k) ?_
    refine Go.pull (V := s₁.setTop (mkF m 17 #[iv 2] [])) (fun t k => XS.icmpYes X0.here hx rfl (pc0 := 10) (pc' := 17) rfl (hb hby dB_10) rfl (XT.ii_ne_t (by decide)) (by decide) (by decide) k) ?_
    refine Go.pull (V := s₁.setTop (mkF m 18 #[iv 2] [(.int 2)])) (fun t k => XS.iloadN X0.here hx rfl (hb hby dB_17) rfl  k) ?_
    refine Go.pull (V := s₁.setTop (mkF m 19 #[iv 2] [(.int 2), (.int 2)])) (fun t k => XS.iconst X0.here hx rfl (hb hby dB_18) k) ?_
    refine Go.pull (V := s₁.setTop (mkF m 22 #[iv 2] [])) (fun t k => XS.icmpNo X0.here hx rfl (hb hby dB_19) rfl (XT.ii_ne_f (by decide)) k) ?_
    obtain ⟨T3, X3, e3, st3⟩ := getS2 X0 hx hZ hown (host := "") (Or.inl (hw _ (List.mem_of_getElem? (i := 22) rfl))) Via.refl e0 S_r_WireType_LENGTH_DELIMITED (g := (mkF m 22 #[iv 2] [])) rfl (hb hby dB_22)
    refine Go.pull (V := T3.setTop (mkF m 25 #[iv 2] [(.ref r_WireType_LENGTH_DELIMITED)])) st3 ?_
    exact Go.retR X3 hx Bd.notSynchronized Bd.returns rfl rfl rfl (hb hby dB_25) ⟨rfl, N0, e3⟩ (by decide) (by decide)
  · skip
    refine Go.pull (V := s₁.setTop (mkF m 1 #[iv 3] [(.int 3)])) (fun t k => XS.iloadN X0.here hx rfl (hb hby dB_0) rfl  k) ?_
    refine Go.pull (V := s₁.setTop (mkF m 8 #[iv 3] [])) (fun t k => XS.ifYes X0.here hx rfl (pc0 := 1) (pc' := 8) rfl (hb hby dB_1) rfl (XT.i0_ne_t (by decide)) (by decide) (by decide) k) ?_
    refine Go.pull (V := s₁.setTop (mkF m 9 #[iv 3] [(.int 3)])) (fun t k => XS.iloadN X0.here hx rfl (hb hby dB_8) rfl  k) ?_
    refine Go.pull (V := s₁.setTop (mkF m 10 #[iv 3] [(.int 1), (.int 3)])) (fun t k => XS.iconst X0.here hx rfl (hb hby dB_9) k) ?_
    refine Go.pull (V := s₁.setTop (mkF m 17 #[iv 3] [])) (fun t k => XS.icmpYes X0.here hx rfl (pc0 := 10) (pc' := 17) rfl (hb hby dB_10) rfl (XT.ii_ne_t (by decide)) (by decide) (by decide) k) ?_
    refine Go.pull (V := s₁.setTop (mkF m 18 #[iv 3] [(.int 3)])) (fun t k => XS.iloadN X0.here hx rfl (hb hby dB_17) rfl  k) ?_
    refine Go.pull (V := s₁.setTop (mkF m 19 #[iv 3] [(.int 2), (.int 3)])) (fun t k => XS.iconst X0.here hx rfl (hb hby dB_18) k) ?_
    refine Go.pull (V := s₁.setTop (mkF m 26 #[iv 3] [])) (fun t k => XS.icmpYes X0.here hx rfl (pc0 := 19) (pc' := 26) rfl (hb hby dB_19) rfl (XT.ii_ne_t (by decide)) (by decide) (by decide) k) ?_
    refine Go.pull (V := s₁.setTop (mkF m 27 #[iv 3] [(.int 3)])) (fun t k => XS.iloadN X0.here hx rfl (hb hby dB_26) rfl  k) ?_
    refine Go.pull (V := s₁.setTop (mkF m 28 #[iv 3] [(.int 3), (.int 3)])) (fun t k => XS.iconst X0.here hx rfl (hb hby dB_27) k) ?_
    refine Go.pull (V := s₁.setTop (mkF m 31 #[iv 3] [])) (fun t k => XS.icmpNo X0.here hx rfl (hb hby dB_28) rfl (XT.ii_ne_f (by decide)) k) ?_
    obtain ⟨T4, X4, e4, st4⟩ := getS2 X0 hx hZ hown (host := "") (Or.inl (hw _ (List.mem_of_getElem? (i := 20) rfl))) Via.refl e0 S_r_WireType_START_GROUP (g := (mkF m 31 #[iv 3] [])) rfl (hb hby dB_31)
    refine Go.pull (V := T4.setTop (mkF m 34 #[iv 3] [(.ref r_WireType_START_GROUP)])) st4 ?_
    exact Go.retR X4 hx Bd.notSynchronized Bd.returns rfl rfl rfl (hb hby dB_34) ⟨rfl, N0, e4⟩ (by decide) (by decide)
  · skip
    refine Go.pull (V := s₁.setTop (mkF m 1 #[iv 4] [(.int 4)])) (fun t k => XS.iloadN X0.here hx rfl (hb hby dB_0) rfl  k) ?_
    refine Go.pull (V := s₁.setTop (mkF m 8 #[iv 4] [])) (fun t k => XS.ifYes X0.here hx rfl (pc0 := 1) (pc' := 8) rfl (hb hby dB_1) rfl (XT.i0_ne_t (by decide)) (by decide) (by decide) k) ?_
    refine Go.pull (V := s₁.setTop (mkF m 9 #[iv 4] [(.int 4)])) (fun t k => XS.iloadN X0.here hx rfl (hb hby dB_8) rfl  k) ?_
    refine Go.pull (V := s₁.setTop (mkF m 10 #[iv 4] [(.int 1), (.int 4)])) (fun t k => XS.iconst X0.here hx rfl (hb hby dB_9) k) ?_
    refine Go.pull (V := s₁.setTop (mkF m 17 #[iv 4] [])) (fun t k => XS.icmpYes X0.here hx rfl (pc0 := 10) (pc' := 17) rfl (hb hby dB_10) rfl (XT.ii_ne_t (by decide)) (by decide) (by decide) k) ?_
    refine Go.pull (V := s₁.setTop (mkF m 18 #[iv 4] [(.int 4)])) (fun t k => XS.iloadN X0.here hx rfl (hb hby dB_17) rfl  k) ?_
    refine Go.pull (V := s₁.setTop (mkF m 19 #[iv 4] [(.int 2), (.int 4)])) (fun t k => XS.iconst X0.here hx rfl (hb hby dB_18) k) ?_
    refine Go.pull (V := s₁.setTop (mkF m 26 #[iv 4] [])) (fun t k => XS.icmpYes X0.here hx rfl (pc0 := 19) (pc' := 26) rfl (hb hby dB_19) rfl (XT.ii_ne_t (by decide)) (by decide) (by decide) k) ?_
    refine Go.pull (V := s₁.setTop (mkF m 27 #[iv 4] [(.int 4)])) (fun t k => XS.iloadN X0.here hx rfl (hb hby dB_26) rfl  k) ?_
    refine Go.pull (V := s₁.setTop (mkF m 28 #[iv 4] [(.int 3), (.int 4)])) (fun t k => XS.iconst X0.here hx rfl (hb hby dB_27) k) ?_
    refine Go.pull (V := s₁.setTop (mkF m 35 #[iv 4] [])) (fun t k => XS.icmpYes X0.here hx rfl (pc0 := 28) (pc' := 35) rfl (hb hby dB_28) rfl (XT.ii_ne_t (by decide)) (by decide) (by decide) k) ?_
    refine Go.pull (V := s₁.setTop (mkF m 36 #[iv 4] [(.int 4)])) (fun t k => XS.iloadN X0.here hx rfl (hb hby dB_35) rfl  k) ?_
    refine Go.pull (V := s₁.setTop (mkF m 37 #[iv 4] [(.int 4), (.int 4)])) (fun t k => XS.iconst X0.here hx rfl (hb hby dB_36) k) ?_
    refine Go.pull (V := s₁.setTop (mkF m 40 #[iv 4] [])) (fun t k => XS.icmpNo X0.here hx rfl (hb hby dB_37) rfl (XT.ii_ne_f (by decide)) k) ?_
    obtain ⟨T5, X5, e5, st5⟩ := getS2 X0 hx hZ hown (host := "") (Or.inl (hw _ (List.mem_of_getElem? (i := 26) rfl))) Via.refl e0 S_r_WireType_END_GROUP (g := (mkF m 40 #[iv 4] [])) rfl (hb hby dB_40)
    refine Go.pull (V := T5.setTop (mkF m 43 #[iv 4] [(.ref r_WireType_END_GROUP)])) st5 ?_
    exact Go.retR X5 hx Bd.notSynchronized Bd.returns rfl rfl rfl (hb hby dB_43) ⟨rfl, N0, e5⟩ (by decide) (by decide)
  · skip
    refine Go.pull (V := s₁.setTop (mkF m 1 #[iv 5] [(.int 5)])) (fun t k => XS.iloadN X0.here hx rfl (hb hby dB_0) rfl  k) ?_
    refine Go.pull (V := s₁.setTop (mkF m 8 #[iv 5] [])) (fun t k => XS.ifYes X0.here hx rfl (pc0 := 1) (pc' := 8) rfl (hb hby dB_1) rfl (XT.i0_ne_t (by decide)) (by decide) (by decide) k) ?_
    refine Go.pull (V := s₁.setTop (mkF m 9 #[iv 5] [(.int 5)])) (fun t k => XS.iloadN X0.here hx rfl (hb hby dB_8) rfl  k) ?_
    refine Go.pull (V := s₁.setTop (mkF m 10 #[iv 5] [(.int 1), (.int 5)])) (fun t k => XS.iconst X0.here hx rfl (hb hby dB_9) k) ?_
    refine Go.pull (V := s₁.setTop (mkF m 17 #[iv 5] [])) (fun t k => XS.icmpYes X0.here hx rfl (pc0 := 10) (pc' := 17) rfl (hb hby dB_10) rfl (XT.ii_ne_t (by decide)) (by decide) (by decide) k) ?_
    refine Go.pull (V := s₁.setTop (mkF m 18 #[iv 5] [(.int 5)])) (fun t k => XS.iloadN X0.here hx rfl (hb hby dB_17) rfl  k) ?_
    refine Go.pull (V := s₁.setTop (mkF m 19 #[iv 5] [(.int 2), (.int 5)])) (fun t k => XS.iconst X0.here hx rfl (hb hby dB_18) k) ?_
    refine Go.pull (V := s₁.setTop (mkF m 26 #[iv 5] [])) (fun t k => XS.icmpYes X0.here hx rfl (pc0 := 19) (pc' := 26) rfl (hb hby dB_19) rfl (XT.ii_ne_t (by decide)) (by decide) (by decide) k) ?_
    refine Go.pull (V := s₁.setTop (mkF m 27 #[iv 5] [(.int 5)])) (fun t k => XS.iloadN X0.here hx rfl (hb hby dB_26) rfl  k) ?_
    refine Go.pull (V := s₁.setTop (mkF m 28 #[iv 5] [(.int 3), (.int 5)])) (fun t k => XS.iconst X0.here hx rfl (hb hby dB_27) k) ?_
    refine Go.pull (V := s₁.setTop (mkF m 35 #[iv 5] [])) (fun t k => XS.icmpYes X0.here hx rfl (pc0 := 28) (pc' := 35) rfl (hb hby dB_28) rfl (XT.ii_ne_t (by decide)) (by decide) (by decide) k) ?_
    refine Go.pull (V := s₁.setTop (mkF m 36 #[iv 5] [(.int 5)])) (fun t k => XS.iloadN X0.here hx rfl (hb hby dB_35) rfl  k) ?_
    refine Go.pull (V := s₁.setTop (mkF m 37 #[iv 5] [(.int 4), (.int 5)])) (fun t k => XS.iconst X0.here hx rfl (hb hby dB_36) k) ?_
    refine Go.pull (V := s₁.setTop (mkF m 44 #[iv 5] [])) (fun t k => XS.icmpYes X0.here hx rfl (pc0 := 37) (pc' := 44) rfl (hb hby dB_37) rfl (XT.ii_ne_t (by decide)) (by decide) (by decide) k) ?_
    refine Go.pull (V := s₁.setTop (mkF m 45 #[iv 5] [(.int 5)])) (fun t k => XS.iloadN X0.here hx rfl (hb hby dB_44) rfl  k) ?_
    refine Go.pull (V := s₁.setTop (mkF m 46 #[iv 5] [(.int 5), (.int 5)])) (fun t k => XS.iconst X0.here hx rfl (hb hby dB_45) k) ?_
    refine Go.pull (V := s₁.setTop (mkF m 49 #[iv 5] [])) (fun t k => XS.icmpNo X0.here hx rfl (hb hby dB_46) rfl (XT.ii_ne_f (by decide)) k) ?_
    obtain ⟨T6, X6, e6, st6⟩ := getS2 X0 hx hZ hown (host := "") (Or.inl (hw _ (List.mem_of_getElem? (i := 28) rfl))) Via.refl e0 S_r_WireType_FIXED32 (g := (mkF m 49 #[iv 5] [])) rfl (hb hby dB_49)
    refine Go.pull (V := T6.setTop (mkF m 52 #[iv 5] [(.ref r_WireType_FIXED32)])) st6 ?_
    exact Go.retR X6 hx Bd.notSynchronized Bd.returns rfl rfl rfl (hb hby dB_52) ⟨rfl, N0, e6⟩ (by decide) (by decide)
  · skip
    refine Go.pull (V := s₁.setTop (mkF m 1 #[iv 6] [(.int 6)])) (fun t k => XS.iloadN X0.here hx rfl (hb hby dB_0) rfl  k) ?_
    refine Go.pull (V := s₁.setTop (mkF m 8 #[iv 6] [])) (fun t k => XS.ifYes X0.here hx rfl (pc0 := 1) (pc' := 8) rfl (hb hby dB_1) rfl (XT.i0_ne_t (by decide)) (by decide) (by decide) k) ?_
    refine Go.pull (V := s₁.setTop (mkF m 9 #[iv 6] [(.int 6)])) (fun t k => XS.iloadN X0.here hx rfl (hb hby dB_8) rfl  k) ?_
    refine Go.pull (V := s₁.setTop (mkF m 10 #[iv 6] [(.int 1), (.int 6)])) (fun t k => XS.iconst X0.here hx rfl (hb hby dB_9) k) ?_
    refine Go.pull (V := s₁.setTop (mkF m 17 #[iv 6] [])) (fun t k => XS.icmpYes X0.here hx rfl (pc0 := 10) (pc' := 17) rfl (hb hby dB_10) rfl (XT.ii_ne_t (by decide)) (by decide) (by decide) k) ?_
    refine Go.pull (V := s₁.setTop (mkF m 18 #[iv 6] [(.int 6)])) (fun t k => XS.iloadN X0.here hx rfl (hb hby dB_17) rfl  k) ?_
    refine Go.pull (V := s₁.setTop (mkF m 19 #[iv 6] [(.int 2), (.int 6)])) (fun t k => XS.iconst X0.here hx rfl (hb hby dB_18) k) ?_
    refine Go.pull (V := s₁.setTop (mkF m 26 #[iv 6] [])) (fun t k => XS.icmpYes X0.here hx rfl (pc0 := 19) (pc' := 26) rfl (hb hby dB_19) rfl (XT.ii_ne_t (by decide)) (by decide) (by decide) k) ?_
    refine Go.pull (V := s₁.setTop (mkF m 27 #[iv 6] [(.int 6)])) (fun t k => XS.iloadN X0.here hx rfl (hb hby dB_26) rfl  k) ?_
    refine Go.pull (V := s₁.setTop (mkF m 28 #[iv 6] [(.int 3), (.int 6)])) (fun t k => XS.iconst X0.here hx rfl (hb hby dB_27) k) ?_
    refine Go.pull (V := s₁.setTop (mkF m 35 #[iv 6] [])) (fun t k => XS.icmpYes X0.here hx rfl (pc0 := 28) (pc' := 35) rfl (hb hby dB_28) rfl (XT.ii_ne_t (by decide)) (by decide) (by decide) k) ?_
    refine Go.pull (V := s₁.setTop (mkF m 36 #[iv 6] [(.int 6)])) (fun t k => XS.iloadN X0.here hx rfl (hb hby dB_35) rfl  k) ?_
    refine Go.pull (V := s₁.setTop (mkF m 37 #[iv 6] [(.int 4), (.int 6)])) (fun t k => XS.iconst X0.here hx rfl (hb hby dB_36) k) ?_
    refine Go.pull (V := s₁.setTop (mkF m 44 #[iv 6] [])) (fun t k => XS.icmpYes X0.here hx rfl (pc0 := 37) (pc' := 44) rfl (hb hby dB_37) rfl (XT.ii_ne_t (by decide)) (by decide) (by decide) k) ?_
    refine Go.pull (V := s₁.setTop (mkF m 45 #[iv 6] [(.int 6)])) (fun t k => XS.iloadN X0.here hx rfl (hb hby dB_44) rfl  k) ?_
    refine Go.pull (V := s₁.setTop (mkF m 46 #[iv 6] [(.int 5), (.int 6)])) (fun t k => XS.iconst X0.here hx rfl (hb hby dB_45) k) ?_
    refine Go.pull (V := s₁.setTop (mkF m 53 #[iv 6] [])) (fun t k => XS.icmpYes X0.here hx rfl (pc0 := 46) (pc' := 53) rfl (hb hby dB_46) rfl (XT.ii_ne_t (by decide)) (by decide) (by decide) k) ?_
    refine Go.pull (V := s₁.setTop (mkF m 54 #[iv 6] [.null])) (fun t k => XS.aconstNull X0.here hx rfl (hb hby dB_53) k) ?_
    exact Go.retR X0 hx Bd.notSynchronized Bd.returns rfl rfl rfl (hb hby dB_54) ⟨rfl, N0, e0⟩ (by decide) (by decide)
  · skip
    refine Go.pull (V := s₁.setTop (mkF m 1 #[iv 7] [(.int 7)])) (fun t k => XS.iloadN X0.here hx rfl (hb hby dB_0) rfl  k) ?_
    refine Go.pull (V := s₁.setTop (mkF m 8 #[iv 7] [])) (fun t k => XS.ifYes X0.here hx rfl (pc0 := 1) (pc' := 8) rfl (hb hby dB_1) rfl (XT.i0_ne_t (by decide)) (by decide) (by decide) k) ?_
    refine Go.pull (V := s₁.setTop (mkF m 9 #[iv 7] [(.int 7)])) (fun t k => XS.iloadN X0.here hx rfl (hb hby dB_8) rfl  k) ?_
    refine Go.pull (V := s₁.setTop (mkF m 10 #[iv 7] [(.int 1), (.int 7)])) (fun t k => XS.iconst X0.here hx rfl (hb hby dB_9) k) ?_
    refine Go.pull (V := s₁.setTop (mkF m 17 #[iv 7] [])) (fun t k => XS.icmpYes X0.here hx rfl (pc0 := 10) (pc' := 17) rfl (hb hby dB_10) rfl (XT.ii_ne_t (by decide)) (by decide) (by decide) k) ?_
    refine Go.pull (V := s₁.setTop (mkF m 18 #[iv 7] [(.int 7)])) (fun t k => XS.iloadN X0.here hx rfl (hb hby dB_17) rfl  k) ?_
    refine Go.pull (V := s₁.setTop (mkF m 19 #[iv 7] [(.int 2), (.int 7)])) (fun t k => XS.iconst X0.here hx rfl (hb hby dB_18) k) ?_
    refine Go.pull (V := s₁.setTop (mkF m 26 #[iv 7] [])) (fun t k => XS.icmpYes X0.here hx rfl (pc0 := 19) (pc' := 26) rfl (hb hby dB_19) rfl (XT.ii_ne_t (by decide)) (by decide) (by decide) k) ?_
    refine Go.pull (V := s₁.setTop (mkF m 27 #[iv 7] [(.int 7)])) (fun t k => XS.iloadN X0.here hx rfl (hb hby dB_26) rfl  k) ?_
    refine Go.pull (V := s₁.setTop (mkF m 28 #[iv 7] [(.int 3), (.int 7)])) (fun t k => XS.iconst X0.here hx rfl (hb hby dB_27) k) ?_
    refine Go.pull (V := s₁.setTop (mkF m 35 #[iv 7] [])) (fun t k => XS.icmpYes X0.here hx rfl (pc0 := 28) (pc' := 35) rfl (hb hby dB_28) rfl (XT.ii_ne_t (by decide)) (by decide) (by decide) k) ?_
    refine Go.pull (V := s₁.setTop (mkF m 36 #[iv 7] [(.int 7)])) (fun t k => XS.iloadN X0.here hx rfl (hb hby dB_35) rfl  k) ?_
    refine Go.pull (V := s₁.setTop (mkF m 37 #[iv 7] [(.int 4), (.int 7)])) (fun t k => XS.iconst X0.here hx rfl (hb hby dB_36) k) ?_
    refine Go.pull (V := s₁.setTop (mkF m 44 #[iv 7] [])) (fun t k => XS.icmpYes X0.here hx rfl (pc0 := 37) (pc' := 44) rfl (hb hby dB_37) rfl (XT.ii_ne_t (by decide)) (by decide) (by decide) k) ?_
    refine Go.pull (V := s₁.setTop (mkF m 45 #[iv 7] [(.int 7)])) (fun t k => XS.iloadN X0.here hx rfl (hb hby dB_44) rfl  k) ?_
    refine Go.pull (V := s₁.setTop (mkF m 46 #[iv 7] [(.int 5), (.int 7)])) (fun t k => XS.iconst X0.here hx rfl (hb hby dB_45) k) ?_
    refine Go.pull (V := s₁.setTop (mkF m 53 #[iv 7] [])) (fun t k => XS.icmpYes X0.here hx rfl (pc0 := 46) (pc' := 53) rfl (hb hby dB_46) rfl (XT.ii_ne_t (by decide)) (by decide) (by decide) k) ?_
    refine Go.pull (V := s₁.setTop (mkF m 54 #[iv 7] [.null])) (fun t k => XS.aconstNull X0.here hx rfl (hb hby dB_53) k) ?_
    exact Go.retR X0 hx Bd.notSynchronized Bd.returns rfl rfl rfl (hb hby dB_54) ⟨rfl, N0, e0⟩ (by decide) (by decide)
theorem dN_0 : decode prog_78_method_4_code 0 = .ok (.aload_n 0, 1) := by decide +kernel
theorem dN_1 : decode prog_78_method_4_code 1 = .ok (.getfield 41, 3) := by decide +kernel
theorem dN_4 : decode prog_78_method_4_code 4 = .ok (.ireturn, 1) := by decide +kernel
theorem efN (m : MethodId) (x0 : Addr) : entryFrame m #[(.ref x0)] 1 = mkF m 0 #[rv x0] [] := by first | (simp [entryFrame, mkF, argsToLocals, Value.category]; done) | rfl
def QN (Z : State) (a : Addr) (pn : Int32) (h0 : Heap) (n0 : Nat) (v : Option Value) (h : Heap) (L : List Loc) : Prop := v = some (.int pn) ∧ Fr n0 L ∧ h = h0
set_option maxRecDepth 65536 in
set_option maxHeartbeats 40000000 in
theorem rmN (l : Launch) (Z : State) (a0 : Array Value) (hw : ∀ d ∈ tables_1, d.before a0 Z = true) (ws : List Jvm.Cond) (a : Addr) (pn : Int32) (h0 : Heap) (n0 : Nat) (Fn : Fld Z h0 a "com/example/tagwire/tagwire/WireType" "number" "I" (.int pn)) :
    MetFree l (⟨"com/example/tagwire/tagwire/WireType", "number", "()I"⟩ : MethodName) (head1 (Jvm.Cond.code (⟨"com/example/tagwire/tagwire/WireType", "number", "()I"⟩ : MethodName) prog_78_method_4_code 1 (some .int) :: ws) ({ frames := 0, cells := 0, slots := 0, locals := 0 } : Room)) (fun as' U => as' = #[(.ref a)] ∧ Z.Warmed39 U.vm ∧ U.heap = h0) (fun _ _ _ _ _ => True) (fun _ U o U' => ∃ v L, o = .returned v ∧ QN Z a pn h0 n0 v U'.heap L ∧ FrameEnd U o U' L ({ frames := 0, cells := 0, slots := 0, locals := 0 } : Room).cells ({ frames := 0, cells := 0, slots := 0, locals := 0 } : Room).slots) := by
  refine MetFree.of_bodySF (plainFor_of_name pn_com_example_tagwire_tagwire_WireType) hisR ?_
  intro p e s m args below meth c s₁ Bd hml0 hP hK
  obtain ⟨rfl, hZ, hh⟩ := hP
  have hx := Bd.exec
  have hby := Bd.bytes
  have hml : c.maxLocals = 1 := hml0
  have hown : s.vm.findClass "com/example/tagwire/tagwire/WireType" = some m.cls := findClass_of_methodNamed Bd.named
  have hnm := (name_of_methodNamed Bd.named Bd.method).1
  have X0 : Stand p l e ({ frames := 0, cells := 0, slots := 0, locals := 0 } : Room) s m #[(.ref a)] below meth c s₁ [] 0 0 := Stand.of_body Bd
  have e0 : s₁.heap = h0 := by rw [← hh, Bd.state]; rfl
  have N0 := Fr.nil n0
  show Go p e below s (fun v h L => QN Z a pn h0 n0 v h L) 0 0 _
  refine Go.pull (V := s₁.setTop (mkF m 0 #[rv a] [])) (fun t k => castTop (efN m a) k) ?_
  refine Go.pull (V := s₁.setTop (mkF m 1 #[rv a] [(.ref a)])) (fun t k => XS.aloadN X0.here hx rfl (hb hby dN_0) rfl rfl k) ?_
  obtain ⟨T1, X1, e1, st1⟩ := getF X0 hx hZ hown (host := "") (Or.inl (hw _ (List.mem_of_getElem? (i := 17) rfl))) Via.refl e0 Fn (g := (mkF m 1 #[rv a] [(.ref a)])) rfl rfl (hb hby dN_1)
  refine Go.pull (V := T1.setTop (mkF m 4 #[rv a] [(.int pn)])) st1 ?_
  exact Go.retI X1 hx Bd.notSynchronized Bd.returns (hb hby dN_4) ⟨rfl, N0, e1⟩ (by decide) (by decide)
theorem ef0 (m : MethodId) (x0 : Int32) : entryFrame m #[(.int x0)] maxLocals = mkF m 0 #[iv x0, .unset, .unset, .unset] [] := by first | (simp [entryFrame, mkF, argsToLocals, Value.category, maxLocals]; done) | rfl
def Q0 (Z : State) (pa : Int32) (r_WireType_VARINT : Addr) (r_WireType_START_GROUP : Addr) (r_WireType_LENGTH_DELIMITED : Addr) (r_WireType_FIXED64 : Addr) (r_WireType_END_GROUP : Addr) (r_WireType_FIXED32 : Addr) (r_WireType_BY_NUMBER : Addr) (k_r_WireType_BY_NUMBER : ClassId) (h0 : Heap) (n0 : Nat) (v : Option Value) (h : Heap) (L : List Loc) : Prop := v = some (.int 1) ∧ Fr n0 L
set_option maxRecDepth 65536 in
set_option maxHeartbeats 40000000 in
theorem rm0 (l : Launch) (Z : State) (a0 : Array Value) (hw : ∀ d ∈ tables_1, d.before a0 Z = true) (ws : List Jvm.Cond) (pa : Int32) (r_WireType_VARINT : Addr) (r_WireType_START_GROUP : Addr) (r_WireType_LENGTH_DELIMITED : Addr) (r_WireType_FIXED64 : Addr) (r_WireType_END_GROUP : Addr) (r_WireType_FIXED32 : Addr) (r_WireType_BY_NUMBER : Addr) (k_r_WireType_BY_NUMBER : ClassId) (h0 : Heap) (n0 : Nat) (Z0 : n0 ≤ h0.size) (S_r_WireType_VARINT : Sta Z h0 "com/example/tagwire/tagwire/WireType" "VARINT" "Lcom/example/tagwire/tagwire/WireType;" (.ref r_WireType_VARINT)) (E_r_WireType_VARINT : Exa Z h0 r_WireType_VARINT "com/example/tagwire/tagwire/WireType") (S_r_WireType_START_GROUP : Sta Z h0 "com/example/tagwire/tagwire/WireType" "START_GROUP" "Lcom/example/tagwire/tagwire/WireType;" (.ref r_WireType_START_GROUP)) (E_r_WireType_START_GROUP : Exa Z h0 r_WireType_START_GROUP "com/example/tagwire/tagwire/WireType") (S_r_WireType_LENGTH_DELIMITED : Sta Z h0 "com/example/tagwire/tagwire/WireType" "LENGTH_DELIMITED" "Lcom/example/tagwire/tagwire/WireType;" (.ref r_WireType_LENGTH_DELIMITED)) (E_r_WireType_LENGTH_DELIMITED : Exa Z h0 r_WireType_LENGTH_DELIMITED "com/example/tagwire/tagwire/WireType") (S_r_WireType_FIXED64 : Sta Z h0 "com/example/tagwire/tagwire/WireType" "FIXED64" "Lcom/example/tagwire/tagwire/WireType;" (.ref r_WireType_FIXED64)) (E_r_WireType_FIXED64 : Exa Z h0 r_WireType_FIXED64 "com/example/tagwire/tagwire/WireType") (S_r_WireType_END_GROUP : Sta Z h0 "com/example/tagwire/tagwire/WireType" "END_GROUP" "Lcom/example/tagwire/tagwire/WireType;" (.ref r_WireType_END_GROUP)) (E_r_WireType_END_GROUP : Exa Z h0 r_WireType_END_GROUP "com/example/tagwire/tagwire/WireType") (S_r_WireType_FIXED32 : Sta Z h0 "com/example/tagwire/tagwire/WireType" "FIXED32" "Lcom/example/tagwire/tagwire/WireType;" (.ref r_WireType_FIXED32)) (E_r_WireType_FIXED32 : Exa Z h0 r_WireType_FIXED32 "com/example/tagwire/tagwire/WireType") (F_r_WireType_VARINT_number : Fld Z h0 r_WireType_VARINT "com/example/tagwire/tagwire/WireType" "number" "I" (.int 0)) (F_r_WireType_START_GROUP_number : Fld Z h0 r_WireType_START_GROUP "com/example/tagwire/tagwire/WireType" "number" "I" (.int 3)) (F_r_WireType_LENGTH_DELIMITED_number : Fld Z h0 r_WireType_LENGTH_DELIMITED "com/example/tagwire/tagwire/WireType" "number" "I" (.int 2)) (F_r_WireType_FIXED64_number : Fld Z h0 r_WireType_FIXED64 "com/example/tagwire/tagwire/WireType" "number" "I" (.int 1)) (F_r_WireType_END_GROUP_number : Fld Z h0 r_WireType_END_GROUP "com/example/tagwire/tagwire/WireType" "number" "I" (.int 4)) (F_r_WireType_FIXED32_number : Fld Z h0 r_WireType_FIXED32 "com/example/tagwire/tagwire/WireType" "number" "I" (.int 5)) (S_r_WireType_BY_NUMBER : Sta Z h0 "com/example/tagwire/tagwire/WireType" "BY_NUMBER" "[Lcom/example/tagwire/tagwire/WireType;" (.ref r_WireType_BY_NUMBER)) (V_r_WireType_BY_NUMBER : Arv Z h0 r_WireType_BY_NUMBER k_r_WireType_BY_NUMBER (.object "com/example/tagwire/tagwire/WireType") (6 : Int32) [(.ref r_WireType_VARINT), (.ref r_WireType_FIXED64), (.ref r_WireType_LENGTH_DELIMITED), (.ref r_WireType_START_GROUP), (.ref r_WireType_END_GROUP), (.ref r_WireType_FIXED32)] .null) :
    MetFree l x (head1 (Jvm.Cond.code x code maxLocals ret :: ws) room_1) (fun as' U => as' = #[(.int pa)] ∧ Z.Warmed39 U.vm ∧ U.heap = h0) (fun _ _ _ _ _ => True) (fun _ U o U' => ∃ v L, o = .returned v ∧ Q0 Z pa r_WireType_VARINT r_WireType_START_GROUP r_WireType_LENGTH_DELIMITED r_WireType_FIXED64 r_WireType_END_GROUP r_WireType_FIXED32 r_WireType_BY_NUMBER k_r_WireType_BY_NUMBER h0 n0 v U'.heap L ∧ FrameEnd U o U' L 0 0) := by
  refine MetFree.of_bodySF (plainFor_of_name pn_com_example_tagwire_tagwire_WireTypeOfNumberPinLaw) hisR ?_
  intro p e s m args below meth c s₁ Bd hml0 hP hK
  obtain ⟨rfl, hZ, hh⟩ := hP
  have hx := Bd.exec
  have hby := Bd.bytes
  have hml : c.maxLocals = 4 := hml0
  have hown : s.vm.findClass "com/example/tagwire/tagwire/WireTypeOfNumberPinLaw" = some m.cls := findClass_of_methodNamed Bd.named
  have hnm := (name_of_methodNamed Bd.named Bd.method).1
  have X0 : Stand p l e room_1 s m #[(.int pa)] below meth c s₁ [] 0 0 := Stand.of_body Bd
  have e0 : s₁.heap = h0 := by rw [← hh, Bd.state]; rfl
  have N0 := Fr.nil n0
  show Go p e below s (fun v h L => Q0 Z pa r_WireType_VARINT r_WireType_START_GROUP r_WireType_LENGTH_DELIMITED r_WireType_FIXED64 r_WireType_END_GROUP r_WireType_FIXED32 r_WireType_BY_NUMBER k_r_WireType_BY_NUMBER h0 n0 v h L) 0 0 _
  refine Go.pull (V := s₁.setTop (mkF m 0 #[iv pa, .unset, .unset, .unset] [])) (fun t k => castTop (ef0 m pa) k) ?_
  refine Go.pull (V := s₁.setTop (mkF m 1 #[iv pa, .unset, .unset, .unset] [(.int pa)])) (fun t k => XS.iloadN X0.here hx rfl (hb hby at_0) rfl  k) ?_
  refine Go.pull (V := s₁.setTop (mkF m 3 #[iv pa, .unset, .unset, .unset] [(.int 7), (.int pa)])) (fun t k => XS.bipush X0.here hx rfl (hb hby at_1) k) ?_
  refine Go.pull (V := s₁.setTop (mkF m 4 #[iv pa, .unset, .unset, .unset] [(.int (pa &&& (7 : Int32)))])) (fun t k => XS.iand X0.here hx rfl (hb hby at_3) rfl k) ?_
  refine Go.pull (V := s₁.setTop (mkF m 5 #[iv pa, iv (pa &&& (7 : Int32)), .unset, .unset] [])) (fun t k => XS.istoreN X0.here hx rfl (hb hby at_4) rfl (l' := #[iv pa, iv (pa &&& (7 : Int32)), .unset, .unset]) rfl k) ?_
  generalize gv1 : (pa &&& (7 : Int32)) = v1
  obtain hv1 | hv1 | hv1 | hv1 | hv1 | hv1 | hv1 | hv1 := own_and7 _ gv1
  · subst hv1
    refine Go.pull (V := s₁.setTop (mkF m 6 #[iv pa, iv 0, .unset, .unset] [(.int 0)])) (fun t k => XS.iloadN X0.here hx rfl (hb hby at_5) rfl  k) ?_
    obtain ⟨_, _, ⟨T2, L2, k2, n2⟩, -, X2, ⟨Lc2, hQ2, l2, y2, z2⟩, st2⟩ := Jvm.LawKit.callS X0 hx (y := (⟨"com/example/tagwire/tagwire/WireType", "ofNumber", "(I)Lcom/example/tagwire/tagwire/WireType;"⟩ : MethodName)) hown (mvT hZ (hw _ (List.mem_of_getElem? (i := 0) rfl))) (mvT hZ (hw _ (List.mem_of_getElem? (i := 1) rfl))) (mvT hZ (hw _ (List.mem_of_getElem? (i := 2) rfl))) (mvT hZ (hw _ (List.mem_of_getElem? (i := 3) rfl))) (by decide) (backOf (W := 0) (rmA l Z a0 hw [] (0 : Int32) r_WireType_BY_NUMBER k_r_WireType_BY_NUMBER r_WireType_VARINT r_WireType_FIXED64 r_WireType_LENGTH_DELIMITED r_WireType_START_GROUP r_WireType_END_GROUP r_WireType_FIXED32 h0 n0 S_r_WireType_BY_NUMBER V_r_WireType_BY_NUMBER (by decide)) hZ (hw _ (List.mem_of_getElem? (i := 3) rfl)) (hw _ (List.mem_of_getElem? (i := 2) rfl)) (by decide) (by decide)) (g := (mkF m 6 #[iv pa, iv 0, .unset, .unset] [(.int 0)])) rfl (by rw [hml]; rfl) (argsL := [(.int 0)]) (rest := []) (lenOf pd_0 rfl) rfl (by show 2 * 0 + _ ≤ _; exact Nat.le_of_eq rfl) (hb hby at_6) (fun _ _ => ⟨rfl, e0, (by decide : 0 + 0 ≤ _), (by decide : 0 + 0 ≤ _)⟩)
    dsimp only [Pt.U, Pt.locs, Pt.cells, Pt.slots] at X2 l2 y2 z2 st2 hQ2
    subst l2 y2 z2
    obtain ⟨hv2, N2q, e2⟩ := hQ2
    rw [(show (own_of r_WireType_VARINT r_WireType_FIXED64 r_WireType_LENGTH_DELIMITED r_WireType_START_GROUP r_WireType_END_GROUP r_WireType_FIXED32 (0 : Int32)) = (.ref r_WireType_VARINT) from rfl)] at hv2; subst hv2
    have N2 := Fr.app N0 N2q
    refine Go.pull (V := T2.setTop (mkF m 9 #[iv pa, iv 0, .unset, .unset] [(.ref r_WireType_VARINT)])) st2 ?_
    refine Go.pull (V := T2.setTop (mkF m 10 #[iv pa, iv 0, rv r_WireType_VARINT, .unset] [])) (fun t k => XS.astoreN X2.here hx rfl (hb hby at_9) rfl rfl (l' := #[iv pa, iv 0, rv r_WireType_VARINT, .unset]) rfl k) ?_
    refine Go.pull (V := T2.setTop (mkF m 11 #[iv pa, iv 0, rv r_WireType_VARINT, .unset] [(.int 0)])) (fun t k => XS.iloadN X2.here hx rfl (hb hby at_10) rfl  k) ?_
    obtain ⟨_, _, ⟨T3, L3, k3, n3⟩, -, X3, ⟨Lc3, hQ3, l3, y3, z3⟩, st3⟩ := Jvm.LawKit.callS X2 hx (y := (⟨"com/example/tagwire/tagwire/WireTypeOfNumberPinLaw", "expected", "(I)Lcom/example/tagwire/tagwire/WireType;"⟩ : MethodName)) hown (mvT hZ (hw _ (List.mem_of_getElem? (i := 7) rfl))) (mvT hZ (hw _ (List.mem_of_getElem? (i := 8) rfl))) (mvT hZ (hw _ (List.mem_of_getElem? (i := 9) rfl))) (mvT hZ (hw _ (List.mem_of_getElem? (i := 10) rfl))) (by decide) (backOf (W := 0) (rmB l Z a0 hw [] (0 : Int32) r_WireType_VARINT r_WireType_FIXED64 r_WireType_LENGTH_DELIMITED r_WireType_START_GROUP r_WireType_END_GROUP r_WireType_FIXED32 h0 n0 S_r_WireType_VARINT S_r_WireType_FIXED64 S_r_WireType_LENGTH_DELIMITED S_r_WireType_START_GROUP S_r_WireType_END_GROUP S_r_WireType_FIXED32 (by decide)) hZ (hw _ (List.mem_of_getElem? (i := 10) rfl)) (hw _ (List.mem_of_getElem? (i := 9) rfl)) (by decide) (by decide)) (g := (mkF m 11 #[iv pa, iv 0, rv r_WireType_VARINT, .unset] [(.int 0)])) rfl (by rw [hml]; rfl) (argsL := [(.int 0)]) (rest := []) (lenOf pd_0 rfl) rfl (by show 2 * 0 + _ ≤ _; exact Nat.le_of_eq rfl) (hb hby at_11) (fun _ _ => ⟨rfl, e2, (by decide : 0 + 0 ≤ _), (by decide : 0 + 0 ≤ _)⟩)
    dsimp only [Pt.U, Pt.locs, Pt.cells, Pt.slots] at X3 l3 y3 z3 st3 hQ3
    subst l3 y3 z3
    obtain ⟨hv3, N3q, e3⟩ := hQ3
    rw [(show (own_of r_WireType_VARINT r_WireType_FIXED64 r_WireType_LENGTH_DELIMITED r_WireType_START_GROUP r_WireType_END_GROUP r_WireType_FIXED32 (0 : Int32)) = (.ref r_WireType_VARINT) from rfl)] at hv3; subst hv3
    have N3 := Fr.app N2 N3q
    refine Go.pull (V := T3.setTop (mkF m 14 #[iv pa, iv 0, rv r_WireType_VARINT, .unset] [(.ref r_WireType_VARINT)])) st3 ?_
    refine Go.pull (V := T3.setTop (mkF m 15 #[iv pa, iv 0, rv r_WireType_VARINT, rv r_WireType_VARINT] [])) (fun t k => XS.astoreN X3.here hx rfl (hb hby at_14) rfl rfl (l' := #[iv pa, iv 0, rv r_WireType_VARINT, rv r_WireType_VARINT]) rfl k) ?_
    refine Go.pull (V := T3.setTop (mkF m 16 #[iv pa, iv 0, rv r_WireType_VARINT, rv r_WireType_VARINT] [(.ref r_WireType_VARINT)])) (fun t k => XS.aloadN X3.here hx rfl (hb hby at_15) rfl rfl k) ?_
    refine Go.pull (V := T3.setTop (mkF m 17 #[iv pa, iv 0, rv r_WireType_VARINT, rv r_WireType_VARINT] [(.ref r_WireType_VARINT), (.ref r_WireType_VARINT)])) (fun t k => XS.aloadN X3.here hx rfl (hb hby at_16) rfl rfl k) ?_
    refine Go.pull (V := T3.setTop (mkF m 22 #[iv pa, iv 0, rv r_WireType_VARINT, rv r_WireType_VARINT] [])) (fun t k => XT.acmpYes X3.here hx rfl (pc0 := 17) (pc' := 22) rfl (hb hby at_17) rfl rfl rfl (XT.aa_eq_t rfl) (by decide) (by decide) k) ?_
    refine Go.pull (V := T3.setTop (mkF m 23 #[iv pa, iv 0, rv r_WireType_VARINT, rv r_WireType_VARINT] [(.ref r_WireType_VARINT)])) (fun t k => XS.aloadN X3.here hx rfl (hb hby at_22) rfl rfl k) ?_
    refine Go.pull (V := T3.setTop (mkF m 38 #[iv pa, iv 0, rv r_WireType_VARINT, rv r_WireType_VARINT] [])) (fun t k => XS.ifnonnullYes X3.here hx rfl (pc0 := 23) (pc' := 38) rfl (hb hby at_23) rfl (by decide) (by decide) k) ?_
    refine Go.pull (V := T3.setTop (mkF m 39 #[iv pa, iv 0, rv r_WireType_VARINT, rv r_WireType_VARINT] [(.ref r_WireType_VARINT)])) (fun t k => XS.aloadN X3.here hx rfl (hb hby at_38) rfl rfl k) ?_
    obtain ⟨cq4, kq4, q4a, q4b, q4c⟩ := isOf hZ e3 E_r_WireType_VARINT
    obtain ⟨_, _, ⟨T4, L4, k4, n4⟩, -, X4, ⟨Lc4, hQ4, l4, y4, z4⟩, st4⟩ := X3.virtualBack hx (y := (⟨"com/example/tagwire/tagwire/WireType", "number", "()I"⟩ : MethodName)) (z := (⟨"com/example/tagwire/tagwire/WireType", "number", "()I"⟩ : MethodName)) hown (mvT hZ (hw _ (List.mem_of_getElem? (i := 12) rfl))) (mvT hZ (hw _ (List.mem_of_getElem? (i := 13) rfl))) (notFace_of_selects (args := #[]) (mvT hZ (hw _ (List.mem_of_getElem? (i := 15) rfl)))) (mvT hZ (hw _ (List.mem_of_getElem? (i := 15) rfl))) (mvT hZ (hw _ (List.mem_of_getElem? (i := 14) rfl))) (by decide) (backOf (W := 0) (rmN l Z a0 hw [] r_WireType_VARINT (0 : Int32) h0 n0 F_r_WireType_VARINT_number) hZ (hw _ (List.mem_of_getElem? (i := 16) rfl)) (hw _ (List.mem_of_getElem? (i := 2) rfl)) (by decide) (by decide)) q4a q4c (g := (mkF m 39 #[iv pa, iv 0, rv r_WireType_VARINT, rv r_WireType_VARINT] [(.ref r_WireType_VARINT)])) rfl (by rw [hml]; rfl) (Steps.refl _) (argsL := []) (rest := []) (lenOf pd_1 rfl) rfl (by show 2 * 0 + _ ≤ _; exact Nat.le_of_eq rfl) (hb hby at_39) (fun _ _ => ⟨rfl, e3, (by decide : 0 + 0 ≤ _), (by decide : 0 + 0 ≤ _)⟩)
    dsimp only [Pt.U, Pt.locs, Pt.cells, Pt.slots] at X4 l4 y4 z4 st4 hQ4
    subst l4 y4 z4
    obtain ⟨rfl, N4q, e4⟩ := hQ4
    have N4 := Fr.app N3 N4q
    refine Go.pull (V := T4.setTop (mkF m 42 #[iv pa, iv 0, rv r_WireType_VARINT, rv r_WireType_VARINT] [(.int 0)])) (fun _ k => st4.trans k) ?_
    refine Go.pull (V := T4.setTop (mkF m 43 #[iv pa, iv 0, rv r_WireType_VARINT, rv r_WireType_VARINT] [(.int 0), (.int 0)])) (fun t k => XS.iloadN X4.here hx rfl (hb hby at_42) rfl  k) ?_
    refine Go.pull (V := T4.setTop (mkF m 46 #[iv pa, iv 0, rv r_WireType_VARINT, rv r_WireType_VARINT] [])) (fun t k => XS.icmpNo X4.here hx rfl (hb hby at_43) rfl (XT.ii_ne_f (by decide)) k) ?_
    refine Go.pull (V := T4.setTop (mkF m 47 #[iv pa, iv 0, rv r_WireType_VARINT, rv r_WireType_VARINT] [(.int 1)])) (fun t k => XS.iconst X4.here hx rfl (hb hby at_46) k) ?_
    refine Go.pull (V := T4.setTop (mkF m 51 #[iv pa, iv 0, rv r_WireType_VARINT, rv r_WireType_VARINT] [(.int 1)])) (fun t k => XS.goto X4.here hx rfl (pc0 := 47) (pc' := 51) rfl (hb hby at_47) (by decide) (by decide) k) ?_
    exact Go.retN X4 hx Bd.notSynchronized (t := .boolean) Bd.returns (by simp) (hb hby at_51) ⟨rfl, N4⟩ (by decide) (by decide)
  · subst hv1
    refine Go.pull (V := s₁.setTop (mkF m 6 #[iv pa, iv 1, .unset, .unset] [(.int 1)])) (fun t k => XS.iloadN X0.here hx rfl (hb hby at_5) rfl  k) ?_
    obtain ⟨_, _, ⟨T5, L5, k5, n5⟩, -, X5, ⟨Lc5, hQ5, l5, y5, z5⟩, st5⟩ := Jvm.LawKit.callS X0 hx (y := (⟨"com/example/tagwire/tagwire/WireType", "ofNumber", "(I)Lcom/example/tagwire/tagwire/WireType;"⟩ : MethodName)) hown (mvT hZ (hw _ (List.mem_of_getElem? (i := 0) rfl))) (mvT hZ (hw _ (List.mem_of_getElem? (i := 1) rfl))) (mvT hZ (hw _ (List.mem_of_getElem? (i := 2) rfl))) (mvT hZ (hw _ (List.mem_of_getElem? (i := 3) rfl))) (by decide) (backOf (W := 0) (rmA l Z a0 hw [] (1 : Int32) r_WireType_BY_NUMBER k_r_WireType_BY_NUMBER r_WireType_VARINT r_WireType_FIXED64 r_WireType_LENGTH_DELIMITED r_WireType_START_GROUP r_WireType_END_GROUP r_WireType_FIXED32 h0 n0 S_r_WireType_BY_NUMBER V_r_WireType_BY_NUMBER (by decide)) hZ (hw _ (List.mem_of_getElem? (i := 3) rfl)) (hw _ (List.mem_of_getElem? (i := 2) rfl)) (by decide) (by decide)) (g := (mkF m 6 #[iv pa, iv 1, .unset, .unset] [(.int 1)])) rfl (by rw [hml]; rfl) (argsL := [(.int 1)]) (rest := []) (lenOf pd_0 rfl) rfl (by show 2 * 0 + _ ≤ _; exact Nat.le_of_eq rfl) (hb hby at_6) (fun _ _ => ⟨rfl, e0, (by decide : 0 + 0 ≤ _), (by decide : 0 + 0 ≤ _)⟩)
    dsimp only [Pt.U, Pt.locs, Pt.cells, Pt.slots] at X5 l5 y5 z5 st5 hQ5
    subst l5 y5 z5
    obtain ⟨hv5, N5q, e5⟩ := hQ5
    rw [(show (own_of r_WireType_VARINT r_WireType_FIXED64 r_WireType_LENGTH_DELIMITED r_WireType_START_GROUP r_WireType_END_GROUP r_WireType_FIXED32 (1 : Int32)) = (.ref r_WireType_FIXED64) from rfl)] at hv5; subst hv5
    have N5 := Fr.app N0 N5q
    refine Go.pull (V := T5.setTop (mkF m 9 #[iv pa, iv 1, .unset, .unset] [(.ref r_WireType_FIXED64)])) st5 ?_
    refine Go.pull (V := T5.setTop (mkF m 10 #[iv pa, iv 1, rv r_WireType_FIXED64, .unset] [])) (fun t k => XS.astoreN X5.here hx rfl (hb hby at_9) rfl rfl (l' := #[iv pa, iv 1, rv r_WireType_FIXED64, .unset]) rfl k) ?_
    refine Go.pull (V := T5.setTop (mkF m 11 #[iv pa, iv 1, rv r_WireType_FIXED64, .unset] [(.int 1)])) (fun t k => XS.iloadN X5.here hx rfl (hb hby at_10) rfl  k) ?_
    obtain ⟨_, _, ⟨T6, L6, k6, n6⟩, -, X6, ⟨Lc6, hQ6, l6, y6, z6⟩, st6⟩ := Jvm.LawKit.callS X5 hx (y := (⟨"com/example/tagwire/tagwire/WireTypeOfNumberPinLaw", "expected", "(I)Lcom/example/tagwire/tagwire/WireType;"⟩ : MethodName)) hown (mvT hZ (hw _ (List.mem_of_getElem? (i := 7) rfl))) (mvT hZ (hw _ (List.mem_of_getElem? (i := 8) rfl))) (mvT hZ (hw _ (List.mem_of_getElem? (i := 9) rfl))) (mvT hZ (hw _ (List.mem_of_getElem? (i := 10) rfl))) (by decide) (backOf (W := 0) (rmB l Z a0 hw [] (1 : Int32) r_WireType_VARINT r_WireType_FIXED64 r_WireType_LENGTH_DELIMITED r_WireType_START_GROUP r_WireType_END_GROUP r_WireType_FIXED32 h0 n0 S_r_WireType_VARINT S_r_WireType_FIXED64 S_r_WireType_LENGTH_DELIMITED S_r_WireType_START_GROUP S_r_WireType_END_GROUP S_r_WireType_FIXED32 (by decide)) hZ (hw _ (List.mem_of_getElem? (i := 10) rfl)) (hw _ (List.mem_of_getElem? (i := 9) rfl)) (by decide) (by decide)) (g := (mkF m 11 #[iv pa, iv 1, rv r_WireType_FIXED64, .unset] [(.int 1)])) rfl (by rw [hml]; rfl) (argsL := [(.int 1)]) (rest := []) (lenOf pd_0 rfl) rfl (by show 2 * 0 + _ ≤ _; exact Nat.le_of_eq rfl) (hb hby at_11) (fun _ _ => ⟨rfl, e5, (by decide : 0 + 0 ≤ _), (by decide : 0 + 0 ≤ _)⟩)
    dsimp only [Pt.U, Pt.locs, Pt.cells, Pt.slots] at X6 l6 y6 z6 st6 hQ6
    subst l6 y6 z6
    obtain ⟨hv6, N6q, e6⟩ := hQ6
    rw [(show (own_of r_WireType_VARINT r_WireType_FIXED64 r_WireType_LENGTH_DELIMITED r_WireType_START_GROUP r_WireType_END_GROUP r_WireType_FIXED32 (1 : Int32)) = (.ref r_WireType_FIXED64) from rfl)] at hv6; subst hv6
    have N6 := Fr.app N5 N6q
    refine Go.pull (V := T6.setTop (mkF m 14 #[iv pa, iv 1, rv r_WireType_FIXED64, .unset] [(.ref r_WireType_FIXED64)])) st6 ?_
    refine Go.pull (V := T6.setTop (mkF m 15 #[iv pa, iv 1, rv r_WireType_FIXED64, rv r_WireType_FIXED64] [])) (fun t k => XS.astoreN X6.here hx rfl (hb hby at_14) rfl rfl (l' := #[iv pa, iv 1, rv r_WireType_FIXED64, rv r_WireType_FIXED64]) rfl k) ?_
    refine Go.pull (V := T6.setTop (mkF m 16 #[iv pa, iv 1, rv r_WireType_FIXED64, rv r_WireType_FIXED64] [(.ref r_WireType_FIXED64)])) (fun t k => XS.aloadN X6.here hx rfl (hb hby at_15) rfl rfl k) ?_
    refine Go.pull (V := T6.setTop (mkF m 17 #[iv pa, iv 1, rv r_WireType_FIXED64, rv r_WireType_FIXED64] [(.ref r_WireType_FIXED64), (.ref r_WireType_FIXED64)])) (fun t k => XS.aloadN X6.here hx rfl (hb hby at_16) rfl rfl k) ?_
    refine Go.pull (V := T6.setTop (mkF m 22 #[iv pa, iv 1, rv r_WireType_FIXED64, rv r_WireType_FIXED64] [])) (fun t k => XT.acmpYes X6.here hx rfl (pc0 := 17) (pc' := 22) rfl (hb hby at_17) rfl rfl rfl (XT.aa_eq_t rfl) (by decide) (by decide) k) ?_
    refine Go.pull (V := T6.setTop (mkF m 23 #[iv pa, iv 1, rv r_WireType_FIXED64, rv r_WireType_FIXED64] [(.ref r_WireType_FIXED64)])) (fun t k => XS.aloadN X6.here hx rfl (hb hby at_22) rfl rfl k) ?_
    refine Go.pull (V := T6.setTop (mkF m 38 #[iv pa, iv 1, rv r_WireType_FIXED64, rv r_WireType_FIXED64] [])) (fun t k => XS.ifnonnullYes X6.here hx rfl (pc0 := 23) (pc' := 38) rfl (hb hby at_23) rfl (by decide) (by decide) k) ?_
    refine Go.pull (V := T6.setTop (mkF m 39 #[iv pa, iv 1, rv r_WireType_FIXED64, rv r_WireType_FIXED64] [(.ref r_WireType_FIXED64)])) (fun t k => XS.aloadN X6.here hx rfl (hb hby at_38) rfl rfl k) ?_
    obtain ⟨cq7, kq7, q7a, q7b, q7c⟩ := isOf hZ e6 E_r_WireType_FIXED64
    obtain ⟨_, _, ⟨T7, L7, k7, n7⟩, -, X7, ⟨Lc7, hQ7, l7, y7, z7⟩, st7⟩ := X6.virtualBack hx (y := (⟨"com/example/tagwire/tagwire/WireType", "number", "()I"⟩ : MethodName)) (z := (⟨"com/example/tagwire/tagwire/WireType", "number", "()I"⟩ : MethodName)) hown (mvT hZ (hw _ (List.mem_of_getElem? (i := 12) rfl))) (mvT hZ (hw _ (List.mem_of_getElem? (i := 13) rfl))) (notFace_of_selects (args := #[]) (mvT hZ (hw _ (List.mem_of_getElem? (i := 15) rfl)))) (mvT hZ (hw _ (List.mem_of_getElem? (i := 15) rfl))) (mvT hZ (hw _ (List.mem_of_getElem? (i := 14) rfl))) (by decide) (backOf (W := 0) (rmN l Z a0 hw [] r_WireType_FIXED64 (1 : Int32) h0 n0 F_r_WireType_FIXED64_number) hZ (hw _ (List.mem_of_getElem? (i := 16) rfl)) (hw _ (List.mem_of_getElem? (i := 2) rfl)) (by decide) (by decide)) q7a q7c (g := (mkF m 39 #[iv pa, iv 1, rv r_WireType_FIXED64, rv r_WireType_FIXED64] [(.ref r_WireType_FIXED64)])) rfl (by rw [hml]; rfl) (Steps.refl _) (argsL := []) (rest := []) (lenOf pd_1 rfl) rfl (by show 2 * 0 + _ ≤ _; exact Nat.le_of_eq rfl) (hb hby at_39) (fun _ _ => ⟨rfl, e6, (by decide : 0 + 0 ≤ _), (by decide : 0 + 0 ≤ _)⟩)
    dsimp only [Pt.U, Pt.locs, Pt.cells, Pt.slots] at X7 l7 y7 z7 st7 hQ7
    subst l7 y7 z7
    obtain ⟨rfl, N7q, e7⟩ := hQ7
    have N7 := Fr.app N6 N7q
    refine Go.pull (V := T7.setTop (mkF m 42 #[iv pa, iv 1, rv r_WireType_FIXED64, rv r_WireType_FIXED64] [(.int 1)])) (fun _ k => st7.trans k) ?_
    refine Go.pull (V := T7.setTop (mkF m 43 #[iv pa, iv 1, rv r_WireType_FIXED64, rv r_WireType_FIXED64] [(.int 1), (.int 1)])) (fun t k => XS.iloadN X7.here hx rfl (hb hby at_42) rfl  k) ?_
    refine Go.pull (V := T7.setTop (mkF m 46 #[iv pa, iv 1, rv r_WireType_FIXED64, rv r_WireType_FIXED64] [])) (fun t k => XS.icmpNo X7.here hx rfl (hb hby at_43) rfl (XT.ii_ne_f (by decide)) k) ?_
    refine Go.pull (V := T7.setTop (mkF m 47 #[iv pa, iv 1, rv r_WireType_FIXED64, rv r_WireType_FIXED64] [(.int 1)])) (fun t k => XS.iconst X7.here hx rfl (hb hby at_46) k) ?_
    refine Go.pull (V := T7.setTop (mkF m 51 #[iv pa, iv 1, rv r_WireType_FIXED64, rv r_WireType_FIXED64] [(.int 1)])) (fun t k => XS.goto X7.here hx rfl (pc0 := 47) (pc' := 51) rfl (hb hby at_47) (by decide) (by decide) k) ?_
    exact Go.retN X7 hx Bd.notSynchronized (t := .boolean) Bd.returns (by simp) (hb hby at_51) ⟨rfl, N7⟩ (by decide) (by decide)
  · subst hv1
    refine Go.pull (V := s₁.setTop (mkF m 6 #[iv pa, iv 2, .unset, .unset] [(.int 2)])) (fun t k => XS.iloadN X0.here hx rfl (hb hby at_5) rfl  k) ?_
    obtain ⟨_, _, ⟨T8, L8, k8, n8⟩, -, X8, ⟨Lc8, hQ8, l8, y8, z8⟩, st8⟩ := Jvm.LawKit.callS X0 hx (y := (⟨"com/example/tagwire/tagwire/WireType", "ofNumber", "(I)Lcom/example/tagwire/tagwire/WireType;"⟩ : MethodName)) hown (mvT hZ (hw _ (List.mem_of_getElem? (i := 0) rfl))) (mvT hZ (hw _ (List.mem_of_getElem? (i := 1) rfl))) (mvT hZ (hw _ (List.mem_of_getElem? (i := 2) rfl))) (mvT hZ (hw _ (List.mem_of_getElem? (i := 3) rfl))) (by decide) (backOf (W := 0) (rmA l Z a0 hw [] (2 : Int32) r_WireType_BY_NUMBER k_r_WireType_BY_NUMBER r_WireType_VARINT r_WireType_FIXED64 r_WireType_LENGTH_DELIMITED r_WireType_START_GROUP r_WireType_END_GROUP r_WireType_FIXED32 h0 n0 S_r_WireType_BY_NUMBER V_r_WireType_BY_NUMBER (by decide)) hZ (hw _ (List.mem_of_getElem? (i := 3) rfl)) (hw _ (List.mem_of_getElem? (i := 2) rfl)) (by decide) (by decide)) (g := (mkF m 6 #[iv pa, iv 2, .unset, .unset] [(.int 2)])) rfl (by rw [hml]; rfl) (argsL := [(.int 2)]) (rest := []) (lenOf pd_0 rfl) rfl (by show 2 * 0 + _ ≤ _; exact Nat.le_of_eq rfl) (hb hby at_6) (fun _ _ => ⟨rfl, e0, (by decide : 0 + 0 ≤ _), (by decide : 0 + 0 ≤ _)⟩)
    dsimp only [Pt.U, Pt.locs, Pt.cells, Pt.slots] at X8 l8 y8 z8 st8 hQ8
    subst l8 y8 z8
    obtain ⟨hv8, N8q, e8⟩ := hQ8
    rw [(show (own_of r_WireType_VARINT r_WireType_FIXED64 r_WireType_LENGTH_DELIMITED r_WireType_START_GROUP r_WireType_END_GROUP r_WireType_FIXED32 (2 : Int32)) = (.ref r_WireType_LENGTH_DELIMITED) from rfl)] at hv8; subst hv8
    have N8 := Fr.app N0 N8q
    refine Go.pull (V := T8.setTop (mkF m 9 #[iv pa, iv 2, .unset, .unset] [(.ref r_WireType_LENGTH_DELIMITED)])) st8 ?_
    refine Go.pull (V := T8.setTop (mkF m 10 #[iv pa, iv 2, rv r_WireType_LENGTH_DELIMITED, .unset] [])) (fun t k => XS.astoreN X8.here hx rfl (hb hby at_9) rfl rfl (l' := #[iv pa, iv 2, rv r_WireType_LENGTH_DELIMITED, .unset]) rfl k) ?_
    refine Go.pull (V := T8.setTop (mkF m 11 #[iv pa, iv 2, rv r_WireType_LENGTH_DELIMITED, .unset] [(.int 2)])) (fun t k => XS.iloadN X8.here hx rfl (hb hby at_10) rfl  k) ?_
    obtain ⟨_, _, ⟨T9, L9, k9, n9⟩, -, X9, ⟨Lc9, hQ9, l9, y9, z9⟩, st9⟩ := Jvm.LawKit.callS X8 hx (y := (⟨"com/example/tagwire/tagwire/WireTypeOfNumberPinLaw", "expected", "(I)Lcom/example/tagwire/tagwire/WireType;"⟩ : MethodName)) hown (mvT hZ (hw _ (List.mem_of_getElem? (i := 7) rfl))) (mvT hZ (hw _ (List.mem_of_getElem? (i := 8) rfl))) (mvT hZ (hw _ (List.mem_of_getElem? (i := 9) rfl))) (mvT hZ (hw _ (List.mem_of_getElem? (i := 10) rfl))) (by decide) (backOf (W := 0) (rmB l Z a0 hw [] (2 : Int32) r_WireType_VARINT r_WireType_FIXED64 r_WireType_LENGTH_DELIMITED r_WireType_START_GROUP r_WireType_END_GROUP r_WireType_FIXED32 h0 n0 S_r_WireType_VARINT S_r_WireType_FIXED64 S_r_WireType_LENGTH_DELIMITED S_r_WireType_START_GROUP S_r_WireType_END_GROUP S_r_WireType_FIXED32 (by decide)) hZ (hw _ (List.mem_of_getElem? (i := 10) rfl)) (hw _ (List.mem_of_getElem? (i := 9) rfl)) (by decide) (by decide)) (g := (mkF m 11 #[iv pa, iv 2, rv r_WireType_LENGTH_DELIMITED, .unset] [(.int 2)])) rfl (by rw [hml]; rfl) (argsL := [(.int 2)]) (rest := []) (lenOf pd_0 rfl) rfl (by show 2 * 0 + _ ≤ _; exact Nat.le_of_eq rfl) (hb hby at_11) (fun _ _ => ⟨rfl, e8, (by decide : 0 + 0 ≤ _), (by decide : 0 + 0 ≤ _)⟩)
    dsimp only [Pt.U, Pt.locs, Pt.cells, Pt.slots] at X9 l9 y9 z9 st9 hQ9
    subst l9 y9 z9
    obtain ⟨hv9, N9q, e9⟩ := hQ9
    rw [(show (own_of r_WireType_VARINT r_WireType_FIXED64 r_WireType_LENGTH_DELIMITED r_WireType_START_GROUP r_WireType_END_GROUP r_WireType_FIXED32 (2 : Int32)) = (.ref r_WireType_LENGTH_DELIMITED) from rfl)] at hv9; subst hv9
    have N9 := Fr.app N8 N9q
    refine Go.pull (V := T9.setTop (mkF m 14 #[iv pa, iv 2, rv r_WireType_LENGTH_DELIMITED, .unset] [(.ref r_WireType_LENGTH_DELIMITED)])) st9 ?_
    refine Go.pull (V := T9.setTop (mkF m 15 #[iv pa, iv 2, rv r_WireType_LENGTH_DELIMITED, rv r_WireType_LENGTH_DELIMITED] [])) (fun t k => XS.astoreN X9.here hx rfl (hb hby at_14) rfl rfl (l' := #[iv pa, iv 2, rv r_WireType_LENGTH_DELIMITED, rv r_WireType_LENGTH_DELIMITED]) rfl k) ?_
    refine Go.pull (V := T9.setTop (mkF m 16 #[iv pa, iv 2, rv r_WireType_LENGTH_DELIMITED, rv r_WireType_LENGTH_DELIMITED] [(.ref r_WireType_LENGTH_DELIMITED)])) (fun t k => XS.aloadN X9.here hx rfl (hb hby at_15) rfl rfl k) ?_
    refine Go.pull (V := T9.setTop (mkF m 17 #[iv pa, iv 2, rv r_WireType_LENGTH_DELIMITED, rv r_WireType_LENGTH_DELIMITED] [(.ref r_WireType_LENGTH_DELIMITED), (.ref r_WireType_LENGTH_DELIMITED)])) (fun t k => XS.aloadN X9.here hx rfl (hb hby at_16) rfl rfl k) ?_
    refine Go.pull (V := T9.setTop (mkF m 22 #[iv pa, iv 2, rv r_WireType_LENGTH_DELIMITED, rv r_WireType_LENGTH_DELIMITED] [])) (fun t k => XT.acmpYes X9.here hx rfl (pc0 := 17) (pc' := 22) rfl (hb hby at_17) rfl rfl rfl (XT.aa_eq_t rfl) (by decide) (by decide) k) ?_
    refine Go.pull (V := T9.setTop (mkF m 23 #[iv pa, iv 2, rv r_WireType_LENGTH_DELIMITED, rv r_WireType_LENGTH_DELIMITED] [(.ref r_WireType_LENGTH_DELIMITED)])) (fun t k => XS.aloadN X9.here hx rfl (hb hby at_22) rfl rfl k) ?_
    refine Go.pull (V := T9.setTop (mkF m 38 #[iv pa, iv 2, rv r_WireType_LENGTH_DELIMITED, rv r_WireType_LENGTH_DELIMITED] [])) (fun t k => XS.ifnonnullYes X9.here hx rfl (pc0 := 23) (pc' := 38) rfl (hb hby at_23) rfl (by decide) (by decide) k) ?_
    refine Go.pull (V := T9.setTop (mkF m 39 #[iv pa, iv 2, rv r_WireType_LENGTH_DELIMITED, rv r_WireType_LENGTH_DELIMITED] [(.ref r_WireType_LENGTH_DELIMITED)])) (fun t k => XS.aloadN X9.here hx rfl (hb hby at_38) rfl rfl k) ?_
    obtain ⟨cq10, kq10, q10a, q10b, q10c⟩ := isOf hZ e9 E_r_WireType_LENGTH_DELIMITED
    obtain ⟨_, _, ⟨T10, L10, k10, n10⟩, -, X10, ⟨Lc10, hQ10, l10, y10, z10⟩, st10⟩ := X9.virtualBack hx (y := (⟨"com/example/tagwire/tagwire/WireType", "number", "()I"⟩ : MethodName)) (z := (⟨"com/example/tagwire/tagwire/WireType", "number", "()I"⟩ : MethodName)) hown (mvT hZ (hw _ (List.mem_of_getElem? (i := 12) rfl))) (mvT hZ (hw _ (List.mem_of_getElem? (i := 13) rfl))) (notFace_of_selects (args := #[]) (mvT hZ (hw _ (List.mem_of_getElem? (i := 15) rfl)))) (mvT hZ (hw _ (List.mem_of_getElem? (i := 15) rfl))) (mvT hZ (hw _ (List.mem_of_getElem? (i := 14) rfl))) (by decide) (backOf (W := 0) (rmN l Z a0 hw [] r_WireType_LENGTH_DELIMITED (2 : Int32) h0 n0 F_r_WireType_LENGTH_DELIMITED_number) hZ (hw _ (List.mem_of_getElem? (i := 16) rfl)) (hw _ (List.mem_of_getElem? (i := 2) rfl)) (by decide) (by decide)) q10a q10c (g := (mkF m 39 #[iv pa, iv 2, rv r_WireType_LENGTH_DELIMITED, rv r_WireType_LENGTH_DELIMITED] [(.ref r_WireType_LENGTH_DELIMITED)])) rfl (by rw [hml]; rfl) (Steps.refl _) (argsL := []) (rest := []) (lenOf pd_1 rfl) rfl (by show 2 * 0 + _ ≤ _; exact Nat.le_of_eq rfl) (hb hby at_39) (fun _ _ => ⟨rfl, e9, (by decide : 0 + 0 ≤ _), (by decide : 0 + 0 ≤ _)⟩)
    dsimp only [Pt.U, Pt.locs, Pt.cells, Pt.slots] at X10 l10 y10 z10 st10 hQ10
    subst l10 y10 z10
    obtain ⟨rfl, N10q, e10⟩ := hQ10
    have N10 := Fr.app N9 N10q
    refine Go.pull (V := T10.setTop (mkF m 42 #[iv pa, iv 2, rv r_WireType_LENGTH_DELIMITED, rv r_WireType_LENGTH_DELIMITED] [(.int 2)])) (fun _ k => st10.trans k) ?_
    refine Go.pull (V := T10.setTop (mkF m 43 #[iv pa, iv 2, rv r_WireType_LENGTH_DELIMITED, rv r_WireType_LENGTH_DELIMITED] [(.int 2), (.int 2)])) (fun t k => XS.iloadN X10.here hx rfl (hb hby at_42) rfl  k) ?_
    refine Go.pull (V := T10.setTop (mkF m 46 #[iv pa, iv 2, rv r_WireType_LENGTH_DELIMITED, rv r_WireType_LENGTH_DELIMITED] [])) (fun t k => XS.icmpNo X10.here hx rfl (hb hby at_43) rfl (XT.ii_ne_f (by decide)) k) ?_
    refine Go.pull (V := T10.setTop (mkF m 47 #[iv pa, iv 2, rv r_WireType_LENGTH_DELIMITED, rv r_WireType_LENGTH_DELIMITED] [(.int 1)])) (fun t k => XS.iconst X10.here hx rfl (hb hby at_46) k) ?_
    refine Go.pull (V := T10.setTop (mkF m 51 #[iv pa, iv 2, rv r_WireType_LENGTH_DELIMITED, rv r_WireType_LENGTH_DELIMITED] [(.int 1)])) (fun t k => XS.goto X10.here hx rfl (pc0 := 47) (pc' := 51) rfl (hb hby at_47) (by decide) (by decide) k) ?_
    exact Go.retN X10 hx Bd.notSynchronized (t := .boolean) Bd.returns (by simp) (hb hby at_51) ⟨rfl, N10⟩ (by decide) (by decide)
  · subst hv1
    refine Go.pull (V := s₁.setTop (mkF m 6 #[iv pa, iv 3, .unset, .unset] [(.int 3)])) (fun t k => XS.iloadN X0.here hx rfl (hb hby at_5) rfl  k) ?_
    obtain ⟨_, _, ⟨T11, L11, k11, n11⟩, -, X11, ⟨Lc11, hQ11, l11, y11, z11⟩, st11⟩ := Jvm.LawKit.callS X0 hx (y := (⟨"com/example/tagwire/tagwire/WireType", "ofNumber", "(I)Lcom/example/tagwire/tagwire/WireType;"⟩ : MethodName)) hown (mvT hZ (hw _ (List.mem_of_getElem? (i := 0) rfl))) (mvT hZ (hw _ (List.mem_of_getElem? (i := 1) rfl))) (mvT hZ (hw _ (List.mem_of_getElem? (i := 2) rfl))) (mvT hZ (hw _ (List.mem_of_getElem? (i := 3) rfl))) (by decide) (backOf (W := 0) (rmA l Z a0 hw [] (3 : Int32) r_WireType_BY_NUMBER k_r_WireType_BY_NUMBER r_WireType_VARINT r_WireType_FIXED64 r_WireType_LENGTH_DELIMITED r_WireType_START_GROUP r_WireType_END_GROUP r_WireType_FIXED32 h0 n0 S_r_WireType_BY_NUMBER V_r_WireType_BY_NUMBER (by decide)) hZ (hw _ (List.mem_of_getElem? (i := 3) rfl)) (hw _ (List.mem_of_getElem? (i := 2) rfl)) (by decide) (by decide)) (g := (mkF m 6 #[iv pa, iv 3, .unset, .unset] [(.int 3)])) rfl (by rw [hml]; rfl) (argsL := [(.int 3)]) (rest := []) (lenOf pd_0 rfl) rfl (by show 2 * 0 + _ ≤ _; exact Nat.le_of_eq rfl) (hb hby at_6) (fun _ _ => ⟨rfl, e0, (by decide : 0 + 0 ≤ _), (by decide : 0 + 0 ≤ _)⟩)
    dsimp only [Pt.U, Pt.locs, Pt.cells, Pt.slots] at X11 l11 y11 z11 st11 hQ11
    subst l11 y11 z11
    obtain ⟨hv11, N11q, e11⟩ := hQ11
    rw [(show (own_of r_WireType_VARINT r_WireType_FIXED64 r_WireType_LENGTH_DELIMITED r_WireType_START_GROUP r_WireType_END_GROUP r_WireType_FIXED32 (3 : Int32)) = (.ref r_WireType_START_GROUP) from rfl)] at hv11; subst hv11
    have N11 := Fr.app N0 N11q
    refine Go.pull (V := T11.setTop (mkF m 9 #[iv pa, iv 3, .unset, .unset] [(.ref r_WireType_START_GROUP)])) st11 ?_
    refine Go.pull (V := T11.setTop (mkF m 10 #[iv pa, iv 3, rv r_WireType_START_GROUP, .unset] [])) (fun t k => XS.astoreN X11.here hx rfl (hb hby at_9) rfl rfl (l' := #[iv pa, iv 3, rv r_WireType_START_GROUP, .unset]) rfl k) ?_
    refine Go.pull (V := T11.setTop (mkF m 11 #[iv pa, iv 3, rv r_WireType_START_GROUP, .unset] [(.int 3)])) (fun t k => XS.iloadN X11.here hx rfl (hb hby at_10) rfl  k) ?_
    obtain ⟨_, _, ⟨T12, L12, k12, n12⟩, -, X12, ⟨Lc12, hQ12, l12, y12, z12⟩, st12⟩ := Jvm.LawKit.callS X11 hx (y := (⟨"com/example/tagwire/tagwire/WireTypeOfNumberPinLaw", "expected", "(I)Lcom/example/tagwire/tagwire/WireType;"⟩ : MethodName)) hown (mvT hZ (hw _ (List.mem_of_getElem? (i := 7) rfl))) (mvT hZ (hw _ (List.mem_of_getElem? (i := 8) rfl))) (mvT hZ (hw _ (List.mem_of_getElem? (i := 9) rfl))) (mvT hZ (hw _ (List.mem_of_getElem? (i := 10) rfl))) (by decide) (backOf (W := 0) (rmB l Z a0 hw [] (3 : Int32) r_WireType_VARINT r_WireType_FIXED64 r_WireType_LENGTH_DELIMITED r_WireType_START_GROUP r_WireType_END_GROUP r_WireType_FIXED32 h0 n0 S_r_WireType_VARINT S_r_WireType_FIXED64 S_r_WireType_LENGTH_DELIMITED S_r_WireType_START_GROUP S_r_WireType_END_GROUP S_r_WireType_FIXED32 (by decide)) hZ (hw _ (List.mem_of_getElem? (i := 10) rfl)) (hw _ (List.mem_of_getElem? (i := 9) rfl)) (by decide) (by decide)) (g := (mkF m 11 #[iv pa, iv 3, rv r_WireType_START_GROUP, .unset] [(.int 3)])) rfl (by rw [hml]; rfl) (argsL := [(.int 3)]) (rest := []) (lenOf pd_0 rfl) rfl (by show 2 * 0 + _ ≤ _; exact Nat.le_of_eq rfl) (hb hby at_11) (fun _ _ => ⟨rfl, e11, (by decide : 0 + 0 ≤ _), (by decide : 0 + 0 ≤ _)⟩)
    dsimp only [Pt.U, Pt.locs, Pt.cells, Pt.slots] at X12 l12 y12 z12 st12 hQ12
    subst l12 y12 z12
    obtain ⟨hv12, N12q, e12⟩ := hQ12
    rw [(show (own_of r_WireType_VARINT r_WireType_FIXED64 r_WireType_LENGTH_DELIMITED r_WireType_START_GROUP r_WireType_END_GROUP r_WireType_FIXED32 (3 : Int32)) = (.ref r_WireType_START_GROUP) from rfl)] at hv12; subst hv12
    have N12 := Fr.app N11 N12q
    refine Go.pull (V := T12.setTop (mkF m 14 #[iv pa, iv 3, rv r_WireType_START_GROUP, .unset] [(.ref r_WireType_START_GROUP)])) st12 ?_
    refine Go.pull (V := T12.setTop (mkF m 15 #[iv pa, iv 3, rv r_WireType_START_GROUP, rv r_WireType_START_GROUP] [])) (fun t k => XS.astoreN X12.here hx rfl (hb hby at_14) rfl rfl (l' := #[iv pa, iv 3, rv r_WireType_START_GROUP, rv r_WireType_START_GROUP]) rfl k) ?_
    refine Go.pull (V := T12.setTop (mkF m 16 #[iv pa, iv 3, rv r_WireType_START_GROUP, rv r_WireType_START_GROUP] [(.ref r_WireType_START_GROUP)])) (fun t k => XS.aloadN X12.here hx rfl (hb hby at_15) rfl rfl k) ?_
    refine Go.pull (V := T12.setTop (mkF m 17 #[iv pa, iv 3, rv r_WireType_START_GROUP, rv r_WireType_START_GROUP] [(.ref r_WireType_START_GROUP), (.ref r_WireType_START_GROUP)])) (fun t k => XS.aloadN X12.here hx rfl (hb hby at_16) rfl rfl k) ?_
    refine Go.pull (V := T12.setTop (mkF m 22 #[iv pa, iv 3, rv r_WireType_START_GROUP, rv r_WireType_START_GROUP] [])) (fun t k => XT.acmpYes X12.here hx rfl (pc0 := 17) (pc' := 22) rfl (hb hby at_17) rfl rfl rfl (XT.aa_eq_t rfl) (by decide) (by decide) k) ?_
    refine Go.pull (V := T12.setTop (mkF m 23 #[iv pa, iv 3, rv r_WireType_START_GROUP, rv r_WireType_START_GROUP] [(.ref r_WireType_START_GROUP)])) (fun t k => XS.aloadN X12.here hx rfl (hb hby at_22) rfl rfl k) ?_
    refine Go.pull (V := T12.setTop (mkF m 38 #[iv pa, iv 3, rv r_WireType_START_GROUP, rv r_WireType_START_GROUP] [])) (fun t k => XS.ifnonnullYes X12.here hx rfl (pc0 := 23) (pc' := 38) rfl (hb hby at_23) rfl (by decide) (by decide) k) ?_
    refine Go.pull (V := T12.setTop (mkF m 39 #[iv pa, iv 3, rv r_WireType_START_GROUP, rv r_WireType_START_GROUP] [(.ref r_WireType_START_GROUP)])) (fun t k => XS.aloadN X12.here hx rfl (hb hby at_38) rfl rfl k) ?_
    obtain ⟨cq13, kq13, q13a, q13b, q13c⟩ := isOf hZ e12 E_r_WireType_START_GROUP
    obtain ⟨_, _, ⟨T13, L13, k13, n13⟩, -, X13, ⟨Lc13, hQ13, l13, y13, z13⟩, st13⟩ := X12.virtualBack hx (y := (⟨"com/example/tagwire/tagwire/WireType", "number", "()I"⟩ : MethodName)) (z := (⟨"com/example/tagwire/tagwire/WireType", "number", "()I"⟩ : MethodName)) hown (mvT hZ (hw _ (List.mem_of_getElem? (i := 12) rfl))) (mvT hZ (hw _ (List.mem_of_getElem? (i := 13) rfl))) (notFace_of_selects (args := #[]) (mvT hZ (hw _ (List.mem_of_getElem? (i := 15) rfl)))) (mvT hZ (hw _ (List.mem_of_getElem? (i := 15) rfl))) (mvT hZ (hw _ (List.mem_of_getElem? (i := 14) rfl))) (by decide) (backOf (W := 0) (rmN l Z a0 hw [] r_WireType_START_GROUP (3 : Int32) h0 n0 F_r_WireType_START_GROUP_number) hZ (hw _ (List.mem_of_getElem? (i := 16) rfl)) (hw _ (List.mem_of_getElem? (i := 2) rfl)) (by decide) (by decide)) q13a q13c (g := (mkF m 39 #[iv pa, iv 3, rv r_WireType_START_GROUP, rv r_WireType_START_GROUP] [(.ref r_WireType_START_GROUP)])) rfl (by rw [hml]; rfl) (Steps.refl _) (argsL := []) (rest := []) (lenOf pd_1 rfl) rfl (by show 2 * 0 + _ ≤ _; exact Nat.le_of_eq rfl) (hb hby at_39) (fun _ _ => ⟨rfl, e12, (by decide : 0 + 0 ≤ _), (by decide : 0 + 0 ≤ _)⟩)
    dsimp only [Pt.U, Pt.locs, Pt.cells, Pt.slots] at X13 l13 y13 z13 st13 hQ13
    subst l13 y13 z13
    obtain ⟨rfl, N13q, e13⟩ := hQ13
    have N13 := Fr.app N12 N13q
    refine Go.pull (V := T13.setTop (mkF m 42 #[iv pa, iv 3, rv r_WireType_START_GROUP, rv r_WireType_START_GROUP] [(.int 3)])) (fun _ k => st13.trans k) ?_
    refine Go.pull (V := T13.setTop (mkF m 43 #[iv pa, iv 3, rv r_WireType_START_GROUP, rv r_WireType_START_GROUP] [(.int 3), (.int 3)])) (fun t k => XS.iloadN X13.here hx rfl (hb hby at_42) rfl  k) ?_
    refine Go.pull (V := T13.setTop (mkF m 46 #[iv pa, iv 3, rv r_WireType_START_GROUP, rv r_WireType_START_GROUP] [])) (fun t k => XS.icmpNo X13.here hx rfl (hb hby at_43) rfl (XT.ii_ne_f (by decide)) k) ?_
    refine Go.pull (V := T13.setTop (mkF m 47 #[iv pa, iv 3, rv r_WireType_START_GROUP, rv r_WireType_START_GROUP] [(.int 1)])) (fun t k => XS.iconst X13.here hx rfl (hb hby at_46) k) ?_
    refine Go.pull (V := T13.setTop (mkF m 51 #[iv pa, iv 3, rv r_WireType_START_GROUP, rv r_WireType_START_GROUP] [(.int 1)])) (fun t k => XS.goto X13.here hx rfl (pc0 := 47) (pc' := 51) rfl (hb hby at_47) (by decide) (by decide) k) ?_
    exact Go.retN X13 hx Bd.notSynchronized (t := .boolean) Bd.returns (by simp) (hb hby at_51) ⟨rfl, N13⟩ (by decide) (by decide)
  · subst hv1
    refine Go.pull (V := s₁.setTop (mkF m 6 #[iv pa, iv 4, .unset, .unset] [(.int 4)])) (fun t k => XS.iloadN X0.here hx rfl (hb hby at_5) rfl  k) ?_
    obtain ⟨_, _, ⟨T14, L14, k14, n14⟩, -, X14, ⟨Lc14, hQ14, l14, y14, z14⟩, st14⟩ := Jvm.LawKit.callS X0 hx (y := (⟨"com/example/tagwire/tagwire/WireType", "ofNumber", "(I)Lcom/example/tagwire/tagwire/WireType;"⟩ : MethodName)) hown (mvT hZ (hw _ (List.mem_of_getElem? (i := 0) rfl))) (mvT hZ (hw _ (List.mem_of_getElem? (i := 1) rfl))) (mvT hZ (hw _ (List.mem_of_getElem? (i := 2) rfl))) (mvT hZ (hw _ (List.mem_of_getElem? (i := 3) rfl))) (by decide) (backOf (W := 0) (rmA l Z a0 hw [] (4 : Int32) r_WireType_BY_NUMBER k_r_WireType_BY_NUMBER r_WireType_VARINT r_WireType_FIXED64 r_WireType_LENGTH_DELIMITED r_WireType_START_GROUP r_WireType_END_GROUP r_WireType_FIXED32 h0 n0 S_r_WireType_BY_NUMBER V_r_WireType_BY_NUMBER (by decide)) hZ (hw _ (List.mem_of_getElem? (i := 3) rfl)) (hw _ (List.mem_of_getElem? (i := 2) rfl)) (by decide) (by decide)) (g := (mkF m 6 #[iv pa, iv 4, .unset, .unset] [(.int 4)])) rfl (by rw [hml]; rfl) (argsL := [(.int 4)]) (rest := []) (lenOf pd_0 rfl) rfl (by show 2 * 0 + _ ≤ _; exact Nat.le_of_eq rfl) (hb hby at_6) (fun _ _ => ⟨rfl, e0, (by decide : 0 + 0 ≤ _), (by decide : 0 + 0 ≤ _)⟩)
    dsimp only [Pt.U, Pt.locs, Pt.cells, Pt.slots] at X14 l14 y14 z14 st14 hQ14
    subst l14 y14 z14
    obtain ⟨hv14, N14q, e14⟩ := hQ14
    rw [(show (own_of r_WireType_VARINT r_WireType_FIXED64 r_WireType_LENGTH_DELIMITED r_WireType_START_GROUP r_WireType_END_GROUP r_WireType_FIXED32 (4 : Int32)) = (.ref r_WireType_END_GROUP) from rfl)] at hv14; subst hv14
    have N14 := Fr.app N0 N14q
    refine Go.pull (V := T14.setTop (mkF m 9 #[iv pa, iv 4, .unset, .unset] [(.ref r_WireType_END_GROUP)])) st14 ?_
    refine Go.pull (V := T14.setTop (mkF m 10 #[iv pa, iv 4, rv r_WireType_END_GROUP, .unset] [])) (fun t k => XS.astoreN X14.here hx rfl (hb hby at_9) rfl rfl (l' := #[iv pa, iv 4, rv r_WireType_END_GROUP, .unset]) rfl k) ?_
    refine Go.pull (V := T14.setTop (mkF m 11 #[iv pa, iv 4, rv r_WireType_END_GROUP, .unset] [(.int 4)])) (fun t k => XS.iloadN X14.here hx rfl (hb hby at_10) rfl  k) ?_
    obtain ⟨_, _, ⟨T15, L15, k15, n15⟩, -, X15, ⟨Lc15, hQ15, l15, y15, z15⟩, st15⟩ := Jvm.LawKit.callS X14 hx (y := (⟨"com/example/tagwire/tagwire/WireTypeOfNumberPinLaw", "expected", "(I)Lcom/example/tagwire/tagwire/WireType;"⟩ : MethodName)) hown (mvT hZ (hw _ (List.mem_of_getElem? (i := 7) rfl))) (mvT hZ (hw _ (List.mem_of_getElem? (i := 8) rfl))) (mvT hZ (hw _ (List.mem_of_getElem? (i := 9) rfl))) (mvT hZ (hw _ (List.mem_of_getElem? (i := 10) rfl))) (by decide) (backOf (W := 0) (rmB l Z a0 hw [] (4 : Int32) r_WireType_VARINT r_WireType_FIXED64 r_WireType_LENGTH_DELIMITED r_WireType_START_GROUP r_WireType_END_GROUP r_WireType_FIXED32 h0 n0 S_r_WireType_VARINT S_r_WireType_FIXED64 S_r_WireType_LENGTH_DELIMITED S_r_WireType_START_GROUP S_r_WireType_END_GROUP S_r_WireType_FIXED32 (by decide)) hZ (hw _ (List.mem_of_getElem? (i := 10) rfl)) (hw _ (List.mem_of_getElem? (i := 9) rfl)) (by decide) (by decide)) (g := (mkF m 11 #[iv pa, iv 4, rv r_WireType_END_GROUP, .unset] [(.int 4)])) rfl (by rw [hml]; rfl) (argsL := [(.int 4)]) (rest := []) (lenOf pd_0 rfl) rfl (by show 2 * 0 + _ ≤ _; exact Nat.le_of_eq rfl) (hb hby at_11) (fun _ _ => ⟨rfl, e14, (by decide : 0 + 0 ≤ _), (by decide : 0 + 0 ≤ _)⟩)
    dsimp only [Pt.U, Pt.locs, Pt.cells, Pt.slots] at X15 l15 y15 z15 st15 hQ15
    subst l15 y15 z15
    obtain ⟨hv15, N15q, e15⟩ := hQ15
    rw [(show (own_of r_WireType_VARINT r_WireType_FIXED64 r_WireType_LENGTH_DELIMITED r_WireType_START_GROUP r_WireType_END_GROUP r_WireType_FIXED32 (4 : Int32)) = (.ref r_WireType_END_GROUP) from rfl)] at hv15; subst hv15
    have N15 := Fr.app N14 N15q
    refine Go.pull (V := T15.setTop (mkF m 14 #[iv pa, iv 4, rv r_WireType_END_GROUP, .unset] [(.ref r_WireType_END_GROUP)])) st15 ?_
    refine Go.pull (V := T15.setTop (mkF m 15 #[iv pa, iv 4, rv r_WireType_END_GROUP, rv r_WireType_END_GROUP] [])) (fun t k => XS.astoreN X15.here hx rfl (hb hby at_14) rfl rfl (l' := #[iv pa, iv 4, rv r_WireType_END_GROUP, rv r_WireType_END_GROUP]) rfl k) ?_
    refine Go.pull (V := T15.setTop (mkF m 16 #[iv pa, iv 4, rv r_WireType_END_GROUP, rv r_WireType_END_GROUP] [(.ref r_WireType_END_GROUP)])) (fun t k => XS.aloadN X15.here hx rfl (hb hby at_15) rfl rfl k) ?_
    refine Go.pull (V := T15.setTop (mkF m 17 #[iv pa, iv 4, rv r_WireType_END_GROUP, rv r_WireType_END_GROUP] [(.ref r_WireType_END_GROUP), (.ref r_WireType_END_GROUP)])) (fun t k => XS.aloadN X15.here hx rfl (hb hby at_16) rfl rfl k) ?_
    refine Go.pull (V := T15.setTop (mkF m 22 #[iv pa, iv 4, rv r_WireType_END_GROUP, rv r_WireType_END_GROUP] [])) (fun t k => XT.acmpYes X15.here hx rfl (pc0 := 17) (pc' := 22) rfl (hb hby at_17) rfl rfl rfl (XT.aa_eq_t rfl) (by decide) (by decide) k) ?_
    refine Go.pull (V := T15.setTop (mkF m 23 #[iv pa, iv 4, rv r_WireType_END_GROUP, rv r_WireType_END_GROUP] [(.ref r_WireType_END_GROUP)])) (fun t k => XS.aloadN X15.here hx rfl (hb hby at_22) rfl rfl k) ?_
    refine Go.pull (V := T15.setTop (mkF m 38 #[iv pa, iv 4, rv r_WireType_END_GROUP, rv r_WireType_END_GROUP] [])) (fun t k => XS.ifnonnullYes X15.here hx rfl (pc0 := 23) (pc' := 38) rfl (hb hby at_23) rfl (by decide) (by decide) k) ?_
    refine Go.pull (V := T15.setTop (mkF m 39 #[iv pa, iv 4, rv r_WireType_END_GROUP, rv r_WireType_END_GROUP] [(.ref r_WireType_END_GROUP)])) (fun t k => XS.aloadN X15.here hx rfl (hb hby at_38) rfl rfl k) ?_
    obtain ⟨cq16, kq16, q16a, q16b, q16c⟩ := isOf hZ e15 E_r_WireType_END_GROUP
    obtain ⟨_, _, ⟨T16, L16, k16, n16⟩, -, X16, ⟨Lc16, hQ16, l16, y16, z16⟩, st16⟩ := X15.virtualBack hx (y := (⟨"com/example/tagwire/tagwire/WireType", "number", "()I"⟩ : MethodName)) (z := (⟨"com/example/tagwire/tagwire/WireType", "number", "()I"⟩ : MethodName)) hown (mvT hZ (hw _ (List.mem_of_getElem? (i := 12) rfl))) (mvT hZ (hw _ (List.mem_of_getElem? (i := 13) rfl))) (notFace_of_selects (args := #[]) (mvT hZ (hw _ (List.mem_of_getElem? (i := 15) rfl)))) (mvT hZ (hw _ (List.mem_of_getElem? (i := 15) rfl))) (mvT hZ (hw _ (List.mem_of_getElem? (i := 14) rfl))) (by decide) (backOf (W := 0) (rmN l Z a0 hw [] r_WireType_END_GROUP (4 : Int32) h0 n0 F_r_WireType_END_GROUP_number) hZ (hw _ (List.mem_of_getElem? (i := 16) rfl)) (hw _ (List.mem_of_getElem? (i := 2) rfl)) (by decide) (by decide)) q16a q16c (g := (mkF m 39 #[iv pa, iv 4, rv r_WireType_END_GROUP, rv r_WireType_END_GROUP] [(.ref r_WireType_END_GROUP)])) rfl (by rw [hml]; rfl) (Steps.refl _) (argsL := []) (rest := []) (lenOf pd_1 rfl) rfl (by show 2 * 0 + _ ≤ _; exact Nat.le_of_eq rfl) (hb hby at_39) (fun _ _ => ⟨rfl, e15, (by decide : 0 + 0 ≤ _), (by decide : 0 + 0 ≤ _)⟩)
    dsimp only [Pt.U, Pt.locs, Pt.cells, Pt.slots] at X16 l16 y16 z16 st16 hQ16
    subst l16 y16 z16
    obtain ⟨rfl, N16q, e16⟩ := hQ16
    have N16 := Fr.app N15 N16q
    refine Go.pull (V := T16.setTop (mkF m 42 #[iv pa, iv 4, rv r_WireType_END_GROUP, rv r_WireType_END_GROUP] [(.int 4)])) (fun _ k => st16.trans k) ?_
    refine Go.pull (V := T16.setTop (mkF m 43 #[iv pa, iv 4, rv r_WireType_END_GROUP, rv r_WireType_END_GROUP] [(.int 4), (.int 4)])) (fun t k => XS.iloadN X16.here hx rfl (hb hby at_42) rfl  k) ?_
    refine Go.pull (V := T16.setTop (mkF m 46 #[iv pa, iv 4, rv r_WireType_END_GROUP, rv r_WireType_END_GROUP] [])) (fun t k => XS.icmpNo X16.here hx rfl (hb hby at_43) rfl (XT.ii_ne_f (by decide)) k) ?_
    refine Go.pull (V := T16.setTop (mkF m 47 #[iv pa, iv 4, rv r_WireType_END_GROUP, rv r_WireType_END_GROUP] [(.int 1)])) (fun t k => XS.iconst X16.here hx rfl (hb hby at_46) k) ?_
    refine Go.pull (V := T16.setTop (mkF m 51 #[iv pa, iv 4, rv r_WireType_END_GROUP, rv r_WireType_END_GROUP] [(.int 1)])) (fun t k => XS.goto X16.here hx rfl (pc0 := 47) (pc' := 51) rfl (hb hby at_47) (by decide) (by decide) k) ?_
    exact Go.retN X16 hx Bd.notSynchronized (t := .boolean) Bd.returns (by simp) (hb hby at_51) ⟨rfl, N16⟩ (by decide) (by decide)
  · subst hv1
    refine Go.pull (V := s₁.setTop (mkF m 6 #[iv pa, iv 5, .unset, .unset] [(.int 5)])) (fun t k => XS.iloadN X0.here hx rfl (hb hby at_5) rfl  k) ?_
    obtain ⟨_, _, ⟨T17, L17, k17, n17⟩, -, X17, ⟨Lc17, hQ17, l17, y17, z17⟩, st17⟩ := Jvm.LawKit.callS X0 hx (y := (⟨"com/example/tagwire/tagwire/WireType", "ofNumber", "(I)Lcom/example/tagwire/tagwire/WireType;"⟩ : MethodName)) hown (mvT hZ (hw _ (List.mem_of_getElem? (i := 0) rfl))) (mvT hZ (hw _ (List.mem_of_getElem? (i := 1) rfl))) (mvT hZ (hw _ (List.mem_of_getElem? (i := 2) rfl))) (mvT hZ (hw _ (List.mem_of_getElem? (i := 3) rfl))) (by decide) (backOf (W := 0) (rmA l Z a0 hw [] (5 : Int32) r_WireType_BY_NUMBER k_r_WireType_BY_NUMBER r_WireType_VARINT r_WireType_FIXED64 r_WireType_LENGTH_DELIMITED r_WireType_START_GROUP r_WireType_END_GROUP r_WireType_FIXED32 h0 n0 S_r_WireType_BY_NUMBER V_r_WireType_BY_NUMBER (by decide)) hZ (hw _ (List.mem_of_getElem? (i := 3) rfl)) (hw _ (List.mem_of_getElem? (i := 2) rfl)) (by decide) (by decide)) (g := (mkF m 6 #[iv pa, iv 5, .unset, .unset] [(.int 5)])) rfl (by rw [hml]; rfl) (argsL := [(.int 5)]) (rest := []) (lenOf pd_0 rfl) rfl (by show 2 * 0 + _ ≤ _; exact Nat.le_of_eq rfl) (hb hby at_6) (fun _ _ => ⟨rfl, e0, (by decide : 0 + 0 ≤ _), (by decide : 0 + 0 ≤ _)⟩)
    dsimp only [Pt.U, Pt.locs, Pt.cells, Pt.slots] at X17 l17 y17 z17 st17 hQ17
    subst l17 y17 z17
    obtain ⟨hv17, N17q, e17⟩ := hQ17
    rw [(show (own_of r_WireType_VARINT r_WireType_FIXED64 r_WireType_LENGTH_DELIMITED r_WireType_START_GROUP r_WireType_END_GROUP r_WireType_FIXED32 (5 : Int32)) = (.ref r_WireType_FIXED32) from rfl)] at hv17; subst hv17
    have N17 := Fr.app N0 N17q
    refine Go.pull (V := T17.setTop (mkF m 9 #[iv pa, iv 5, .unset, .unset] [(.ref r_WireType_FIXED32)])) st17 ?_
    refine Go.pull (V := T17.setTop (mkF m 10 #[iv pa, iv 5, rv r_WireType_FIXED32, .unset] [])) (fun t k => XS.astoreN X17.here hx rfl (hb hby at_9) rfl rfl (l' := #[iv pa, iv 5, rv r_WireType_FIXED32, .unset]) rfl k) ?_
    refine Go.pull (V := T17.setTop (mkF m 11 #[iv pa, iv 5, rv r_WireType_FIXED32, .unset] [(.int 5)])) (fun t k => XS.iloadN X17.here hx rfl (hb hby at_10) rfl  k) ?_
    obtain ⟨_, _, ⟨T18, L18, k18, n18⟩, -, X18, ⟨Lc18, hQ18, l18, y18, z18⟩, st18⟩ := Jvm.LawKit.callS X17 hx (y := (⟨"com/example/tagwire/tagwire/WireTypeOfNumberPinLaw", "expected", "(I)Lcom/example/tagwire/tagwire/WireType;"⟩ : MethodName)) hown (mvT hZ (hw _ (List.mem_of_getElem? (i := 7) rfl))) (mvT hZ (hw _ (List.mem_of_getElem? (i := 8) rfl))) (mvT hZ (hw _ (List.mem_of_getElem? (i := 9) rfl))) (mvT hZ (hw _ (List.mem_of_getElem? (i := 10) rfl))) (by decide) (backOf (W := 0) (rmB l Z a0 hw [] (5 : Int32) r_WireType_VARINT r_WireType_FIXED64 r_WireType_LENGTH_DELIMITED r_WireType_START_GROUP r_WireType_END_GROUP r_WireType_FIXED32 h0 n0 S_r_WireType_VARINT S_r_WireType_FIXED64 S_r_WireType_LENGTH_DELIMITED S_r_WireType_START_GROUP S_r_WireType_END_GROUP S_r_WireType_FIXED32 (by decide)) hZ (hw _ (List.mem_of_getElem? (i := 10) rfl)) (hw _ (List.mem_of_getElem? (i := 9) rfl)) (by decide) (by decide)) (g := (mkF m 11 #[iv pa, iv 5, rv r_WireType_FIXED32, .unset] [(.int 5)])) rfl (by rw [hml]; rfl) (argsL := [(.int 5)]) (rest := []) (lenOf pd_0 rfl) rfl (by show 2 * 0 + _ ≤ _; exact Nat.le_of_eq rfl) (hb hby at_11) (fun _ _ => ⟨rfl, e17, (by decide : 0 + 0 ≤ _), (by decide : 0 + 0 ≤ _)⟩)
    dsimp only [Pt.U, Pt.locs, Pt.cells, Pt.slots] at X18 l18 y18 z18 st18 hQ18
    subst l18 y18 z18
    obtain ⟨hv18, N18q, e18⟩ := hQ18
    rw [(show (own_of r_WireType_VARINT r_WireType_FIXED64 r_WireType_LENGTH_DELIMITED r_WireType_START_GROUP r_WireType_END_GROUP r_WireType_FIXED32 (5 : Int32)) = (.ref r_WireType_FIXED32) from rfl)] at hv18; subst hv18
    have N18 := Fr.app N17 N18q
    refine Go.pull (V := T18.setTop (mkF m 14 #[iv pa, iv 5, rv r_WireType_FIXED32, .unset] [(.ref r_WireType_FIXED32)])) st18 ?_
    refine Go.pull (V := T18.setTop (mkF m 15 #[iv pa, iv 5, rv r_WireType_FIXED32, rv r_WireType_FIXED32] [])) (fun t k => XS.astoreN X18.here hx rfl (hb hby at_14) rfl rfl (l' := #[iv pa, iv 5, rv r_WireType_FIXED32, rv r_WireType_FIXED32]) rfl k) ?_
    refine Go.pull (V := T18.setTop (mkF m 16 #[iv pa, iv 5, rv r_WireType_FIXED32, rv r_WireType_FIXED32] [(.ref r_WireType_FIXED32)])) (fun t k => XS.aloadN X18.here hx rfl (hb hby at_15) rfl rfl k) ?_
    refine Go.pull (V := T18.setTop (mkF m 17 #[iv pa, iv 5, rv r_WireType_FIXED32, rv r_WireType_FIXED32] [(.ref r_WireType_FIXED32), (.ref r_WireType_FIXED32)])) (fun t k => XS.aloadN X18.here hx rfl (hb hby at_16) rfl rfl k) ?_
    refine Go.pull (V := T18.setTop (mkF m 22 #[iv pa, iv 5, rv r_WireType_FIXED32, rv r_WireType_FIXED32] [])) (fun t k => XT.acmpYes X18.here hx rfl (pc0 := 17) (pc' := 22) rfl (hb hby at_17) rfl rfl rfl (XT.aa_eq_t rfl) (by decide) (by decide) k) ?_
    refine Go.pull (V := T18.setTop (mkF m 23 #[iv pa, iv 5, rv r_WireType_FIXED32, rv r_WireType_FIXED32] [(.ref r_WireType_FIXED32)])) (fun t k => XS.aloadN X18.here hx rfl (hb hby at_22) rfl rfl k) ?_
    refine Go.pull (V := T18.setTop (mkF m 38 #[iv pa, iv 5, rv r_WireType_FIXED32, rv r_WireType_FIXED32] [])) (fun t k => XS.ifnonnullYes X18.here hx rfl (pc0 := 23) (pc' := 38) rfl (hb hby at_23) rfl (by decide) (by decide) k) ?_
    refine Go.pull (V := T18.setTop (mkF m 39 #[iv pa, iv 5, rv r_WireType_FIXED32, rv r_WireType_FIXED32] [(.ref r_WireType_FIXED32)])) (fun t k => XS.aloadN X18.here hx rfl (hb hby at_38) rfl rfl k) ?_
    obtain ⟨cq19, kq19, q19a, q19b, q19c⟩ := isOf hZ e18 E_r_WireType_FIXED32
    obtain ⟨_, _, ⟨T19, L19, k19, n19⟩, -, X19, ⟨Lc19, hQ19, l19, y19, z19⟩, st19⟩ := X18.virtualBack hx (y := (⟨"com/example/tagwire/tagwire/WireType", "number", "()I"⟩ : MethodName)) (z := (⟨"com/example/tagwire/tagwire/WireType", "number", "()I"⟩ : MethodName)) hown (mvT hZ (hw _ (List.mem_of_getElem? (i := 12) rfl))) (mvT hZ (hw _ (List.mem_of_getElem? (i := 13) rfl))) (notFace_of_selects (args := #[]) (mvT hZ (hw _ (List.mem_of_getElem? (i := 15) rfl)))) (mvT hZ (hw _ (List.mem_of_getElem? (i := 15) rfl))) (mvT hZ (hw _ (List.mem_of_getElem? (i := 14) rfl))) (by decide) (backOf (W := 0) (rmN l Z a0 hw [] r_WireType_FIXED32 (5 : Int32) h0 n0 F_r_WireType_FIXED32_number) hZ (hw _ (List.mem_of_getElem? (i := 16) rfl)) (hw _ (List.mem_of_getElem? (i := 2) rfl)) (by decide) (by decide)) q19a q19c (g := (mkF m 39 #[iv pa, iv 5, rv r_WireType_FIXED32, rv r_WireType_FIXED32] [(.ref r_WireType_FIXED32)])) rfl (by rw [hml]; rfl) (Steps.refl _) (argsL := []) (rest := []) (lenOf pd_1 rfl) rfl (by show 2 * 0 + _ ≤ _; exact Nat.le_of_eq rfl) (hb hby at_39) (fun _ _ => ⟨rfl, e18, (by decide : 0 + 0 ≤ _), (by decide : 0 + 0 ≤ _)⟩)
    dsimp only [Pt.U, Pt.locs, Pt.cells, Pt.slots] at X19 l19 y19 z19 st19 hQ19
    subst l19 y19 z19
    obtain ⟨rfl, N19q, e19⟩ := hQ19
    have N19 := Fr.app N18 N19q
    refine Go.pull (V := T19.setTop (mkF m 42 #[iv pa, iv 5, rv r_WireType_FIXED32, rv r_WireType_FIXED32] [(.int 5)])) (fun _ k => st19.trans k) ?_
    refine Go.pull (V := T19.setTop (mkF m 43 #[iv pa, iv 5, rv r_WireType_FIXED32, rv r_WireType_FIXED32] [(.int 5), (.int 5)])) (fun t k => XS.iloadN X19.here hx rfl (hb hby at_42) rfl  k) ?_
    refine Go.pull (V := T19.setTop (mkF m 46 #[iv pa, iv 5, rv r_WireType_FIXED32, rv r_WireType_FIXED32] [])) (fun t k => XS.icmpNo X19.here hx rfl (hb hby at_43) rfl (XT.ii_ne_f (by decide)) k) ?_
    refine Go.pull (V := T19.setTop (mkF m 47 #[iv pa, iv 5, rv r_WireType_FIXED32, rv r_WireType_FIXED32] [(.int 1)])) (fun t k => XS.iconst X19.here hx rfl (hb hby at_46) k) ?_
    refine Go.pull (V := T19.setTop (mkF m 51 #[iv pa, iv 5, rv r_WireType_FIXED32, rv r_WireType_FIXED32] [(.int 1)])) (fun t k => XS.goto X19.here hx rfl (pc0 := 47) (pc' := 51) rfl (hb hby at_47) (by decide) (by decide) k) ?_
    exact Go.retN X19 hx Bd.notSynchronized (t := .boolean) Bd.returns (by simp) (hb hby at_51) ⟨rfl, N19⟩ (by decide) (by decide)
  · subst hv1
    refine Go.pull (V := s₁.setTop (mkF m 6 #[iv pa, iv 6, .unset, .unset] [(.int 6)])) (fun t k => XS.iloadN X0.here hx rfl (hb hby at_5) rfl  k) ?_
    obtain ⟨_, _, ⟨T20, L20, k20, n20⟩, -, X20, ⟨Lc20, hQ20, l20, y20, z20⟩, st20⟩ := Jvm.LawKit.callS X0 hx (y := (⟨"com/example/tagwire/tagwire/WireType", "ofNumber", "(I)Lcom/example/tagwire/tagwire/WireType;"⟩ : MethodName)) hown (mvT hZ (hw _ (List.mem_of_getElem? (i := 0) rfl))) (mvT hZ (hw _ (List.mem_of_getElem? (i := 1) rfl))) (mvT hZ (hw _ (List.mem_of_getElem? (i := 2) rfl))) (mvT hZ (hw _ (List.mem_of_getElem? (i := 3) rfl))) (by decide) (backOf (W := 0) (rmA l Z a0 hw [] (6 : Int32) r_WireType_BY_NUMBER k_r_WireType_BY_NUMBER r_WireType_VARINT r_WireType_FIXED64 r_WireType_LENGTH_DELIMITED r_WireType_START_GROUP r_WireType_END_GROUP r_WireType_FIXED32 h0 n0 S_r_WireType_BY_NUMBER V_r_WireType_BY_NUMBER (by decide)) hZ (hw _ (List.mem_of_getElem? (i := 3) rfl)) (hw _ (List.mem_of_getElem? (i := 2) rfl)) (by decide) (by decide)) (g := (mkF m 6 #[iv pa, iv 6, .unset, .unset] [(.int 6)])) rfl (by rw [hml]; rfl) (argsL := [(.int 6)]) (rest := []) (lenOf pd_0 rfl) rfl (by show 2 * 0 + _ ≤ _; exact Nat.le_of_eq rfl) (hb hby at_6) (fun _ _ => ⟨rfl, e0, (by decide : 0 + 0 ≤ _), (by decide : 0 + 0 ≤ _)⟩)
    dsimp only [Pt.U, Pt.locs, Pt.cells, Pt.slots] at X20 l20 y20 z20 st20 hQ20
    subst l20 y20 z20
    obtain ⟨hv20, N20q, e20⟩ := hQ20
    rw [(show (own_of r_WireType_VARINT r_WireType_FIXED64 r_WireType_LENGTH_DELIMITED r_WireType_START_GROUP r_WireType_END_GROUP r_WireType_FIXED32 (6 : Int32)) = .null from rfl)] at hv20; subst hv20
    have N20 := Fr.app N0 N20q
    refine Go.pull (V := T20.setTop (mkF m 9 #[iv pa, iv 6, .unset, .unset] [.null])) st20 ?_
    refine Go.pull (V := T20.setTop (mkF m 10 #[iv pa, iv 6, .val .null, .unset] [])) (fun t k => XS.astoreN X20.here hx rfl (hb hby at_9) rfl rfl (l' := #[iv pa, iv 6, .val .null, .unset]) rfl k) ?_
    refine Go.pull (V := T20.setTop (mkF m 11 #[iv pa, iv 6, .val .null, .unset] [(.int 6)])) (fun t k => XS.iloadN X20.here hx rfl (hb hby at_10) rfl  k) ?_
    obtain ⟨_, _, ⟨T21, L21, k21, n21⟩, -, X21, ⟨Lc21, hQ21, l21, y21, z21⟩, st21⟩ := Jvm.LawKit.callS X20 hx (y := (⟨"com/example/tagwire/tagwire/WireTypeOfNumberPinLaw", "expected", "(I)Lcom/example/tagwire/tagwire/WireType;"⟩ : MethodName)) hown (mvT hZ (hw _ (List.mem_of_getElem? (i := 7) rfl))) (mvT hZ (hw _ (List.mem_of_getElem? (i := 8) rfl))) (mvT hZ (hw _ (List.mem_of_getElem? (i := 9) rfl))) (mvT hZ (hw _ (List.mem_of_getElem? (i := 10) rfl))) (by decide) (backOf (W := 0) (rmB l Z a0 hw [] (6 : Int32) r_WireType_VARINT r_WireType_FIXED64 r_WireType_LENGTH_DELIMITED r_WireType_START_GROUP r_WireType_END_GROUP r_WireType_FIXED32 h0 n0 S_r_WireType_VARINT S_r_WireType_FIXED64 S_r_WireType_LENGTH_DELIMITED S_r_WireType_START_GROUP S_r_WireType_END_GROUP S_r_WireType_FIXED32 (by decide)) hZ (hw _ (List.mem_of_getElem? (i := 10) rfl)) (hw _ (List.mem_of_getElem? (i := 9) rfl)) (by decide) (by decide)) (g := (mkF m 11 #[iv pa, iv 6, .val .null, .unset] [(.int 6)])) rfl (by rw [hml]; rfl) (argsL := [(.int 6)]) (rest := []) (lenOf pd_0 rfl) rfl (by show 2 * 0 + _ ≤ _; exact Nat.le_of_eq rfl) (hb hby at_11) (fun _ _ => ⟨rfl, e20, (by decide : 0 + 0 ≤ _), (by decide : 0 + 0 ≤ _)⟩)
    dsimp only [Pt.U, Pt.locs, Pt.cells, Pt.slots] at X21 l21 y21 z21 st21 hQ21
    subst l21 y21 z21
    obtain ⟨hv21, N21q, e21⟩ := hQ21
    rw [(show (own_of r_WireType_VARINT r_WireType_FIXED64 r_WireType_LENGTH_DELIMITED r_WireType_START_GROUP r_WireType_END_GROUP r_WireType_FIXED32 (6 : Int32)) = .null from rfl)] at hv21; subst hv21
    have N21 := Fr.app N20 N21q
    refine Go.pull (V := T21.setTop (mkF m 14 #[iv pa, iv 6, .val .null, .unset] [.null])) st21 ?_
    refine Go.pull (V := T21.setTop (mkF m 15 #[iv pa, iv 6, .val .null, .val .null] [])) (fun t k => XS.astoreN X21.here hx rfl (hb hby at_14) rfl rfl (l' := #[iv pa, iv 6, .val .null, .val .null]) rfl k) ?_
    refine Go.pull (V := T21.setTop (mkF m 16 #[iv pa, iv 6, .val .null, .val .null] [.null])) (fun t k => XS.aloadN X21.here hx rfl (hb hby at_15) rfl rfl k) ?_
    refine Go.pull (V := T21.setTop (mkF m 17 #[iv pa, iv 6, .val .null, .val .null] [.null, .null])) (fun t k => XS.aloadN X21.here hx rfl (hb hby at_16) rfl rfl k) ?_
    refine Go.pull (V := T21.setTop (mkF m 22 #[iv pa, iv 6, .val .null, .val .null] [])) (fun t k => XT.acmpYes X21.here hx rfl (pc0 := 17) (pc' := 22) rfl (hb hby at_17) rfl rfl rfl (XT.aa_eq_t rfl) (by decide) (by decide) k) ?_
    refine Go.pull (V := T21.setTop (mkF m 23 #[iv pa, iv 6, .val .null, .val .null] [.null])) (fun t k => XS.aloadN X21.here hx rfl (hb hby at_22) rfl rfl k) ?_
    refine Go.pull (V := T21.setTop (mkF m 26 #[iv pa, iv 6, .val .null, .val .null] [])) (fun t k => XS.ifnonnullNo X21.here hx rfl (hb hby at_23) rfl k) ?_
    refine Go.pull (V := T21.setTop (mkF m 27 #[iv pa, iv 6, .val .null, .val .null] [(.int 6)])) (fun t k => XS.iloadN X21.here hx rfl (hb hby at_26) rfl  k) ?_
    refine Go.pull (V := T21.setTop (mkF m 29 #[iv pa, iv 6, .val .null, .val .null] [(.int 6), (.int 6)])) (fun t k => XS.bipush X21.here hx rfl (hb hby at_27) k) ?_
    refine Go.pull (V := T21.setTop (mkF m 32 #[iv pa, iv 6, .val .null, .val .null] [])) (fun t k => XS.icmpNo X21.here hx rfl (hb hby at_29) rfl (XT.ii_lt_f (by decide)) k) ?_
    refine Go.pull (V := T21.setTop (mkF m 33 #[iv pa, iv 6, .val .null, .val .null] [(.int 1)])) (fun t k => XS.iconst X21.here hx rfl (hb hby at_32) k) ?_
    refine Go.pull (V := T21.setTop (mkF m 37 #[iv pa, iv 6, .val .null, .val .null] [(.int 1)])) (fun t k => XS.goto X21.here hx rfl (pc0 := 33) (pc' := 37) rfl (hb hby at_33) (by decide) (by decide) k) ?_
    exact Go.retN X21 hx Bd.notSynchronized (t := .boolean) Bd.returns (by simp) (hb hby at_37) ⟨rfl, N21⟩ (by decide) (by decide)
  · subst hv1
    refine Go.pull (V := s₁.setTop (mkF m 6 #[iv pa, iv 7, .unset, .unset] [(.int 7)])) (fun t k => XS.iloadN X0.here hx rfl (hb hby at_5) rfl  k) ?_
    obtain ⟨_, _, ⟨T22, L22, k22, n22⟩, -, X22, ⟨Lc22, hQ22, l22, y22, z22⟩, st22⟩ := Jvm.LawKit.callS X0 hx (y := (⟨"com/example/tagwire/tagwire/WireType", "ofNumber", "(I)Lcom/example/tagwire/tagwire/WireType;"⟩ : MethodName)) hown (mvT hZ (hw _ (List.mem_of_getElem? (i := 0) rfl))) (mvT hZ (hw _ (List.mem_of_getElem? (i := 1) rfl))) (mvT hZ (hw _ (List.mem_of_getElem? (i := 2) rfl))) (mvT hZ (hw _ (List.mem_of_getElem? (i := 3) rfl))) (by decide) (backOf (W := 0) (rmA l Z a0 hw [] (7 : Int32) r_WireType_BY_NUMBER k_r_WireType_BY_NUMBER r_WireType_VARINT r_WireType_FIXED64 r_WireType_LENGTH_DELIMITED r_WireType_START_GROUP r_WireType_END_GROUP r_WireType_FIXED32 h0 n0 S_r_WireType_BY_NUMBER V_r_WireType_BY_NUMBER (by decide)) hZ (hw _ (List.mem_of_getElem? (i := 3) rfl)) (hw _ (List.mem_of_getElem? (i := 2) rfl)) (by decide) (by decide)) (g := (mkF m 6 #[iv pa, iv 7, .unset, .unset] [(.int 7)])) rfl (by rw [hml]; rfl) (argsL := [(.int 7)]) (rest := []) (lenOf pd_0 rfl) rfl (by show 2 * 0 + _ ≤ _; exact Nat.le_of_eq rfl) (hb hby at_6) (fun _ _ => ⟨rfl, e0, (by decide : 0 + 0 ≤ _), (by decide : 0 + 0 ≤ _)⟩)
    dsimp only [Pt.U, Pt.locs, Pt.cells, Pt.slots] at X22 l22 y22 z22 st22 hQ22
    subst l22 y22 z22
    obtain ⟨hv22, N22q, e22⟩ := hQ22
    rw [(show (own_of r_WireType_VARINT r_WireType_FIXED64 r_WireType_LENGTH_DELIMITED r_WireType_START_GROUP r_WireType_END_GROUP r_WireType_FIXED32 (7 : Int32)) = .null from rfl)] at hv22; subst hv22
    have N22 := Fr.app N0 N22q
    refine Go.pull (V := T22.setTop (mkF m 9 #[iv pa, iv 7, .unset, .unset] [.null])) st22 ?_
    refine Go.pull (V := T22.setTop (mkF m 10 #[iv pa, iv 7, .val .null, .unset] [])) (fun t k => XS.astoreN X22.here hx rfl (hb hby at_9) rfl rfl (l' := #[iv pa, iv 7, .val .null, .unset]) rfl k) ?_
    refine Go.pull (V := T22.setTop (mkF m 11 #[iv pa, iv 7, .val .null, .unset] [(.int 7)])) (fun t k => XS.iloadN X22.here hx rfl (hb hby at_10) rfl  k) ?_
    obtain ⟨_, _, ⟨T23, L23, k23, n23⟩, -, X23, ⟨Lc23, hQ23, l23, y23, z23⟩, st23⟩ := Jvm.LawKit.callS X22 hx (y := (⟨"com/example/tagwire/tagwire/WireTypeOfNumberPinLaw", "expected", "(I)Lcom/example/tagwire/tagwire/WireType;"⟩ : MethodName)) hown (mvT hZ (hw _ (List.mem_of_getElem? (i := 7) rfl))) (mvT hZ (hw _ (List.mem_of_getElem? (i := 8) rfl))) (mvT hZ (hw _ (List.mem_of_getElem? (i := 9) rfl))) (mvT hZ (hw _ (List.mem_of_getElem? (i := 10) rfl))) (by decide) (backOf (W := 0) (rmB l Z a0 hw [] (7 : Int32) r_WireType_VARINT r_WireType_FIXED64 r_WireType_LENGTH_DELIMITED r_WireType_START_GROUP r_WireType_END_GROUP r_WireType_FIXED32 h0 n0 S_r_WireType_VARINT S_r_WireType_FIXED64 S_r_WireType_LENGTH_DELIMITED S_r_WireType_START_GROUP S_r_WireType_END_GROUP S_r_WireType_FIXED32 (by decide)) hZ (hw _ (List.mem_of_getElem? (i := 10) rfl)) (hw _ (List.mem_of_getElem? (i := 9) rfl)) (by decide) (by decide)) (g := (mkF m 11 #[iv pa, iv 7, .val .null, .unset] [(.int 7)])) rfl (by rw [hml]; rfl) (argsL := [(.int 7)]) (rest := []) (lenOf pd_0 rfl) rfl (by show 2 * 0 + _ ≤ _; exact Nat.le_of_eq rfl) (hb hby at_11) (fun _ _ => ⟨rfl, e22, (by decide : 0 + 0 ≤ _), (by decide : 0 + 0 ≤ _)⟩)
    dsimp only [Pt.U, Pt.locs, Pt.cells, Pt.slots] at X23 l23 y23 z23 st23 hQ23
    subst l23 y23 z23
    obtain ⟨hv23, N23q, e23⟩ := hQ23
    rw [(show (own_of r_WireType_VARINT r_WireType_FIXED64 r_WireType_LENGTH_DELIMITED r_WireType_START_GROUP r_WireType_END_GROUP r_WireType_FIXED32 (7 : Int32)) = .null from rfl)] at hv23; subst hv23
    have N23 := Fr.app N22 N23q
    refine Go.pull (V := T23.setTop (mkF m 14 #[iv pa, iv 7, .val .null, .unset] [.null])) st23 ?_
    refine Go.pull (V := T23.setTop (mkF m 15 #[iv pa, iv 7, .val .null, .val .null] [])) (fun t k => XS.astoreN X23.here hx rfl (hb hby at_14) rfl rfl (l' := #[iv pa, iv 7, .val .null, .val .null]) rfl k) ?_
    refine Go.pull (V := T23.setTop (mkF m 16 #[iv pa, iv 7, .val .null, .val .null] [.null])) (fun t k => XS.aloadN X23.here hx rfl (hb hby at_15) rfl rfl k) ?_
    refine Go.pull (V := T23.setTop (mkF m 17 #[iv pa, iv 7, .val .null, .val .null] [.null, .null])) (fun t k => XS.aloadN X23.here hx rfl (hb hby at_16) rfl rfl k) ?_
    refine Go.pull (V := T23.setTop (mkF m 22 #[iv pa, iv 7, .val .null, .val .null] [])) (fun t k => XT.acmpYes X23.here hx rfl (pc0 := 17) (pc' := 22) rfl (hb hby at_17) rfl rfl rfl (XT.aa_eq_t rfl) (by decide) (by decide) k) ?_
    refine Go.pull (V := T23.setTop (mkF m 23 #[iv pa, iv 7, .val .null, .val .null] [.null])) (fun t k => XS.aloadN X23.here hx rfl (hb hby at_22) rfl rfl k) ?_
    refine Go.pull (V := T23.setTop (mkF m 26 #[iv pa, iv 7, .val .null, .val .null] [])) (fun t k => XS.ifnonnullNo X23.here hx rfl (hb hby at_23) rfl k) ?_
    refine Go.pull (V := T23.setTop (mkF m 27 #[iv pa, iv 7, .val .null, .val .null] [(.int 7)])) (fun t k => XS.iloadN X23.here hx rfl (hb hby at_26) rfl  k) ?_
    refine Go.pull (V := T23.setTop (mkF m 29 #[iv pa, iv 7, .val .null, .val .null] [(.int 6), (.int 7)])) (fun t k => XS.bipush X23.here hx rfl (hb hby at_27) k) ?_
    refine Go.pull (V := T23.setTop (mkF m 32 #[iv pa, iv 7, .val .null, .val .null] [])) (fun t k => XS.icmpNo X23.here hx rfl (hb hby at_29) rfl (XT.ii_lt_f (by decide)) k) ?_
    refine Go.pull (V := T23.setTop (mkF m 33 #[iv pa, iv 7, .val .null, .val .null] [(.int 1)])) (fun t k => XS.iconst X23.here hx rfl (hb hby at_32) k) ?_
    refine Go.pull (V := T23.setTop (mkF m 37 #[iv pa, iv 7, .val .null, .val .null] [(.int 1)])) (fun t k => XS.goto X23.here hx rfl (pc0 := 33) (pc' := 37) rfl (hb hby at_33) (by decide) (by decide) k) ?_
    exact Go.retN X23 hx Bd.notSynchronized (t := .boolean) Bd.returns (by simp) (hb hby at_37) ⟨rfl, N23⟩ (by decide) (by decide)
set_option maxRecDepth 65536 in
set_option maxHeartbeats 40000000 in
theorem comes_1 {Post : Tables → Env → Array Value → State → Outcome → State → Prop} (hpost : ∀ tb e args s v u, (limb_1_1.after args s (.returned v) u = true ∧ limb_1_2.after args s (.returned v) u = true ∧ True) → FrameEnd s (.returned v) u (Jvm.fieldLocs frame_1_writes args s ++ Jvm.arrayLocs frame_1_arrays args s ++ Jvm.staticLocs frame_1_statics s) 0 0 → Post tb e args s (.returned v) u) :
    ArmFor flags0 classFile x code maxLocals ret World_1 tables_1 room_1 Calls_1 rest_1 Pre_1 Post := by
  intro l hfl _ _ p e ha hc hk s m args below hf hA hF happ hP
  obtain ⟨hcalls, hrest, hpre⟩ := hP
  obtain ⟨-, -, -, hnamed, -, -, -, hat⟩ := (Spec.applies_iff hf).mp happ
  obtain ⟨hg, hn⟩ := and_e (Cond.before_iff.mp (show (Jvm.Cond.and given_1 narrow_1).before args s = true from hpre))
  obtain ⟨y1, y2⟩ := and_e hg
  obtain ⟨y3, y4⟩ := and_e hn
  obtain ⟨y5, y6⟩ := and_e y4
  obtain ⟨y7, y8⟩ := and_e y6
  obtain ⟨y9, y10⟩ := and_e y8
  obtain ⟨y11, y12⟩ := and_e y10
  obtain ⟨y13, y14⟩ := and_e y12
  obtain ⟨y15, y16⟩ := and_e y14
  obtain ⟨y17, y18⟩ := and_e y16
  obtain ⟨y19, y20⟩ := and_e y18
  obtain ⟨y21, y22⟩ := and_e y20
  obtain ⟨y23, y24⟩ := and_e y22
  obtain ⟨y25, y26⟩ := and_e y24
  obtain ⟨y27, y28⟩ := and_e y26
  obtain ⟨y29, y30⟩ := and_e y28
  obtain ⟨y31, y32⟩ := and_e y30
  obtain ⟨y33, y34⟩ := and_e y32
  obtain ⟨y35, y36⟩ := and_e y34
  obtain ⟨y37, y38⟩ := and_e y36
  obtain ⟨y39, y40⟩ := and_e y38
  obtain ⟨w0, rfl⟩ : ∃ w0 : Value, args = #[w0] := by
    have hs : args.size = 1 := by simpa [Cond.value, given_1] using y1
    obtain ⟨L⟩ := args
    match L, hs with
    | [w0], _ => exact ⟨w0, rfl⟩
  have hw := fun d (hd : d ∈ tables_1) => atoms_spec (ws := Jvm.Cond.code x code maxLocals ret :: tables_1) hat d (List.mem_cons_of_mem _ hd)
  have hfit : Fit s := fun {y c} hc i hi => by
    obtain ⟨ha, rfl⟩ := Array.getElem?_eq_some_iff.mp hc
    have q := List.all_eq_true.mp ((Array.all_eq_true_iff_forall_mem.mp hF) _ (Array.getElem_mem ha)) i (List.mem_range.mpr hi)
    simpa [Array.getElem?_eq_getElem hi] using q
  obtain ⟨i0, ei0⟩ := is_v y2
  obtain rfl : w0 = (.int i0) := Option.some.inj ei0
  obtain ⟨a_WireType_VARINT, ev_a_WireType_VARINT⟩ := exa_v y7
  have EX_a_WireType_VARINT : Exa s s.heap a_WireType_VARINT "com/example/tagwire/tagwire/WireType" := Exa.start ev_a_WireType_VARINT y7
  have ST_a_WireType_VARINT : Sta s s.heap "com/example/tagwire/tagwire/WireType" "VARINT" "Lcom/example/tagwire/tagwire/WireType;" (.ref a_WireType_VARINT) := Sta.start ev_a_WireType_VARINT (Or.inr ⟨(hw _ (List.mem_of_getElem? (i := 2) rfl)), (hw _ (List.mem_of_getElem? (i := 6) rfl))⟩)
  obtain ⟨a_WireType_START_GROUP, ev_a_WireType_START_GROUP⟩ := exa_v y13
  have EX_a_WireType_START_GROUP : Exa s s.heap a_WireType_START_GROUP "com/example/tagwire/tagwire/WireType" := Exa.start ev_a_WireType_START_GROUP y13
  have ST_a_WireType_START_GROUP : Sta s s.heap "com/example/tagwire/tagwire/WireType" "START_GROUP" "Lcom/example/tagwire/tagwire/WireType;" (.ref a_WireType_START_GROUP) := Sta.start ev_a_WireType_START_GROUP (Or.inr ⟨(hw _ (List.mem_of_getElem? (i := 2) rfl)), (hw _ (List.mem_of_getElem? (i := 19) rfl))⟩)
  obtain ⟨a_WireType_LENGTH_DELIMITED, ev_a_WireType_LENGTH_DELIMITED⟩ := exa_v y19
  have EX_a_WireType_LENGTH_DELIMITED : Exa s s.heap a_WireType_LENGTH_DELIMITED "com/example/tagwire/tagwire/WireType" := Exa.start ev_a_WireType_LENGTH_DELIMITED y19
  have ST_a_WireType_LENGTH_DELIMITED : Sta s s.heap "com/example/tagwire/tagwire/WireType" "LENGTH_DELIMITED" "Lcom/example/tagwire/tagwire/WireType;" (.ref a_WireType_LENGTH_DELIMITED) := Sta.start ev_a_WireType_LENGTH_DELIMITED (Or.inr ⟨(hw _ (List.mem_of_getElem? (i := 2) rfl)), (hw _ (List.mem_of_getElem? (i := 21) rfl))⟩)
  obtain ⟨a_WireType_FIXED64, ev_a_WireType_FIXED64⟩ := exa_v y25
  have EX_a_WireType_FIXED64 : Exa s s.heap a_WireType_FIXED64 "com/example/tagwire/tagwire/WireType" := Exa.start ev_a_WireType_FIXED64 y25
  have ST_a_WireType_FIXED64 : Sta s s.heap "com/example/tagwire/tagwire/WireType" "FIXED64" "Lcom/example/tagwire/tagwire/WireType;" (.ref a_WireType_FIXED64) := Sta.start ev_a_WireType_FIXED64 (Or.inr ⟨(hw _ (List.mem_of_getElem? (i := 2) rfl)), (hw _ (List.mem_of_getElem? (i := 23) rfl))⟩)
  obtain ⟨a_WireType_END_GROUP, ev_a_WireType_END_GROUP⟩ := exa_v y31
  have EX_a_WireType_END_GROUP : Exa s s.heap a_WireType_END_GROUP "com/example/tagwire/tagwire/WireType" := Exa.start ev_a_WireType_END_GROUP y31
  have ST_a_WireType_END_GROUP : Sta s s.heap "com/example/tagwire/tagwire/WireType" "END_GROUP" "Lcom/example/tagwire/tagwire/WireType;" (.ref a_WireType_END_GROUP) := Sta.start ev_a_WireType_END_GROUP (Or.inr ⟨(hw _ (List.mem_of_getElem? (i := 2) rfl)), (hw _ (List.mem_of_getElem? (i := 25) rfl))⟩)
  obtain ⟨a_WireType_FIXED32, ev_a_WireType_FIXED32⟩ := exa_v y37
  have EX_a_WireType_FIXED32 : Exa s s.heap a_WireType_FIXED32 "com/example/tagwire/tagwire/WireType" := Exa.start ev_a_WireType_FIXED32 y37
  have ST_a_WireType_FIXED32 : Sta s s.heap "com/example/tagwire/tagwire/WireType" "FIXED32" "Lcom/example/tagwire/tagwire/WireType;" (.ref a_WireType_FIXED32) := Sta.start ev_a_WireType_FIXED32 (Or.inr ⟨(hw _ (List.mem_of_getElem? (i := 2) rfl)), (hw _ (List.mem_of_getElem? (i := 27) rfl))⟩)
  have FL_a_WireType_VARINT_number : Fld s s.heap a_WireType_VARINT "com/example/tagwire/tagwire/WireType" "number" "I" (.int 0) := Fld.start ((fld_at ev_a_WireType_VARINT).symm.trans (own_eq_i y11))
  have FL_a_WireType_START_GROUP_number : Fld s s.heap a_WireType_START_GROUP "com/example/tagwire/tagwire/WireType" "number" "I" (.int 3) := Fld.start ((fld_at ev_a_WireType_START_GROUP).symm.trans (own_eq_i y17))
  have FL_a_WireType_LENGTH_DELIMITED_number : Fld s s.heap a_WireType_LENGTH_DELIMITED "com/example/tagwire/tagwire/WireType" "number" "I" (.int 2) := Fld.start ((fld_at ev_a_WireType_LENGTH_DELIMITED).symm.trans (own_eq_i y23))
  have FL_a_WireType_FIXED64_number : Fld s s.heap a_WireType_FIXED64 "com/example/tagwire/tagwire/WireType" "number" "I" (.int 1) := Fld.start ((fld_at ev_a_WireType_FIXED64).symm.trans (own_eq_i y29))
  have FL_a_WireType_END_GROUP_number : Fld s s.heap a_WireType_END_GROUP "com/example/tagwire/tagwire/WireType" "number" "I" (.int 4) := Fld.start ((fld_at ev_a_WireType_END_GROUP).symm.trans (own_eq_i y35))
  have FL_a_WireType_FIXED32_number : Fld s s.heap a_WireType_FIXED32 "com/example/tagwire/tagwire/WireType" "number" "I" (.int 5) := Fld.start ((fld_at ev_a_WireType_FIXED32).symm.trans (own_eq_i y40))
  obtain ⟨a_WireType_BY_NUMBER, ev_a_WireType_BY_NUMBER⟩ := arr_v y3
  obtain ⟨cl_a_WireType_BY_NUMBER, AR_a_WireType_BY_NUMBER⟩ := Arr.start ev_a_WireType_BY_NUMBER y3
  have ST_a_WireType_BY_NUMBER : Sta s s.heap "com/example/tagwire/tagwire/WireType" "BY_NUMBER" "[Lcom/example/tagwire/tagwire/WireType;" (.ref a_WireType_BY_NUMBER) := Sta.start ev_a_WireType_BY_NUMBER (Or.inr ⟨(hw _ (List.mem_of_getElem? (i := 2) rfl)), (hw _ (List.mem_of_getElem? (i := 5) rfl))⟩)
  obtain ⟨lq_a_WireType_BY_NUMBER, le_a_WireType_BY_NUMBER⟩ := Jvm.Free.IntBox.length_fwd (Cond.before_iff.mpr y5) ev_a_WireType_BY_NUMBER AR_a_WireType_BY_NUMBER.1 AR_a_WireType_BY_NUMBER.2.1 AR_a_WireType_BY_NUMBER.2.2
  have el_a_WireType_BY_NUMBER_0 := (elem_in (own_eq_r ev_a_WireType_VARINT y9) ev_a_WireType_BY_NUMBER (Term.int_eval 0) AR_a_WireType_BY_NUMBER.1).2
  have el_a_WireType_BY_NUMBER_1 := (elem_in (own_eq_r ev_a_WireType_FIXED64 y27) ev_a_WireType_BY_NUMBER (Term.int_eval 1) AR_a_WireType_BY_NUMBER.1).2
  have el_a_WireType_BY_NUMBER_2 := (elem_in (own_eq_r ev_a_WireType_LENGTH_DELIMITED y21) ev_a_WireType_BY_NUMBER (Term.int_eval 2) AR_a_WireType_BY_NUMBER.1).2
  have el_a_WireType_BY_NUMBER_3 := (elem_in (own_eq_r ev_a_WireType_START_GROUP y15) ev_a_WireType_BY_NUMBER (Term.int_eval 3) AR_a_WireType_BY_NUMBER.1).2
  have el_a_WireType_BY_NUMBER_4 := (elem_in (own_eq_r ev_a_WireType_END_GROUP y33) ev_a_WireType_BY_NUMBER (Term.int_eval 4) AR_a_WireType_BY_NUMBER.1).2
  have el_a_WireType_BY_NUMBER_5 := (elem_in (own_eq_r ev_a_WireType_FIXED32 y39) ev_a_WireType_BY_NUMBER (Term.int_eval 5) AR_a_WireType_BY_NUMBER.1).2
  have AV_a_WireType_BY_NUMBER : Arv s s.heap a_WireType_BY_NUMBER cl_a_WireType_BY_NUMBER.cls (.object "com/example/tagwire/tagwire/WireType") 6 [.ref a_WireType_VARINT, .ref a_WireType_FIXED64, .ref a_WireType_LENGTH_DELIMITED, .ref a_WireType_START_GROUP, .ref a_WireType_END_GROUP, .ref a_WireType_FIXED32] .null := Arv.start hfit AR_a_WireType_BY_NUMBER lq_a_WireType_BY_NUMBER le_a_WireType_BY_NUMBER (by decide) rfl ⟨el_a_WireType_BY_NUMBER_0, el_a_WireType_BY_NUMBER_1, el_a_WireType_BY_NUMBER_2, el_a_WireType_BY_NUMBER_3, el_a_WireType_BY_NUMBER_4, el_a_WireType_BY_NUMBER_5, trivial⟩
  obtain ⟨n, o, h1, h2, h3, _, L, rfl, ⟨rfl, N⟩, hq⟩ := rm0 l s _ hw tables_1 i0 a_WireType_VARINT a_WireType_START_GROUP a_WireType_LENGTH_DELIMITED a_WireType_FIXED64 a_WireType_END_GROUP a_WireType_FIXED32 a_WireType_BY_NUMBER cl_a_WireType_BY_NUMBER.cls s.heap s.heap.size (Nat.le_refl _) ST_a_WireType_VARINT EX_a_WireType_VARINT ST_a_WireType_START_GROUP EX_a_WireType_START_GROUP ST_a_WireType_LENGTH_DELIMITED EX_a_WireType_LENGTH_DELIMITED ST_a_WireType_FIXED64 EX_a_WireType_FIXED64 ST_a_WireType_END_GROUP EX_a_WireType_END_GROUP ST_a_WireType_FIXED32 EX_a_WireType_FIXED32 FL_a_WireType_VARINT_number FL_a_WireType_START_GROUP_number FL_a_WireType_LENGTH_DELIMITED_number FL_a_WireType_FIXED64_number FL_a_WireType_END_GROUP_number FL_a_WireType_FIXED32_number ST_a_WireType_BY_NUMBER AV_a_WireType_BY_NUMBER p e ha hc hk s m _ below hf ((Spec.applies_iff_loose hf).mp happ).1 ⟨rfl, State.Warmed39.refl s, rfl⟩ trivial
  refine ⟨n, _, h1, h2, h3, hpost _ _ _ _ _ _ ⟨Cond.after_iff.mpr rfl, Cond.after_iff.mpr (eq_i res_at (Term.int_eval (1)) rfl), trivial⟩ ⟨hq.1, hq.2.1, (hq.2.2.sift fun y hy => Or.inr (N y hy)).mono (by decide) (by decide)⟩⟩
theorem main_1_1 : Claimed_1_1 := comes_1 fun _ _ _ _ _ _ h hF => ⟨h.1, hF⟩
theorem main_1_2 : Claimed_1_2 := comes_1 fun _ _ _ _ _ _ h hF => ⟨h.2.1, hF⟩
end Jvm.Pilot.@@N@@
namespace Jvm.Pilot.@@N@@
open Jvm Jvm.ClassFile Sem Op Lib Jvm.Free Jvm.Stand Jvm.Pilot.@@N@@.Jvm.D
/-! MADE BY PROGRAM (witnessworld.py) out of the Statement's table words and the real class files: 13 classes; the members and pool entries that the words name. The judged class is class 1, her method 2. -/
namespace start1
open Jvm.ClassFile
def u (s : String) : CpInfo := .utf8 (stringToUtf16 s)
/-- a pool by its gaps: so many unusable entries, then the entry; so many at the end -/
def gap : Nat → List CpInfo → List CpInfo
  | 0, r => r
  | n + 1, r => .unusable :: gap n r
def poolList (es : List (Nat × CpInfo)) (last : Nat) : List CpInfo := es.foldr (fun e r => gap e.1 (e.2 :: r)) (gap last [])
def pool (es : List (Nat × CpInfo)) (last : Nat) : Array CpInfo := ⟨poolList es last⟩
def fileOf (pool : Array CpInfo) (this : Nat) (attrs : Array Attribute := #[]) (ms : Array MethodInfo := #[]) (fl : Nat := 33) (sup : Nat := 0) (ifs : Array Nat := #[]) (fds : Array FieldInfo := #[]) : ClassFile where
  minorVersion := 0
  majorVersion := 65
  constantPool := pool
  accessFlags := fl
  thisClass := this
  superClass := sup
  interfaces := ifs
  fields := fds
  methods := ms
  attributes := attrs
def plain (name : String) (sup : Option ClassId) : Class where
  name := name
  kind := .ordinary
  loader := none
  accessFlags := 33
  super := sup
  interfaces := #[]
  cf := none
  fields := #[]
  methods := #[]
  instanceTypes := #[]
  staticTypes := #[]
  resolved := #[]
  callSites := []
  init := .initialized
  statics := none
  mirror := none

def pool0 : Array CpInfo := pool [(5, u "<init>"), (0, u "()V"), (1, .class_ 10), (1, u "java/lang/Object")] 113

def k0m0 : Method := { name := "<init>", desc := "()V", sig := { parameters := [], returnType := none }, accessFlags := 1, code := none }
/-- java/lang/Object -/
def k0 : Class := { plain "java/lang/Object" none with
  accessFlags := 33
  interfaces := #[]
  cf := some (fileOf pool0 8 #[] #[{ accessFlags := 1, nameIndex := 5, descriptorIndex := 6, attributes := #[] }] 33 0 #[] #[])
  fields := #[]
  methods := #[k0m0]
  instanceTypes := #[]
  staticTypes := #[]
  resolved := Array.replicate 124 none
  statics := none }

def pool1 : Array CpInfo := pool [(2, .class_ 4), (1, u "java/lang/Object"), (0, u "<init>"), (0, u "()V"), (0, .fieldref 8 9), (0, .class_ 10), (0, .nameAndType 11 12), (0, u "com/example/tagwire/tagwire/WireType"), (0, u "VARINT"), (0, u "Lcom/example/tagwire/tagwire/WireType;"), (0, .fieldref 8 14), (0, .nameAndType 15 12), (0, u "FIXED64"), (0, .fieldref 8 17), (0, .nameAndType 18 12), (0, u "LENGTH_DELIMITED"), (0, .fieldref 8 20), (0, .nameAndType 21 12), (0, u "START_GROUP"), (0, .fieldref 8 23), (0, .nameAndType 24 12), (0, u "END_GROUP"), (0, .fieldref 8 26), (0, .nameAndType 27 12), (0, u "FIXED32"), (0, .methodref 8 29), (0, .nameAndType 30 31), (0, u "ofNumber"), (0, u "(I)Lcom/example/tagwire/tagwire/WireType;"), (0, .methodref 33 34), (0, .class_ 35), (0, .nameAndType 36 31), (0, u "com/example/tagwire/tagwire/WireTypeOfNumberPinLaw"), (0, u "expected"), (0, .methodref 8 38), (0, .nameAndType 39 40), (0, u "number"), (0, u "()I"), (3, u "law"), (0, u "(I)Z")] 2

def k1m0 : Method := { name := "<init>", desc := "()V", sig := { parameters := [], returnType := none }, accessFlags := 2, code := none }
def k1c1 : Code := { maxStack := 2, maxLocals := 1, code := method_2_code, exceptionTable := #[], attributes := #[] }
def k1m1 : Method := { name := "expected", desc := "(I)Lcom/example/tagwire/tagwire/WireType;", sig := { parameters := [.int], returnType := some (.object "com/example/tagwire/tagwire/WireType") }, accessFlags := 10, code := some k1c1 }
def k1c2 : Code := { maxStack := 2, maxLocals := 4, code := code, exceptionTable := #[], attributes := #[] }
def k1m2 : Method := { name := "law", desc := "(I)Z", sig := { parameters := [.int], returnType := some .boolean }, accessFlags := 9, code := some k1c2 }
/-- com/example/tagwire/tagwire/WireTypeOfNumberPinLaw -/
def k1 : Class := { plain "com/example/tagwire/tagwire/WireTypeOfNumberPinLaw" (some 0) with
  accessFlags := 49
  interfaces := #[]
  cf := some (fileOf pool1 33 #[] #[{ accessFlags := 2, nameIndex := 5, descriptorIndex := 6, attributes := #[] }, { accessFlags := 10, nameIndex := 36, descriptorIndex := 31, attributes := #[] }, { accessFlags := 9, nameIndex := 44, descriptorIndex := 45, attributes := #[] }] 49 2 #[] #[])
  fields := #[]
  methods := #[k1m0, k1m1, k1m2]
  instanceTypes := #[]
  staticTypes := #[]
  resolved := Array.replicate 48 none
  statics := none }

def pool2 : Array CpInfo := pool [(1, .class_ 2), (0, u "java/lang/constant/Constable"), (0, .class_ 4), (0, u "java/lang/Object")] 6

/-- java/lang/constant/Constable -/
def k2 : Class := { plain "java/lang/constant/Constable" (some 0) with
  accessFlags := 1537
  interfaces := #[]
  cf := some (fileOf pool2 1 #[] #[] 1537 3 #[] #[])
  fields := #[]
  methods := #[]
  instanceTypes := #[]
  staticTypes := #[]
  resolved := Array.replicate 11 none
  statics := none }

def pool3 : Array CpInfo := pool [(1, .class_ 2), (0, u "java/lang/Comparable"), (0, .class_ 4), (0, u "java/lang/Object")] 7

/-- java/lang/Comparable -/
def k3 : Class := { plain "java/lang/Comparable" (some 0) with
  accessFlags := 1537
  interfaces := #[]
  cf := some (fileOf pool3 1 #[] #[] 1537 3 #[] #[])
  fields := #[]
  methods := #[]
  instanceTypes := #[]
  staticTypes := #[]
  resolved := Array.replicate 12 none
  statics := none }

def pool4 : Array CpInfo := pool [(1, .class_ 2), (0, u "java/io/Serializable"), (0, .class_ 4), (0, u "java/lang/Object")] 2

/-- java/io/Serializable -/
def k4 : Class := { plain "java/io/Serializable" (some 0) with
  accessFlags := 1537
  interfaces := #[]
  cf := some (fileOf pool4 1 #[] #[] 1537 3 #[] #[])
  fields := #[]
  methods := #[]
  instanceTypes := #[]
  staticTypes := #[]
  resolved := Array.replicate 7 none
  statics := none }

def pool5 : Array CpInfo := pool [(2, .class_ 4), (1, u "java/lang/Enum"), (0, u "name"), (0, u "Ljava/lang/String;"), (2, u "ordinal"), (0, u "I"), (1, .class_ 14), (1, u "java/lang/Object"), (4, u "hash"), (86, .class_ 108), (1, u "java/lang/Enum$EnumDesc"), (2, .class_ 112), (0, u "java/lang/constant/Constable"), (0, .class_ 114), (0, u "java/lang/Comparable"), (0, .class_ 116), (0, u "java/io/Serializable")] 87

/-- java/lang/Enum -/
def k5 : Class := { plain "java/lang/Enum" (some 0) with
  accessFlags := 1057
  interfaces := #[2, 3, 4]
  cf := some (fileOf pool5 2 #[.nestMembers #[106]] #[] 1057 12 #[111, 113, 115] #[{ accessFlags := 18, nameIndex := 5, descriptorIndex := 6, attributes := #[] }, { accessFlags := 18, nameIndex := 9, descriptorIndex := 10, attributes := #[] }, { accessFlags := 2, nameIndex := 19, descriptorIndex := 10, attributes := #[] }])
  fields := #[{ name := "name", type := (.object "java/lang/String"), accessFlags := 18, slot := 0, constantValue := 0 }, { name := "ordinal", type := .int, accessFlags := 18, slot := 1, constantValue := 0 }, { name := "hash", type := .int, accessFlags := 2, slot := 2, constantValue := 0 }]
  methods := #[]
  instanceTypes := #[(.object "java/lang/String"), .int, .int]
  staticTypes := #[]
  resolved := Array.replicate 204 none
  statics := none }

def pool6 : Array CpInfo := pool [(1, .class_ 2), (0, u "com/example/tagwire/tagwire/WireType"), (2, u "VARINT"), (0, u "Lcom/example/tagwire/tagwire/WireType;"), (2, u "FIXED64"), (2, u "LENGTH_DELIMITED"), (2, u "START_GROUP"), (2, u "END_GROUP"), (2, u "FIXED32"), (2, u "$VALUES"), (0, u "[Lcom/example/tagwire/tagwire/WireType;"), (6, .class_ 34), (1, u "java/lang/Enum"), (6, .fieldref 1 42), (0, .nameAndType 43 44), (0, u "number"), (0, u "I"), (0, .fieldref 1 46), (0, .nameAndType 47 25), (0, u "BY_NUMBER"), (22, u "()I"), (0, u "ofNumber"), (0, u "(I)Lcom/example/tagwire/tagwire/WireType;")] 6

def k6c0 : Code := { maxStack := 1, maxLocals := 1, code := prog_78_method_4_code, exceptionTable := #[], attributes := #[] }
def k6m0 : Method := { name := "number", desc := "()I", sig := { parameters := [], returnType := some .int }, accessFlags := 1, code := some k6c0 }
def k6c1 : Code := { maxStack := 2, maxLocals := 2, code := prog_78_method_5_code, exceptionTable := #[], attributes := #[] }
def k6m1 : Method := { name := "ofNumber", desc := "(I)Lcom/example/tagwire/tagwire/WireType;", sig := { parameters := [.int], returnType := some (.object "com/example/tagwire/tagwire/WireType") }, accessFlags := 8, code := some k6c1 }
/-- com/example/tagwire/tagwire/WireType -/
def k6 : Class := { plain "com/example/tagwire/tagwire/WireType" (some 5) with
  accessFlags := 16433
  interfaces := #[]
  cf := some (fileOf pool6 1 #[] #[{ accessFlags := 1, nameIndex := 43, descriptorIndex := 70, attributes := #[] }, { accessFlags := 8, nameIndex := 71, descriptorIndex := 72, attributes := #[] }] 16433 32 #[] #[{ accessFlags := 16409, nameIndex := 5, descriptorIndex := 6, attributes := #[] }, { accessFlags := 16409, nameIndex := 9, descriptorIndex := 6, attributes := #[] }, { accessFlags := 16409, nameIndex := 12, descriptorIndex := 6, attributes := #[] }, { accessFlags := 16409, nameIndex := 15, descriptorIndex := 6, attributes := #[] }, { accessFlags := 16409, nameIndex := 18, descriptorIndex := 6, attributes := #[] }, { accessFlags := 16409, nameIndex := 21, descriptorIndex := 6, attributes := #[] }, { accessFlags := 26, nameIndex := 47, descriptorIndex := 25, attributes := #[] }, { accessFlags := 18, nameIndex := 43, descriptorIndex := 44, attributes := #[] }, { accessFlags := 4122, nameIndex := 24, descriptorIndex := 25, attributes := #[] }])
  fields := #[{ name := "VARINT", type := (.object "com/example/tagwire/tagwire/WireType"), accessFlags := 16409, slot := 0, constantValue := 0 }, { name := "FIXED64", type := (.object "com/example/tagwire/tagwire/WireType"), accessFlags := 16409, slot := 1, constantValue := 0 }, { name := "LENGTH_DELIMITED", type := (.object "com/example/tagwire/tagwire/WireType"), accessFlags := 16409, slot := 2, constantValue := 0 }, { name := "START_GROUP", type := (.object "com/example/tagwire/tagwire/WireType"), accessFlags := 16409, slot := 3, constantValue := 0 }, { name := "END_GROUP", type := (.object "com/example/tagwire/tagwire/WireType"), accessFlags := 16409, slot := 4, constantValue := 0 }, { name := "FIXED32", type := (.object "com/example/tagwire/tagwire/WireType"), accessFlags := 16409, slot := 5, constantValue := 0 }, { name := "BY_NUMBER", type := (.array (.object "com/example/tagwire/tagwire/WireType")), accessFlags := 26, slot := 6, constantValue := 0 }, { name := "number", type := .int, accessFlags := 18, slot := 3, constantValue := 0 }, { name := "$VALUES", type := (.array (.object "com/example/tagwire/tagwire/WireType")), accessFlags := 4122, slot := 7, constantValue := 0 }]
  methods := #[k6m0, k6m1]
  instanceTypes := #[(.object "java/lang/String"), .int, .int, .int]
  staticTypes := #[(.object "com/example/tagwire/tagwire/WireType"), (.object "com/example/tagwire/tagwire/WireType"), (.object "com/example/tagwire/tagwire/WireType"), (.object "com/example/tagwire/tagwire/WireType"), (.object "com/example/tagwire/tagwire/WireType"), (.object "com/example/tagwire/tagwire/WireType"), (.array (.object "com/example/tagwire/tagwire/WireType")), (.array (.object "com/example/tagwire/tagwire/WireType"))]
  resolved := Array.replicate 79 none
  statics := some 0 }

def pool7 : Array CpInfo := pool [(1, u "java/lang/Cloneable"), (0, .class_ 1), (0, u "java/lang/Object"), (0, .class_ 3)] 3

/-- java/lang/Cloneable -/
def k7 : Class := { plain "java/lang/Cloneable" (some 0) with
  accessFlags := 1537
  interfaces := #[]
  cf := some (fileOf pool7 2 #[] #[] 1537 4 #[] #[])
  fields := #[]
  methods := #[]
  instanceTypes := #[]
  staticTypes := #[]
  resolved := Array.replicate 8 none
  statics := none }

/-- the primitive byte -/
def k8 : Class := { plain "byte" none with kind := .primitive 'B', accessFlags := 0x411 }
/-- [B -/
def k9 : Class := { plain "[B" (some 0) with kind := .array 8 .byte, interfaces := #[7, 4], accessFlags := 1041 }

/-- the primitive int -/
def k10 : Class := { plain "int" none with kind := .primitive 'I', accessFlags := 0x411 }
/-- [I -/
def k11 : Class := { plain "[I" (some 0) with kind := .array 10 .int, interfaces := #[7, 4], accessFlags := 1041 }

/-- [Lcom/example/tagwire/tagwire/WireType; -/
def k12 : Class := { plain "[Lcom/example/tagwire/tagwire/WireType;" (some 0) with kind := .array 6 (.object "com/example/tagwire/tagwire/WireType"), interfaces := #[7, 4], accessFlags := 1041 }

def heap : Heap := #[{ cls := 6, slots := #[.ref 2, .ref 5, .ref 4, .ref 3, .ref 6, .ref 7, .ref 1, .null], vm := .statics 6 },
  { cls := 12, slots := #[.ref 2, .ref 5, .ref 4, .ref 3, .ref 6, .ref 7], vm := .none },
  { cls := 6, slots := #[.null, .int 0, .int 0, .int 0], vm := .none },
  { cls := 6, slots := #[.null, .int 0, .int 0, .int 3], vm := .none },
  { cls := 6, slots := #[.null, .int 0, .int 0, .int 2], vm := .none },
  { cls := 6, slots := #[.null, .int 0, .int 0, .int 1], vm := .none },
  { cls := 6, slots := #[.null, .int 0, .int 0, .int 4], vm := .none },
  { cls := 6, slots := #[.null, .int 0, .int 0, .int 5], vm := .none }]
def classes : Array Class := #[k0, k1, k2, k3, k4, k5, k6, k7, k8, k9, k10, k11, k12]
def interned : List (Array UInt16 × Addr) := []
def slotsUsed : Nat := 38
def theMethod : MethodId := ⟨1, 2⟩
def args0 : Array Value := #[.int 2]
def aboutOver (below : List Frame) : State where
  vm := { classes := classes, interned := interned.toArray }
  heap := heap
  slotsUsed := slotsUsed
  threads := #[{ frames := .invoking theMethod args0 :: below }]
def below0 : List Frame := [.native { method := ⟨0, 0⟩, args := #[] }]
def about1 : State := aboutOver below0
def p0 : Program := .bare "" "" ""
def e0 : Env := launch0.env 0 0 0
theorem w_frames : about1.frames = Frame.invoking theMethod args0 :: below0 := rfl
set_option maxRecDepth 65536 in
theorem w_args : argsFit about1.vm theMethod args0 = true := by decide +kernel
set_option maxRecDepth 65536 in
theorem w_heap : heapFits about1 = true := by decide +kernel
set_option maxRecDepth 65536 in
theorem w_runnable : about1.curStatus? = some .runnable := by decide +kernel
set_option maxRecDepth 65536 in
theorem w_alone : about1.alone = true := by decide +kernel
set_option maxRecDepth 65536 in
theorem w_named : about1.methodNamed? x = some theMethod := by decide +kernel
set_option maxRecDepth 65536 in
theorem w_hears : about1.hears theMethod below0 = true := by decide +kernel
set_option maxRecDepth 65536 in
theorem w_ripe : about1.ripe theMethod args0 below0 = true := by decide +kernel
theorem w_running : about1.status = .running := rfl
set_option maxRecDepth 65536 in
theorem w_room : about1.hasRoom e0.platform room_1 = true :=
  launch0.hasRoom_least _ room_1 (by decide +kernel) (by decide +kernel) (by decide +kernel) (by decide +kernel) (by decide +kernel) (by decide +kernel)
theorem allAtoms_all (ts : List Jvm.Cond) (a : Array Jvm.Value) (st : Jvm.State) : (allAtoms ts).before a st = ts.all (fun c => c.before a st) := by
  induction ts with
  | nil => rfl
  | cons c t ih =>
    show (Jvm.Cond.and c (allAtoms t)).before a st = _
    rw [Jvm.Cond.before_and, ih, List.all_cons]
def words1 : List Jvm.Cond := Jvm.Cond.code x code maxLocals ret :: tables_1
/-- a 'code' word, met by the world's own term for the bytes: nothing is compared byte by byte -/
theorem code_word {y : MethodName} {bytes : ByteArray} {mx : Nat} {rt : Option FieldType} {a : Array Value} {s : State} {m : MethodId} {meth : Method} {c : Code} (h1 : s.methodNamed? y = some m) (h2 : s.vm.method? m = some meth) (h3 : meth.code = some c) (h4 : c.code = bytes)
    (h5 : (c.maxLocals == mx && c.exceptionTable.isEmpty && decide (c.maxStack ≤ mostOperands) && decide (meth.sig.returnType = rt) && !meth.locks && decide (parseMethodDescriptor y.desc = some meth.sig)) = true) : (Jvm.Cond.code y bytes mx rt).before a s = true := by
  simp only [Bool.and_eq_true, beq_iff_eq, Bool.not_eq_true', decide_eq_true_eq] at h5
  obtain ⟨⟨⟨⟨⟨g1, g2⟩, g3⟩, g4⟩, g5⟩, g6⟩ := h5
  simp [Cond.before, Cond.holds, Cond.value, h1, h2, h3, h4, g1, g2, g3, g4, g5, g6]
def isCode : Jvm.Cond → Bool
  | .code _ _ _ _ => true
  | _ => false
theorem all_split {L : List Jvm.Cond} {P : Jvm.Cond → Bool} (h1 : L.all (fun c => isCode c || P c) = true) (h2 : ∀ c ∈ L.filter isCode, P c = true) : L.all P = true := by
  refine List.all_eq_true.mpr fun c hc => ?_
  have h := List.all_eq_true.mp h1 c hc
  rcases Bool.eq_false_or_eq_true (isCode c) with hi | hi
  · exact h2 c (List.mem_filter.mpr ⟨hc, hi⟩)
  · simpa [hi] using h
set_option maxRecDepth 65536 in
theorem w_c0 : (Jvm.Cond.code x code maxLocals ret).before args0 about1 = true := code_word (m := ⟨1, 2⟩) (meth := k1m2) (c := k1c2) (by decide +kernel) rfl rfl rfl (by decide +kernel)
set_option maxRecDepth 65536 in
theorem w_c1 : (Jvm.Cond.code ({ cls := "com/example/tagwire/tagwire/WireType", name := "ofNumber", desc := "(I)Lcom/example/tagwire/tagwire/WireType;" } : Jvm.MethodName) prog_78_method_5_code (2 : Nat) (Option.some (Jvm.ClassFile.FieldType.object "com/example/tagwire/tagwire/WireType"))).before args0 about1 = true := code_word (m := ⟨6, 1⟩) (meth := k6m1) (c := k6c1) (by decide +kernel) rfl rfl rfl (by decide +kernel)
set_option maxRecDepth 65536 in
theorem w_c2 : (Jvm.Cond.code ({ cls := "com/example/tagwire/tagwire/WireTypeOfNumberPinLaw", name := "expected", desc := "(I)Lcom/example/tagwire/tagwire/WireType;" } : Jvm.MethodName) method_2_code (1 : Nat) (Option.some (Jvm.ClassFile.FieldType.object "com/example/tagwire/tagwire/WireType"))).before args0 about1 = true := code_word (m := ⟨1, 1⟩) (meth := k1m1) (c := k1c1) (by decide +kernel) rfl rfl rfl (by decide +kernel)
set_option maxRecDepth 65536 in
theorem w_c3 : (Jvm.Cond.code ({ cls := "com/example/tagwire/tagwire/WireType", name := "number", desc := "()I" } : Jvm.MethodName) prog_78_method_4_code (1 : Nat) (Option.some Jvm.ClassFile.FieldType.int)).before args0 about1 = true := code_word (m := ⟨6, 0⟩) (meth := k6m0) (c := k6c0) (by decide +kernel) rfl rfl rfl (by decide +kernel)
def codes1 : List Jvm.Cond := [Jvm.Cond.code x code maxLocals ret, Jvm.Cond.code ({ cls := "com/example/tagwire/tagwire/WireType", name := "ofNumber", desc := "(I)Lcom/example/tagwire/tagwire/WireType;" } : Jvm.MethodName) prog_78_method_5_code (2 : Nat) (Option.some (Jvm.ClassFile.FieldType.object "com/example/tagwire/tagwire/WireType")), Jvm.Cond.code ({ cls := "com/example/tagwire/tagwire/WireTypeOfNumberPinLaw", name := "expected", desc := "(I)Lcom/example/tagwire/tagwire/WireType;" } : Jvm.MethodName) method_2_code (1 : Nat) (Option.some (Jvm.ClassFile.FieldType.object "com/example/tagwire/tagwire/WireType")), Jvm.Cond.code ({ cls := "com/example/tagwire/tagwire/WireType", name := "number", desc := "()I" } : Jvm.MethodName) prog_78_method_4_code (1 : Nat) (Option.some Jvm.ClassFile.FieldType.int)]
set_option maxRecDepth 65536 in
theorem codes_eq : words1.filter isCode = codes1 := rfl
theorem w_codes : ∀ c ∈ words1.filter isCode, c.before args0 about1 = true := by
  rw [codes_eq]
  intro c hc
  simp only [codes1, List.mem_cons, List.not_mem_nil, or_false] at hc
  rcases hc with rfl | rfl | rfl | rfl
  · exact w_c0
  · exact w_c1
  · exact w_c2
  · exact w_c3
set_option maxRecDepth 65536 in
theorem w_t1 : (words1.take 24).all (fun c => isCode c || c.before args0 about1) = true := by decide +kernel
set_option maxRecDepth 65536 in
theorem w_t2 : (words1.drop 24).all (fun c => isCode c || c.before args0 about1) = true := by decide +kernel
theorem w_tables : (allAtoms (Jvm.Cond.code x code maxLocals ret :: tables_1)).before args0 about1 = true := by
  rw [allAtoms_all]
  show words1.all (fun c => c.before args0 about1) = true
  refine all_split ?_ w_codes
  rw [← List.take_append_drop 24 words1, List.all_append, w_t1, w_t2]
  rfl
set_option maxRecDepth 65536 in
theorem w_case : (Jvm.Cond.and given_1 narrow_1).before args0 about1 = true := by decide +kernel
theorem w_applies : (headSpec (Jvm.Cond.code x code maxLocals ret :: tables_1) room_1).applies x e0.platform about1 = true :=
  (Spec.applies_iff w_frames).mpr ⟨w_running, w_runnable, w_alone, w_named, w_hears, w_ripe, w_room, w_tables⟩
theorem atStart : AtStart classFile x code maxLocals ret World_1 tables_1 room_1 Calls_1 rest_1 Pre_1 launch0 p0 e0 about1 theMethod args0 below0 :=
  ⟨lists_1, trivial, launch0.admits_env _ _ _, launch0.least_env, fairChoices_fair.cas, fairChoices_fair.clock, w_frames, w_args, w_heap, w_applies, trivial, trivial, w_case⟩
end start1
theorem witness_1 : WitnessClaimed_1 := ⟨start1.p0, start1.e0, start1.about1, start1.theMethod, start1.args0, start1.below0, start1.atStart⟩
end Jvm.Pilot.@@N@@
